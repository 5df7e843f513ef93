/- The catch clause that has nothing to lower. -/
import Derived.Test.YtoeaockleddngaaC1
namespace Go.Proofs.Ytoeaockleddngaa
open Go Go.RowKit
set_option maxRecDepth 100000
set_option linter.unusedVariables false

theorem assert93_nil (W : World) : (Instr.typeAssert .nilIface 41 93 true).run Try.prog W = .ok (.tuple #[.pointer none, .bool false]) W := run_assert_nil (P := Try.prog) W 41 93 (by kernel_rfl) (by kernel_rfl)
theorem assert97_nil (W : World) : (Instr.typeAssert .nilIface 41 97 true).run Try.prog W = .ok (.tuple #[.pointer none, .bool false]) W := run_assert_nil (P := Try.prog) W 41 97 (by kernel_rfl) (by kernel_rfl)
/-- The query where there is no binding. -/
theorem has_nil (w : World) : Calls Try.prog 38 #[.agg #[.nilIface, .int .i32 0]] w fun e w' => e = .returned (.bool false) ∧ Below w.heap.size w w' := by
  have h1 := assert93_nil
  have h2 := assert97_nil
  go_enter Try.func38, Try.ntmps38
  go_wp2
  go_ret
  exact ⟨rfl, by go_grown⟩
theorem zhas_nil (w : World) : Calls Try.prog 27 #[.agg #[.nilIface, .int .i32 0]] w fun e w' => e = .returned (.bool false) ∧ Below w.heap.size w w' := by
  have H1 : Hid (∀ W, Below w.heap.size w W → Calls Try.prog 38 #[.agg #[.nilIface, .int .i32 0]] W fun e w' => e = .returned (.bool false) ∧ Below w.heap.size w w') :=
    Lib.hid fun W hb => (has_nil W).mono fun e w' h => ⟨h.1, hb.trans (h.2.mono hb.size)⟩
  go_enter Try.func27, Try.ntmps27
  go_wp2_with (first | (go_at_call 38; refine (H1.out _ ?_).mono ?_; go_grown; rintro ee w1 ⟨rfl, hw1⟩; have HW := Lib.hid hw1; clear hw1))
  go_ret
  exact ⟨rfl, HW.out⟩

section
variable (pb cb : Nat) (x : Int) (w : World)
theorem catch_clear (hp : w.cell? ⟨pb, 23, none⟩ = some (.int .u64 x)) (hx : (bits BinOp.and IntKind.u64 x 35184372088832 != 0) = false) :
    Calls Try.prog 39 #[.pointer (some ⟨pb, 0, none⟩), .pointer (some ⟨cb, 0, none⟩)] w fun e w' => e = .returned (.tuple #[]) ∧ w = w' := by
  have HX := Lib.hid hx
  clear hx
  go_enter Try.func39, Try.ntmps39
  go_wp2_with (first | (go_at_call 42; refine (has_bit x 35184372088832 _).mono ?_; rw [HX.out]; rintro ee w1 ⟨rfl, rfl⟩))
  exact bodyPost_ret (v := .tuple #[]) (by simp [results, Try.results39, go_sem]) rfl ⟨rfl, rfl⟩
theorem catch_nil (hp : w.cell? ⟨pb, 23, none⟩ = some (.int .u64 x)) (hx : (bits BinOp.and IntKind.u64 x 35184372088832 != 0) = true) (hc : w.cell? ⟨cb, 0, none⟩ = some .nilIface) :
    Calls Try.prog 39 #[.pointer (some ⟨pb, 0, none⟩), .pointer (some ⟨cb, 0, none⟩)] w fun e w' => e = .returned (.tuple #[]) ∧ w = w' := by
  have HX := Lib.hid hx
  clear hx
  go_enter Try.func39, Try.ntmps39
  go_wp2_with (first | (go_at_call 42; refine (has_bit x 35184372088832 _).mono ?_; rw [HX.out]; rintro ee w1 ⟨rfl, rfl⟩))
  exact bodyPost_end (v := .tuple #[]) (by simp [results, Try.results39, go_sem]) rfl ⟨rfl, rfl⟩
theorem catch_none (ty : TypeId) (nv : Value) (hp : w.cell? ⟨pb, 23, none⟩ = some (.int .u64 x)) (hx : (bits BinOp.and IntKind.u64 x 35184372088832 != 0) = true) (hc : w.cell? ⟨cb, 0, none⟩ = some (.iface ty nv)) (hc1 : w.cell? ⟨cb, 1, none⟩ = some (.int .i32 0))
    (hq : Calls Try.prog 38 #[.agg #[.iface ty nv, .int .i32 0]] w fun e w' => e = .returned (.bool false) ∧ Below w.heap.size w w') :
    Calls Try.prog 39 #[.pointer (some ⟨pb, 0, none⟩), .pointer (some ⟨cb, 0, none⟩)] w fun e w' => e = .returned (.tuple #[]) ∧ Below w.heap.size w w' := by
  have HX := Lib.hid hx
  have H := Lib.hid hq
  clear hx hq
  go_enter Try.func39, Try.ntmps39
  go_wp2_with (first
    | (go_at_call 42; refine (has_bit x 35184372088832 _).mono ?_; rw [HX.out]; rintro ee w1 ⟨rfl, rfl⟩)
    | (go_at_call 38; refine H.out.mono ?_; rintro ee w1 ⟨rfl, hw1⟩; have HW := Lib.hid hw1; clear hw1))
  exact bodyPost_end (v := .tuple #[]) (by simp [results, Try.results39, go_sem]) rfl ⟨rfl, HW.out⟩
theorem zcatch_of (h : Calls Try.prog 39 #[.pointer (some ⟨pb, 0, none⟩), .pointer (some ⟨cb, 0, none⟩)] w fun e w' => e = .returned (.tuple #[]) ∧ Below w.heap.size w w') :
    Calls Try.prog 29 #[.pointer (some ⟨pb, 0, none⟩), .pointer (some ⟨cb, 0, none⟩)] w fun e w' => e = .returned (.tuple #[]) ∧ Below w.heap.size w w' := by
  have H := Lib.hid h
  clear h
  go_enter Try.func29, Try.ntmps29
  go_wp2_with (first | (go_at_call 39; refine H.out.mono ?_; rintro ee w1 ⟨rfl, hw1⟩; have HW := Lib.hid hw1; clear hw1))
  exact bodyPost_end (v := .tuple #[]) (by simp [results, Try.results29, go_sem]) rfl ⟨rfl, HW.out⟩
end
end Go.Proofs.Ytoeaockleddngaa
