/- The head of a for loop that has nothing to lower. -/
import Derived.Test.YtoeaockleddngaaE8
import Derived.Test.YtoeaockleddngaaC2
namespace Go.Proofs.Ytoeaockleddngaa
open Go Go.RowKit
set_option maxRecDepth 100000
set_option linter.unusedVariables false

theorem as86_hit (W : World) (v : Value) : (Instr.typeAssert (.iface 86 v) 76 86 true).run Try.prog W = .ok (.tuple #[v, .bool true]) W := run_assert_hit (P := Try.prog) W v 76 86 (by kernel_rfl)
theorem as86_79 (W : World) (v : Value) : (Instr.typeAssert (.iface 79 v) 76 86 true).run Try.prog W = .ok (.tuple #[.pointer none, .bool false]) W := run_assert_miss (P := Try.prog) W v 76 86 79 (by kernel_rfl) (by kernel_rfl) (by kernel_rfl)
theorem as79_hit (W : World) (v : Value) : (Instr.typeAssert (.iface 79 v) 76 79 true).run Try.prog W = .ok (.tuple #[v, .bool true]) W := run_assert_hit (P := Try.prog) W v 76 79 (by kernel_rfl)

theorem two_new (w : World) (o : Obj) (l : List Value) (t : TypeId) (v : Value) (h : l[0]? = some v) : ((w.alloc o).alloc (.cells l.toArray t)).cell? ⟨w.heap.size + 1, 0, none⟩ = some v := by
  have := cells_new (w.alloc o) l t 0 v h
  rw [add_at, show (w.alloc o).heap.size = w.heap.size + 1 by simp] at this
  exact this
section
variable (pb sb bb : Nat) (x : Int) (w : World)
theorem for_clear (t : TypeId) (v : Value) (hp : w.cell? ⟨pb, 23, none⟩ = some (.int .u64 x)) (hx : (bits BinOp.and IntKind.u64 x 35184372088832 != 0) = false) :
    Calls Try.prog 40 #[.pointer (some ⟨pb, 0, none⟩), .agg #[.iface t v, .int .i32 0], .pointer (some ⟨bb, 0, none⟩)] w fun e w' => e = .returned (.tuple #[]) ∧ Below w.heap.size w w' := by
  have HX := Lib.hid hx
  have hpl : pb < w.heap.size := World.block_lt_of_cell? w _ hp
  clear hx
  go_enter Try.func40, Try.ntmps40
  go_wp2_with (first | (go_at_call 42; refine (has_bit x 35184372088832 _).mono ?_; rw [HX.out]; rintro ee w1 ⟨rfl, rfl⟩))
  exact bodyPost_ret (v := .tuple #[]) (by simp [results, Try.results40, go_sem]) rfl ⟨rfl, by go_grown⟩
theorem for_expr (ev : Value) (hev : ev = .nilIface ∨ ∃ ty nv, ev = .iface ty nv) (hp : w.cell? ⟨pb, 23, none⟩ = some (.int .u64 x)) (hx : (bits BinOp.and IntKind.u64 x 35184372088832 != 0) = true) (hc : w.cell? ⟨sb, 0, none⟩ = some ev) (hc1 : w.cell? ⟨sb, 1, none⟩ = some (.int .i32 0))
    (hq : ∀ W, Below w.heap.size w W → Calls Try.prog 41 #[.agg #[ev, .int .i32 0]] W fun e w' => e = .returned (.bool false) ∧ Below W.heap.size W w') :
    Calls Try.prog 40 #[.pointer (some ⟨pb, 0, none⟩), .agg #[.iface 86 (.pointer (some ⟨sb, 0, none⟩)), .int .i32 0], .pointer (some ⟨bb, 0, none⟩)] w fun e w' => e = .returned (.tuple #[]) ∧ Below w.heap.size w w' := by
  have HX := Lib.hid hx
  have H := Lib.hid hq
  have hpl : pb < w.heap.size := World.block_lt_of_cell? w _ hp
  have hsl : sb < w.heap.size := World.block_lt_of_cell? w _ hc
  have a1 := as86_hit
  have hb2 := fun (o : Obj) (o' : Obj) => ((Below.refl w.heap.size w).alloc (Nat.le_refl _) o).alloc (by simp) o'
  have HB2 := Lib.hid hb2
  clear hx hq hb2
  rcases hev with rfl | ⟨ty, nv, rfl⟩
  all_goals
    go_enter Try.func40, Try.ntmps40
    go_wp2_with (first
      | (go_at_call 42; refine (has_bit x 35184372088832 _).mono ?_; rw [HX.out]; rintro ee w1 ⟨rfl, rfl⟩)
      | (go_at_call 41; refine (H.out _ (HB2.out _ _)).mono ?_; rintro ee w1 ⟨rfl, hw1⟩
         have k0 : w1.cell? ⟨w.heap.size + 1, 0, none⟩ = some .nilIface := (hw1.cell (p := ⟨w.heap.size + 1, 0, none⟩) (by simp)).trans (two_new w _ [.nilIface, .int .i32 0] 78 _ rfl)
         have HW := Lib.hid ((HB2.out _ _).trans (hw1.mono (by simp; omega)))
         clear hw1))
    exact bodyPost_end (v := .tuple #[]) (by simp [results, Try.results40, go_sem]) rfl ⟨rfl, HW.out⟩
theorem for_local (a : Option Addr) (L c : Nat) (hL : L ≤ 65536) (hp : w.cell? ⟨pb, 23, none⟩ = some (.int .u64 x)) (hx : (bits BinOp.and IntKind.u64 x 35184372088832 != 0) = true) (hc : w.cell? ⟨sb, 0, none⟩ = some (.slice a L c))
    (hq : L = 1 → ∃ g ty nv, a = some ⟨g, 0, none⟩ ∧ w.cell? ⟨g, 0, none⟩ = some (.iface ty nv) ∧ w.cell? ⟨g, 1, none⟩ = some (.int .i32 0) ∧ ∀ W, Below w.heap.size w W → Calls Try.prog 38 #[.agg #[.iface ty nv, .int .i32 0]] W fun e w' => e = .returned (.bool false) ∧ Below W.heap.size W w') :
    Calls Try.prog 40 #[.pointer (some ⟨pb, 0, none⟩), .agg #[.iface 79 (.pointer (some ⟨sb, 0, none⟩)), .int .i32 0], .pointer (some ⟨bb, 0, none⟩)] w fun e w' => e = .returned (.tuple #[]) ∧ Below w.heap.size w w' := by
  have HX := Lib.hid hx
  have hpl : pb < w.heap.size := World.block_lt_of_cell? w _ hp
  have hsl : sb < w.heap.size := World.block_lt_of_cell? w _ hc
  have a1 := as86_79
  have a2 := as79_hit
  have hb2 := fun (o : Obj) (o' : Obj) => ((Below.refl w.heap.size w).alloc (Nat.le_refl _) o).alloc (by simp) o'
  have HB2 := Lib.hid hb2
  clear hx hb2
  by_cases h1 : L = 1
  · obtain ⟨g, ty, nv, rfl, d0, d1, hqq⟩ := hq h1
    subst h1
    have H := Lib.hid hqq
    have hgl : g < w.heap.size := World.block_lt_of_cell? w _ d0
    clear hq hqq
    go_enter Try.func40, Try.ntmps40
    go_wp2_with (first
      | (go_at_call 42; refine (has_bit x 35184372088832 _).mono ?_; rw [HX.out]; rintro ee w1 ⟨rfl, rfl⟩)
      | (go_at_call 38; refine (H.out _ (HB2.out _ _)).mono ?_; rintro ee w1 ⟨rfl, hw1⟩
         have k0 : w1.cell? ⟨w.heap.size + 1, 0, none⟩ = some .nilIface := (hw1.cell (p := ⟨w.heap.size + 1, 0, none⟩) (by simp)).trans (two_new w _ [.nilIface, .int .i32 0] 78 _ rfl)
         have HW := Lib.hid ((HB2.out _ _).trans (hw1.mono (by simp; omega)))
         clear hw1))
    exact bodyPost_end (v := .tuple #[]) (by simp [results, Try.results40, go_sem]) rfl ⟨rfl, HW.out⟩
  · have h1' : ((L : Int) == 1) = false := by simp; omega
    clear hq h1
    go_enter Try.func40, Try.ntmps40
    go_wp2_with (first
      | (go_at_call 42; refine (has_bit x 35184372088832 _).mono ?_; rw [HX.out]; rintro ee w1 ⟨rfl, rfl⟩))
    exact bodyPost_end (v := .tuple #[]) (by simp [results, Try.results40, go_sem]) rfl ⟨rfl, HB2.out _ _⟩
theorem zfor_of (t : TypeId) (v : Value) (h : ∀ W, Below w.heap.size w W → Calls Try.prog 40 #[.pointer (some ⟨pb, 0, none⟩), .agg #[.iface t v, .int .i32 0], .pointer (some ⟨bb, 0, none⟩)] W fun e w' => e = .returned (.tuple #[]) ∧ Below w.heap.size w w') :
    Calls Try.prog 31 #[.pointer (some ⟨pb, 0, none⟩), .agg #[.iface t v, .int .i32 0], .pointer (some ⟨bb, 0, none⟩)] w fun e w' => e = .returned (.tuple #[]) ∧ Below w.heap.size w w' := by
  have H := Lib.hid h
  clear h
  go_enter Try.func31, Try.ntmps31
  go_wp2_with (first | (go_at_call 40; refine (H.out _ ?_).mono ?_; go_grown; rintro ee w1 ⟨rfl, hw1⟩; have HW := Lib.hid hw1; clear hw1))
  exact bodyPost_end (v := .tuple #[]) (by simp [results, Try.results31, go_sem]) rfl ⟨rfl, HW.out⟩
/-- The exported query. -/
theorem ezhas_of (ev : Value) (b : Bool) (hev : ev = .nilIface ∨ ∃ ty nv, ev = .iface ty nv) (h : ∀ W, Below w.heap.size w W → Calls Try.prog 41 #[.agg #[ev, .int .i32 0]] W fun e w' => e = .returned (.bool b) ∧ Below W.heap.size W w') :
    Calls Try.prog 35 #[.agg #[ev, .int .i32 0]] w fun e w' => e = .returned (.bool b) ∧ Below w.heap.size w w' := by
  have H : Hid (∀ W, Below w.heap.size w W → Calls Try.prog 41 #[.agg #[ev, .int .i32 0]] W fun e w' => e = .returned (.bool b) ∧ Below w.heap.size w w') := Lib.hid fun W hW => (h W hW).mono fun e w' hh => ⟨hh.1, hW.trans (hh.2.mono hW.size)⟩
  clear h
  rcases hev with rfl | ⟨ty, nv, rfl⟩
  all_goals
    go_enter Try.func35, Try.ntmps35
    go_wp2_with (first | (go_at_call 41; refine (H.out _ ?_).mono ?_; go_grown; rintro ee w1 ⟨rfl, hw1⟩; have HW := Lib.hid hw1; clear hw1))
    go_ret
    exact ⟨rfl, HW.out⟩
end
end Go.Proofs.Ytoeaockleddngaa
