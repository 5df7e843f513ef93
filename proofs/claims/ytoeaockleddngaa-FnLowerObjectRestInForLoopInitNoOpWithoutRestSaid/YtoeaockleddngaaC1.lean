/- The statements of a body, the test that they are the same ones, the query at no binding, the catch clause that has nothing to lower. -/
import Derived.Test.YtoeaockleddngaaWE
namespace Go.Proofs.Ytoeaockleddngaa
open Go Go.RowKit
set_option maxRecDepth 100000
set_option linter.unusedVariables false

theorem info78 : (Try.prog.info? 78).map (fun i => (i.zero, i.size, i.bytes)) = some (some (.agg #[.nilIface, .int .i32 0]), 2, 24) := by kernel_rfl
theorem run_eql_ptr_same {P : Program} (w : World) {tp te : TypeId} {j : TypeInfo} (a : Addr) (hp : P.underlying tp = some (.pointer te)) (hte : P.info? te = some j) :
    (binOp .eql tp (.pointer (some a)) (.pointer (some a))).run P w = .ok (.bool true) w := by
  have h : ∀ d : Nat, (Op.equalIn (d + 1) tp (.pointer (some a)) (.pointer (some a))).run P w = .ok true w := fun d => by
    simp [Op.equalIn, run_underlying hp, sizeOf, typeInfo, hte, run_sameAddr_same]
  simp only [binOp]
  simp [Op.equal, Op.maxDepth, h 9999]
/-- What zzMakeStmts answers. -/
def Made (n : Nat) (e : Ending) : Prop := ∃ a c, e = .returned (.slice a n c) ∧ (0 < n → ∃ g, a = some ⟨g, 0, none⟩)
set_option maxHeartbeats 1000000 in
theorem make_any (n : Nat) (hn : n ≤ 65535) (w : World) : Calls Try.prog 28 #[.int .i64 n] w fun e w' => Made n e ∧ Below w.heap.size w w' := by
  by_cases h0 : n = 0
  · subst h0
    go_enter Try.func28, Try.ntmps28
    go_wp2
    go_ret
    exact ⟨⟨none, 0, rfl, fun h => absurd h (by decide)⟩, Below.refl _ _⟩
  · have hne : ((n : Int) == 0) = false := by simp; omega
    have hpos : 0 < n := by omega
    obtain ⟨i0, hi, hz0, hz1, hz2⟩ := info_parts info78
    have hmk := fun W => run_make (P := Try.prog) W 64 78 i0 _ Try.underlying64 hi hz0 .i64 .i64 n n (by omega) (by omega) (by rw [hz2]; omega) (by omega)
    rw [hz1] at hmk
    clear hi hz0 hz1 hz2
    go_enter Try.func28, Try.ntmps28
    go_wp2
    go_loopw [4] (fun iv wr => ∃ k : Nat, k ≤ n ∧ iv = .int .i64 k ∧ (∃ f, wr.rowIs w.heap.size 78 (n * 2) f) ∧ Below w.heap.size w wr)
      (fun iv _ => n - (intOf iv).toNat)
    case atStart =>
      refine ⟨0, by omega, rfl, ⟨fun i => ((madeCells #[.nilIface, .int .i32 0] (n * 2))[i]?).getD .nilIface, ?_⟩, by go_grown⟩
      have h := World.rowIs_alloc w (madeCells #[.nilIface, .int .i32 0] (n * 2)) 78 (fun i => ((madeCells #[.nilIface, .int .i32 0] (n * 2))[i]?).getD .nilIface) (fun i hi => by simp [hi])
      rw [size_madeCells] at h
      exact h
    case round =>
      obtain ⟨k, hkn, rfl, ⟨f, hrow⟩, hbel⟩ := hrel
      have HROW := Lib.hid hrow
      have HB := Lib.hid hbel
      clear hrow hbel
      by_cases hlt : k < n
      · have c1 := HROW.out.cell (i := k * 2) (by omega)
        have f1 := HROW.out.frozen (k * 2)
        have c2 := HROW.out.cell (i := k * 2 + 1) (by omega)
        have f2 := HROW.out.frozen (k * 2 + 1)
        have l1 := HROW.out.lt
        have hge : w.heap.size ≤ wr.heap.size := by omega
        go_wp2
        go_roundw
        case rel =>
          have hbel := HB.out
          refine ⟨k + 1, by omega, by go_num, ?_, by go_grown⟩
          exact ⟨_, ((HROW.out.set (k * 2) _).set (k * 2 + 1) _).alloc _⟩
        case measure => simp [intOf]; omega
      · go_wp2
        go_ret
        have hkn' : k = n := by omega
        exact ⟨⟨_, _, rfl, fun _ => ⟨_, rfl⟩⟩, HB.out⟩
theorem same_any (a : Option Addr) (n c : Nat) (hn : n ≤ 65535) (ha : 0 < n → ∃ g, a = some ⟨g, 0, none⟩) (w : World) :
    Calls Try.prog 30 #[.slice a n c, .slice a n c, .int .i64 n] w fun e w' => e = .returned (.bool true) ∧ Below w.heap.size w w' := by
  by_cases h0 : n = 0
  · subst h0
    go_enter Try.func30, Try.ntmps30
    go_wp2_with fail
    go_quiet (fail)
    go_wp2_with fail
    go_ret
    exact ⟨rfl, below_drewN (Below.refl _ _) _⟩
  · obtain ⟨g, rfl⟩ := ha (by omega)
    have hne : ((n : Int) == 0) = false := by simp; omega
    have hpos : 0 < n := by omega
    obtain ⟨i0, hi, hz0, hz1, hz2⟩ := info_parts info78
    have hpe := fun W => run_eql_ptr_same (P := Try.prog) W (tp := 74) ⟨g, 0, none⟩ Try.underlying74 hi
    have hz4 : decide ((0 : Int) < n) = true := by simpa using hpos
    clear hz0 hz1 hz2 hi h0
    go_enter Try.func30, Try.ntmps30
    go_wp2_with fail
    go_quiet (fail)
    go_wp2_with fail
    go_ret
    exact ⟨rfl, below_drewN (Below.refl _ _) _⟩
end Go.Proofs.Ytoeaockleddngaa
