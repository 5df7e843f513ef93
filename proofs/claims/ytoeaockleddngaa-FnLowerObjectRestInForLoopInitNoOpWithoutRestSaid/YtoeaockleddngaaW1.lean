import Derived.Test.YtoeaockleddngaaProg
import Derived.Test.YtoeaockleddngaaB0
import Derived.Test.YtoeaockleddngaaFo
import Derived.Deep.QuietTactic
import Derived.BigQuiet
namespace Go.Proofs.Ytoeaockleddngaa
open Go Go.RowKit
set_option maxRecDepth 100000
set_option linter.unusedVariables false

/-- A slice of n one-cell elements that came in: where it has an element it lies at a block. -/
def Arr (w : World) (a : Option Addr) (n : Nat) (f : Nat → Value) : Prop := ∀ j, j < n → ∃ b off, a = some ⟨b, off, none⟩ ∧ w.cell? ⟨b, off + j, none⟩ = some (f j)
theorem Arr.below {w w' : World} {a : Option Addr} {n B : Nat} {f : Nat → Value} (h : Arr w a n f) (hb : Below B w w') (hB : w.heap.size ≤ B) : Arr w' a n f := by
  intro j hj
  obtain ⟨b, off, h1, h2⟩ := h j hj
  exact ⟨b, off, h1, (hb.cell (Nat.lt_of_lt_of_le (World.block_lt_of_cell? w ⟨b, off + j, none⟩ h2) hB)).trans h2⟩

/-- zzAt: the entry, or 0 past the end. -/
theorem at_any (a : Option Addr) (n c : Nat) (Q : Nat → Int) (i : Nat) (w : World) (hn : n ≤ 1048576) (hi : i ≤ 1048576) (q : Int) (hq : Hid (q = if i < n then Q i else 0)) (h : Arr w a n fun j => .int .i32 (Q j)) :
    Calls Try.prog 36 #[.slice a n c, .int .i64 i] w fun e w' => e = .returned (.int .i32 q) ∧ w = w' := by
  rw [hq.out]
  clear hq
  by_cases hlt : i < n
  · obtain ⟨b, off, rfl, hc⟩ := h i hlt
    clear h
    rw [if_pos hlt]
    go_enter Try.func36, Try.ntmps36
    go_wp2
    go_ret
    exact ⟨rfl, rfl⟩
  · clear h
    rw [if_neg hlt]
    go_enter Try.func36, Try.ntmps36
    go_wp2
    go_ret
    exact ⟨rfl, rfl⟩

/-- zzFlag: the entry, or false past the end. -/
theorem flag_any (a : Option Addr) (n c : Nat) (S : Nat → Bool) (i : Nat) (w : World) (hn : n ≤ 1048576) (hi : i ≤ 1048576) (h : Arr w a n fun j => .bool (S j)) :
    Calls Try.prog 24 #[.slice a n c, .int .i64 i] w fun e w' => e = .returned (.bool (decide (i < n) && S i)) ∧ w = w' := by
  by_cases hlt : i < n
  · obtain ⟨b, off, rfl, hc⟩ := h i hlt
    clear h
    rw [decide_eq_true hlt, Bool.true_and]
    go_enter Try.func24, Try.ntmps24
    go_wp2
    go_ret
    exact ⟨rfl, rfl⟩
  · clear h
    rw [decide_eq_false hlt, Bool.false_and]
    go_enter Try.func24, Try.ntmps24
    go_wp2
    go_ret
    exact ⟨rfl, rfl⟩
end Go.Proofs.Ytoeaockleddngaa
