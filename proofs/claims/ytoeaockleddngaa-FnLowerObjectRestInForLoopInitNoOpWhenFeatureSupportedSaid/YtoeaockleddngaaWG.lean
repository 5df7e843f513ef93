/- Slices of numbers and of truth values that came in, opened as the walks want them. -/
import Derived.Test.YtoeaockleddngaaWF
import Derived.Test.YtoeaockleddngaaRows
import Derived.ShutString
import Derived.ChangeOld
namespace Go.Proofs.Ytoeaockleddngaa
open Go Go.RowKit Go.ChangeShapes Go.WideShapes Go.ChangeAt
set_option linter.unusedVariables false
section
variable {H : Type} {enc : TypeId × Value → H} {P : Program} {W : World} {base : Nat} {held : Bool} {t e : TypeId} {a : Option Addr} {len cap : Nat} {d : DataW H} {p : List MemPlace}
theorem arr_ints {k : IntKind} (hk0 : (Lit.int k 0).wf = true) (ht : P.underlying t = some (.slice e)) (he : P.underlying e = some (.int k)) (hc : P.cellsOf e = 1)
    (hd : DataW.Trod enc P W base (fun _ => true) held t (.slice a len cap) d p) : len ≤ maxLen ∧ ∃ Q : Nat → Int, (∀ j, (Lit.int k (Q j)).wf = true) ∧ Arr W a len fun j => .int k (Q j) := by
  obtain ⟨fuel, hf⟩ := hd
  rcases open_ints ht he hc hf with ⟨hcs, _⟩ | ⟨x, l, c, zs, hcs, _, hl, hm, hz, _, hcell, hwz⟩
  · simp [Value.cells] at hcs
    obtain ⟨rfl, rfl, rfl⟩ := hcs
    exact ⟨Nat.zero_le _, fun _ => 0, fun _ => hk0, arr_nil _ _⟩
  · simp [Value.cells] at hcs
    obtain ⟨rfl, rfl, rfl⟩ := hcs
    refine ⟨Nat.le_trans hl hm, fun j => zs.getD j 0, fun j => ?_, arr_of fun i hi => hcell i (by have := hz; simp at this; omega)⟩
    by_cases hj : j < zs.length
    · have := hwz zs[j] (List.getElem_mem hj)
      simpa [List.getD_eq_getElem?_getD, hj] using this
    · simpa [List.getD_eq_getElem?_getD, List.getElem?_eq_none (by omega : zs.length ≤ j)] using hk0
theorem arr_bytes (ht : P.underlying t = some (.slice e)) (he : P.underlying e = some (.int .u8)) (hc : P.cellsOf e = 1)
    (hd : DataW.Trod enc P W base (fun _ => true) held t (.slice a len cap) d p) : len ≤ maxLen ∧ ∃ K : Nat → Nat, (∀ j, K j ≤ 255) ∧ Arr W a len fun j => .int .u8 (K j) := by
  obtain ⟨h1, Q, h2, h3⟩ := arr_ints (k := .u8) rfl ht he hc hd
  refine ⟨h1, fun j => (Q j).toNat, fun j => by have := bounds_u8 (h2 j); show (Q j).toNat ≤ 255; omega, ?_⟩
  have e : (fun j => Value.int .u8 ((Q j).toNat : Int)) = fun j => Value.int .u8 (Q j) := by
    funext j
    have := bounds_u8 (h2 j)
    rw [show ((Q j).toNat : Int) = Q j by omega]
  exact e ▸ h3
theorem arr_i32 (ht : P.underlying t = some (.slice e)) (he : P.underlying e = some (.int .i32)) (hc : P.cellsOf e = 1)
    (hd : DataW.Trod enc P W base (fun _ => true) held t (.slice a len cap) d p) : len ≤ maxLen ∧ ∃ Q : Nat → Int, (∀ j, -2147483648 ≤ Q j ∧ Q j ≤ 2147483647) ∧ Arr W a len fun j => .int .i32 (Q j) := by
  obtain ⟨h1, Q, h2, h3⟩ := arr_ints (k := .i32) rfl ht he hc hd
  exact ⟨h1, Q, fun j => bounds_i32 (h2 j), h3⟩
theorem arr_bools (ht : P.underlying t = some (.slice e)) (he : P.underlying e = some .bool) (hc : P.cellsOf e = 1)
    (hd : DataW.Trod enc P W base (fun _ => true) held t (.slice a len cap) d p) : len ≤ maxLen ∧ ∃ S : Nat → Bool, Arr W a len fun j => .bool (S j) := by
  obtain ⟨fuel, hf⟩ := hd
  rcases Go.Deep.open_bools ht he hc hf with ⟨hcs, _⟩ | ⟨x, l, c, B, hcs, _, hl, hm, _, hcell⟩
  · simp [Value.cells] at hcs
    obtain ⟨rfl, rfl, rfl⟩ := hcs
    exact ⟨Nat.zero_le _, fun _ => false, arr_nil _ _⟩
  · simp [Value.cells] at hcs
    obtain ⟨rfl, rfl, rfl⟩ := hcs
    exact ⟨Nat.le_trans hl hm, B, arr_of fun i hi => hcell i (by omega)⟩
end
end Go.Proofs.Ytoeaockleddngaa
