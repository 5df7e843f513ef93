/- zzDeclsRun: the declarations that it builds. -/
import Derived.Test.YtoeaockleddngaaW7
import Derived.Test.YtoeaockleddngaaWB
namespace Go.Proofs.Ytoeaockleddngaa
open Go Go.RowKit
set_option maxRecDepth 100000
set_option linter.unusedVariables false

theorem info51 : (Try.prog.info? 51).map (fun i => (i.zero, i.size, i.bytes)) = some (some (.agg #[.nilIface, .int .i32 0, .nilIface, .int .i32 0]), 4, 48) := by kernel_rfl
theorem four_pos : 0 < 4 := by decide
/-- ZZLowerDecls: the wrapper. -/
theorem zdecls_of {a : Option Addr} {L c pb : Nat} {w : World} (h : Calls Try.prog 37 #[.pointer (some ⟨pb, 0, none⟩), .slice a L c] w fun e w' => e = .returned (.slice a L c) ∧ Below w.heap.size w w') :
    Calls Try.prog 26 #[.pointer (some ⟨pb, 0, none⟩), .slice a L c] w fun e w' => e = .returned (.slice a L c) ∧ Below w.heap.size w w' := by
  have H := Lib.hid h
  clear h
  go_enter Try.func26, Try.ntmps26
  go_wp2_with (first | (go_at_call 37; refine H.out.mono ?_; rintro ee w1 ⟨rfl, hw1⟩; have HW := Lib.hid hw1; clear hw1))
  go_ret
  exact ⟨rfl, HW.out⟩

theorem flatMap_same {α : Type} (l : List α) (f g : α → List Value) (h : ∀ a ∈ l, f a = g a) : l.flatMap f = l.flatMap g := by
  induction l with
  | nil => rfl
  | cons a l ih => simp only [List.flatMap_cons]; rw [h a (by simp), ih fun b hb => h b (by simp [hb])]
def itemD (K : Nat → Nat) (w0 : Nat) (R : Nat → Nat) (E : Nat → Value) (t : Nat) : List Value := [nodeV (K (R t)) (w0 + 3 + R t), .int .i32 0, E t, .int .i32 0]
theorem itemD_upd (K : Nat → Nat) (w0 : Nat) (R : Nat → Nat) (E : Nat → Value) (t : Nat) (v : Value) :
    (List.range (t + 1)).flatMap (itemD K w0 R (Fo.upd E t v)) = (List.range t).flatMap (itemD K w0 R E) ++ [nodeV (K (R t)) (w0 + 3 + R t), .int .i32 0, v, .int .i32 0] := by
  rw [List.range_succ, List.flatMap_append]
  congr 1
  · refine flatMap_same _ _ _ ?_
    intro u hu
    have : u < t := by simpa using hu
    unfold itemD
    rw [Fo.upd_other _ _ _ _ (by omega)]
  · simp [itemD, Fo.upd_same]
/-- The row of the declarations, as the query reads it. -/
theorem decls_form {K : Nat → Nat} {w0 : Nat} {R : Nat → Nat} {E : Nat → Value} {w : World} {B L : Nat} {v : Value} (h : w.ownsRow B 51 4 v L ((List.range L).flatMap (itemD K w0 R E))) :
    ∃ a c, v = .slice a L c ∧ Decls K w0 R E w a L := by
  rcases h.2 with ⟨e, hl⟩ | ⟨g, cap, cur, e, hbg, hg, rest⟩
  · exact ⟨none, 0, by rw [e, hl], fun t ht => by omega⟩
  · refine ⟨_, cap, e, fun t ht => ⟨g, rfl, (Array.getElem?_eq_some_iff.1 hg).1, ?_⟩⟩
    have hh := h
    rw [e] at hh
    have hc := hh.cells (g := g) rfl
    have hx : ∀ j u, j < 4 → (itemD K w0 R E t)[j]? = some u → w.cell? ⟨g, t * 4 + j, none⟩ = some u := fun j u hj hu => by
      have := hc (t * 4 + j) u ((flat_get (List.range L) (itemD K w0 R E) 4 (fun _ => rfl) t j t (by simp [ht]) hj).trans hu)
      rw [add_at] at this; exact this
    exact ⟨hx 0 _ (by decide) rfl, hx 1 _ (by decide) rfl, hx 2 _ (by decide) rfl, hx 3 _ (by decide) rfl⟩
end Go.Proofs.Ytoeaockleddngaa
