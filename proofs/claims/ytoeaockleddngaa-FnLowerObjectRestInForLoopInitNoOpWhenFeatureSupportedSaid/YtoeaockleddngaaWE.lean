/- The two laws on declarations, as the program walks them. -/
import Derived.Test.YtoeaockleddngaaWD
namespace Go.Proofs.Ytoeaockleddngaa
open Go Go.RowKit
set_option maxRecDepth 100000
set_option linter.unusedVariables false

section
variable (ka pa sa ia : Option Addr) (n kc pn pc sn sc im ic : Nat) (w : World) (x : Int)
theorem bytes9 (hn : n ≤ maxLen) (hpn : pn ≤ maxLen) (hsn : sn ≤ maxLen) (him : im ≤ maxLen) :
    Calls Try.prog 9 #[.int .u64 x, .slice ka n kc, .slice pa pn pc, .slice sa sn sc, .slice ia im ic] w fun e w' => ∃ b, e = .returned (.bool b) ∧ w = w' := by
  unfold maxLen at hn hpn hsn him
  go_enter Try.func9, Try.ntmps9
  go_wp2
  all_goals (go_ret; exact ⟨_, rfl, rfl⟩)
theorem bytes11 (hn : n ≤ maxLen) (hpn : pn ≤ maxLen) (hsn : sn ≤ maxLen) (him : im ≤ maxLen) :
    Calls Try.prog 11 #[.int .u64 x, .slice ka n kc, .slice pa pn pc, .slice sa sn sc, .slice ia im ic] w fun e w' => ∃ b, e = .returned (.bool b) ∧ w = w' := by
  unfold maxLen at hn hpn hsn him
  go_enter Try.func11, Try.ntmps11
  go_wp2
  all_goals (go_ret; exact ⟨_, rfl, rfl⟩)

theorem law3 (K : Nat → Nat) (Q : Nat → Int) (S I : Nat → Bool) (hn : n ≤ maxLen) (hpn : pn ≤ maxLen) (hsn : sn ≤ maxLen) (him : im ≤ maxLen) (hK : ∀ j, K j ≤ 255) (hQ : ∀ j, -2147483648 ≤ Q j ∧ Q j ≤ 2147483647)
    (hk : Arr w ka n fun j => .int .u8 (K j)) (hp : Arr w pa pn fun j => .int .i32 (Q j)) (hs : Arr w sa sn fun j => .bool (S j)) (hi : Arr w ia im fun j => .bool (I j)) :
    Calls Try.prog 3 #[.int .u64 x, .slice ka n kc, .slice pa pn pc, .slice sa sn sc, .slice ia im ic] w fun e w' => e = .returned (.bool true) ∧ Below w.heap.size w w' := by
  have BY := Lib.hid (bytes9 ka pa sa ia n kc pn pc sn sc im ic w x hn hpn hsn him)
  have RUN : Hid (n ≤ 65536 → pn ≤ 65536 → sn ≤ 65536 → im ≤ 65536 → (bits BinOp.and IntKind.u64 x 35184372088832 != 0) = false → Calls Try.prog 10 #[.int .u64 x, .slice ka n kc, .slice pa pn pc, .slice sa sn sc, .slice ia im ic] w fun e w' => e = .returned (.bool true) ∧ Below w.heap.size w w') :=
    Lib.hid fun h1 h2 h3 h4 h5 => run_any ka pa sa ia n kc pn pc sn sc im ic K Q S I w x h1 h2 h3 h4 hK hQ hk hp hs hi (.inl h5)
  unfold maxLen at hn hpn hsn him
  clear hk hp hs hi hK hQ
  cases hb : (bits BinOp.and IntKind.u64 x 35184372088832 != 0)
  all_goals
    go_enter Try.func3, Try.ntmps3
    go_wp2_with (first
      | (go_at_call 9; refine BY.out.mono ?_; rintro ee w1 ⟨b, rfl, rfl⟩; cases b)
      | (go_at_call 10; refine Calls.mono (RUN.out ?_ ?_ ?_ ?_ ?_) ?_; omega; omega; omega; omega; exact hb; rintro ee w2 ⟨rfl, h2⟩))
    all_goals go_ret
    all_goals first | exact ⟨rfl, h2⟩ | exact ⟨rfl, Below.refl _ _⟩

theorem law4 (K : Nat → Nat) (Q : Nat → Int) (S I : Nat → Bool) (hn : n ≤ maxLen) (hpn : pn ≤ maxLen) (hsn : sn ≤ maxLen) (him : im ≤ maxLen) (hK : ∀ j, K j ≤ 255) (hQ : ∀ j, -2147483648 ≤ Q j ∧ Q j ≤ 2147483647)
    (hk : Arr w ka n fun j => .int .u8 (K j)) (hp : Arr w pa pn fun j => .int .i32 (Q j)) (hs : Arr w sa sn fun j => .bool (S j)) (hi : Arr w ia im fun j => .bool (I j)) :
    Calls Try.prog 4 #[.int .u64 x, .slice ka n kc, .slice pa pn pc, .slice sa sn sc, .slice ia im ic] w fun e w' => e = .returned (.bool true) ∧ Below w.heap.size w w' := by
  have BY := Lib.hid (bytes11 ka pa sa ia n kc pn pc sn sc im ic w x hn hpn hsn him)
  have NEED : Hid (n ≤ 65536 → pn ≤ 65536 → sn ≤ 65536 → im ≤ 65536 → Calls Try.prog 12 #[.slice ka n kc, .slice pa pn pc, .slice sa sn sc, .slice ia im ic] w fun e w' => ∃ bv, e = .returned (.bool bv) ∧ Below w.heap.size w w' ∧ (bv = false → Hid (∀ t, t < (Fo.sh K (qOf pn Q) n).roots.length → fOf im I t = true → Fo.hr K (Fo.sh K (qOf pn Q) n).par (fOf sn S) n (rt (Fo.sh K (qOf pn Q) n).roots t) = false))) :=
    Lib.hid fun h1 h2 h3 h4 => (need_any ka pa sa ia n kc pn pc sn sc im ic K Q S I w h1 h2 h3 h4 hK hQ hk hp hs hi).mono fun e w' ⟨bv, e1, e2, e3⟩ => ⟨bv, e1, e2, fun h => Lib.hid (e3 h)⟩
  have RUN : Hid (∀ W, Below w.heap.size w W → n ≤ 65536 → pn ≤ 65536 → sn ≤ 65536 → im ≤ 65536 → (bits BinOp.and IntKind.u64 x 35184372088832 != 0) = true → Hid (∀ t, t < (Fo.sh K (qOf pn Q) n).roots.length → fOf im I t = true → Fo.hr K (Fo.sh K (qOf pn Q) n).par (fOf sn S) n (rt (Fo.sh K (qOf pn Q) n).roots t) = false) → Calls Try.prog 10 #[.int .u64 x, .slice ka n kc, .slice pa pn pc, .slice sa sn sc, .slice ia im ic] W fun e w' => e = .returned (.bool true) ∧ Below w.heap.size w w') :=
    Lib.hid fun W hW h1 h2 h3 h4 h5 h6 => (run_any ka pa sa ia n kc pn pc sn sc im ic K Q S I W x h1 h2 h3 h4 hK hQ (hk.below hW (Nat.le_refl _)) (hp.below hW (Nat.le_refl _)) (hs.below hW (Nat.le_refl _)) (hi.below hW (Nat.le_refl _)) (.inr ⟨h5, h6.out⟩)).mono fun e w' h => ⟨h.1, hW.trans (h.2.mono hW.size)⟩
  unfold maxLen at hn hpn hsn him
  clear hk hp hs hi hK hQ
  cases hb : (bits BinOp.and IntKind.u64 x 35184372088832 != 0)
  all_goals
    have hb2 : (bits BinOp.and IntKind.u64 x 35184372088832 == 0) = !(bits BinOp.and IntKind.u64 x 35184372088832 != 0) := by simp [bne]
    rw [hb] at hb2
    simp only [Bool.not_true, Bool.not_false] at hb2
    go_enter Try.func4, Try.ntmps4
    go_wp2_with (first
      | (go_at_call 11; refine BY.out.mono ?_; rintro ee w1 ⟨b, rfl, rfl⟩; cases b)
      | (go_at_call 12; refine Calls.mono (NEED.out ?_ ?_ ?_ ?_) ?_; omega; omega; omega; omega; rintro ee w2 ⟨bv, rfl, h2, h3⟩; have H3 := Lib.hid h3; have H2 := Lib.hid h2; clear h3 h2; cases bv)
      | (go_at_call 10; (refine Calls.mono (RUN.out _ H2.out ?_ ?_ ?_ ?_ ?_ (H3.out ?_)) ?_; omega; omega; omega; omega; exact hb; (first | exact rfl | exact trivial); rintro ee w4 ⟨rfl, h4⟩)))
    all_goals go_ret
    all_goals first | exact ⟨rfl, h4⟩ | exact ⟨rfl, H2.out⟩ | exact ⟨rfl, Below.refl _ _⟩
end
end Go.Proofs.Ytoeaockleddngaa
