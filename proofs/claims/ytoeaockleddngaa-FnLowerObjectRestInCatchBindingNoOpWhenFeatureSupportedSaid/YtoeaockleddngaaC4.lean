/- The two laws on catch clauses, as the program walks them. -/
import Derived.Test.YtoeaockleddngaaC3
namespace Go.Proofs.Ytoeaockleddngaa
open Go Go.RowKit
set_option maxRecDepth 100000
set_option linter.unusedVariables false

def NeedC (n pn sn : Nat) (K : Nat → Nat) (Q : Nat → Int) (S : Nat → Bool) (hbd : Bool) (w : World) (e : Ending) (w' : World) : Prop :=
  ∃ bv, e = .returned (.bool bv) ∧ Below w.heap.size w w' ∧ (bv = false → hbd = true → 0 < (Fo.sh K (qOf pn Q) n).roots.length → Fo.hr K (Fo.sh K (qOf pn Q) n).par (fOf sn S) n (rt (Fo.sh K (qOf pn Q) n).roots 0) = false)
section
variable (ka pa sa : Option Addr) (n kc pn pc sn sc : Nat) (K : Nat → Nat) (Q : Nat → Int) (S : Nat → Bool) (hbd : Bool) (ns : Nat) (w : World) (x : Int)
theorem needc_any (hn : n ≤ 65536) (hpn : pn ≤ 65536) (hsn : sn ≤ 65536) (hK : ∀ j, K j ≤ 255) (hQ : ∀ j, -2147483648 ≤ Q j ∧ Q j ≤ 2147483647)
    (hk : Arr w ka n fun j => .int .u8 (K j)) (hp : Arr w pa pn fun j => .int .i32 (Q j)) (hs : Arr w sa sn fun j => .bool (S j)) :
    Calls Try.prog 16 #[.slice ka n kc, .slice pa pn pc, .slice sa sn sc, .bool hbd] w (NeedC n pn sn K Q S hbd w) := by
  have HK := Lib.hid hk
  have HP := Lib.hid hp
  have HS := Lib.hid hs
  have HK2 := Lib.hid hK
  have HQ2 := Lib.hid hQ
  have HPAR : Hid (Fo.Par K n (Fo.sh K (qOf pn Q) n).par) := Lib.hid (Fo.good K (qOf pn Q) n).par
  clear hk hp hs hK hQ
  go_enter Try.func16, Try.ntmps16
  go_upto_region 3 with (first
    | (go_at_call 21; refine (shape_any ka pa n kc pn pc K Q _ hn hpn HK2.out HQ2.out HK.out HP.out).mono ?_
       rintro ee w1 ⟨b, rv, s, rfl, hs, hb, hrow, hown, hne, hbel⟩
       change s = Fo.sh K (qOf pn Q) n at hs
       subst hs
       obtain ⟨ra, rc, rfl, hroots⟩ := roots_form hown
       have HROW := Lib.hid hrow
       have HB1 := Lib.hid hbel
       have HRT := Lib.hid hroots
       clear hrow hbel hroots hown hne)
    | (go_at_call 23; refine (rest_any ka sa n kc b n sn sc K (Fo.sh K (qOf pn Q) n).par S _ hn hsn HK2.out HPAR.out (HK.out.below HB1.out (Nat.le_refl _)) HROW.out (HS.out.below HB1.out (Nat.le_refl _))).mono ?_
       rintro ee w2 ⟨b2, s2, rfl, hs2, hb2, hrow2, hbel2⟩
       have HS2 := Lib.hid hs2
       have HROW2 := Lib.hid hrow2
       have HB2 := Lib.hid hbel2
       clear hs2 hrow2 hbel2))
  obtain ⟨L, HL⟩ : ∃ L, Hid (L = (Fo.sh K (qOf pn Q) n).roots.length) := ⟨_, Lib.hid rfl⟩
  obtain ⟨r, HR⟩ : ∃ r, Hid (r = rt (Fo.sh K (qOf pn Q) n).roots 0) := ⟨_, Lib.hid rfl⟩
  have hln := (Fo.good K (qOf pn Q) n).len
  rw [← HL.out] at hln HRT
  rw [← HL.out]
  have HW2 := Lib.hid (HB1.out.trans (HB2.out.mono HB1.out.size))
  cases hbd with
  | false =>
    go_wp2_with fail
    go_ret
    exact ⟨_, rfl, HW2.out, fun _ h => by cases h⟩
  | true =>
    by_cases hL : 0 < L
    · have hL' : decide (0 < L) = true := by simpa using hL
      have hL2 : decide ((0 : Int) < L) = true := by simpa using hL
      have hroot := rt_root (K := K) (Q := qOf pn Q) (n := n) (t := 0) (by rw [← HL.out]; exact hL)
      obtain ⟨g, rfl, hgl, hgs, d1⟩ := HRT.out 0 hL
      rw [← HR.out] at hroot d1
      have hrn := hroot.1
      have d1' : w2.cell? ⟨g, 0, none⟩ = some (.int .i64 r) := (HB2.out.cell (p := ⟨g, 0, none⟩) hgs).trans d1
      have d4 : w2.cell? ⟨b2, r, none⟩ = some (restV s2 r) := HROW2.out.cell hrn
      obtain ⟨bv, hbv⟩ : ∃ bv, Fo.hr K (Fo.sh K (qOf pn Q) n).par (fOf sn S) n r = bv := ⟨_, rfl⟩
      have hv3 : s2.rest r = bv := by
        rw [HS2.out, ← hbv]
        exact Fo.rest_root HPAR.out r hrn hroot.2
      unfold restV at d4
      rw [hv3] at d4
      have HBV := Lib.hid hbv
      clear d1 hroot hbv hv3
      go_wp2_with fail
      all_goals
        go_ret
        exact ⟨_, rfl, HW2.out, fun h _ _ => by rw [← HR.out, HBV.out]; exact h⟩
    · have hL' : decide (0 < L) = false := by simpa using hL
      have hL2 : decide ((0 : Int) < L) = false := by simp; omega
      go_wp2_with fail
      go_ret
      exact ⟨_, rfl, HW2.out, fun _ _ h => absurd (by rw [HL.out]; exact h) hL⟩

theorem bytes13 (hn : n ≤ maxLen) (hpn : pn ≤ maxLen) (hsn : sn ≤ maxLen) :
    Calls Try.prog 13 #[.int .u64 x, .slice ka n kc, .slice pa pn pc, .slice sa sn sc, .bool hbd, .int .u16 ns] w fun e w' => ∃ b, e = .returned (.bool b) ∧ w = w' := by
  unfold maxLen at hn hpn hsn
  go_enter Try.func13, Try.ntmps13
  go_wp2
  all_goals (go_ret; exact ⟨_, rfl, rfl⟩)
theorem bytes15 (hn : n ≤ maxLen) (hpn : pn ≤ maxLen) (hsn : sn ≤ maxLen) :
    Calls Try.prog 15 #[.int .u64 x, .slice ka n kc, .slice pa pn pc, .slice sa sn sc, .bool hbd, .int .u16 ns] w fun e w' => ∃ b, e = .returned (.bool b) ∧ w = w' := by
  unfold maxLen at hn hpn hsn
  go_enter Try.func15, Try.ntmps15
  go_wp2
  all_goals (go_ret; exact ⟨_, rfl, rfl⟩)

theorem law5 (hn : n ≤ maxLen) (hpn : pn ≤ maxLen) (hsn : sn ≤ maxLen) (hns : ns ≤ 65535) (hK : ∀ j, K j ≤ 255) (hQ : ∀ j, -2147483648 ≤ Q j ∧ Q j ≤ 2147483647)
    (hk : Arr w ka n fun j => .int .u8 (K j)) (hp : Arr w pa pn fun j => .int .i32 (Q j)) (hs : Arr w sa sn fun j => .bool (S j)) :
    Calls Try.prog 5 #[.int .u64 x, .slice ka n kc, .slice pa pn pc, .slice sa sn sc, .bool hbd, .int .u16 ns] w fun e w' => e = .returned (.bool true) ∧ Below w.heap.size w w' := by
  have BY := Lib.hid (bytes13 ka pa sa n kc pn pc sn sc hbd ns w x hn hpn hsn)
  have RUN : Hid (n ≤ 65536 → pn ≤ 65536 → sn ≤ 65536 → (bits BinOp.and IntKind.u64 x 35184372088832 != 0) = false → Calls Try.prog 14 #[.int .u64 x, .slice ka n kc, .slice pa pn pc, .slice sa sn sc, .bool hbd, .int .u16 ns] w fun e w' => e = .returned (.bool true) ∧ Below w.heap.size w w') :=
    Lib.hid fun h1 h2 h3 h5 => catch_any ka pa sa n kc pn pc sn sc K Q S hbd ns w x h1 h2 h3 hns hK hQ hk hp hs (.inl h5)
  unfold maxLen at hn hpn hsn
  clear hk hp hs hK hQ
  cases hb : (bits BinOp.and IntKind.u64 x 35184372088832 != 0)
  all_goals
    go_enter Try.func5, Try.ntmps5
    go_wp2_with (first
      | (go_at_call 13; refine BY.out.mono ?_; rintro ee w1 ⟨b, rfl, rfl⟩; cases b)
      | (go_at_call 14; refine Calls.mono (RUN.out ?_ ?_ ?_ ?_) ?_; omega; omega; omega; exact hb; rintro ee w2 ⟨rfl, h2⟩))
    all_goals go_ret
    all_goals first | exact ⟨rfl, h2⟩ | exact ⟨rfl, Below.refl _ _⟩

theorem law6 (hn : n ≤ maxLen) (hpn : pn ≤ maxLen) (hsn : sn ≤ maxLen) (hns : ns ≤ 65535) (hK : ∀ j, K j ≤ 255) (hQ : ∀ j, -2147483648 ≤ Q j ∧ Q j ≤ 2147483647)
    (hk : Arr w ka n fun j => .int .u8 (K j)) (hp : Arr w pa pn fun j => .int .i32 (Q j)) (hs : Arr w sa sn fun j => .bool (S j)) :
    Calls Try.prog 6 #[.int .u64 x, .slice ka n kc, .slice pa pn pc, .slice sa sn sc, .bool hbd, .int .u16 ns] w fun e w' => e = .returned (.bool true) ∧ Below w.heap.size w w' := by
  have BY := Lib.hid (bytes15 ka pa sa n kc pn pc sn sc hbd ns w x hn hpn hsn)
  have NEED : Hid (n ≤ 65536 → pn ≤ 65536 → sn ≤ 65536 → Calls Try.prog 16 #[.slice ka n kc, .slice pa pn pc, .slice sa sn sc, .bool hbd] w fun e w' => ∃ bv, e = .returned (.bool bv) ∧ Below w.heap.size w w' ∧ (bv = false → Hid (hbd = true → 0 < (Fo.sh K (qOf pn Q) n).roots.length → Fo.hr K (Fo.sh K (qOf pn Q) n).par (fOf sn S) n (rt (Fo.sh K (qOf pn Q) n).roots 0) = false))) :=
    Lib.hid fun h1 h2 h3 => (needc_any ka pa sa n kc pn pc sn sc K Q S hbd w h1 h2 h3 hK hQ hk hp hs).mono fun e w' ⟨bv, e1, e2, e3⟩ => ⟨bv, e1, e2, fun h => Lib.hid (e3 h)⟩
  have RUN : Hid (∀ W, Below w.heap.size w W → n ≤ 65536 → pn ≤ 65536 → sn ≤ 65536 → Hid (hbd = true → 0 < (Fo.sh K (qOf pn Q) n).roots.length → Fo.hr K (Fo.sh K (qOf pn Q) n).par (fOf sn S) n (rt (Fo.sh K (qOf pn Q) n).roots 0) = false) → Calls Try.prog 14 #[.int .u64 x, .slice ka n kc, .slice pa pn pc, .slice sa sn sc, .bool hbd, .int .u16 ns] W fun e w' => e = .returned (.bool true) ∧ Below w.heap.size w w') :=
    Lib.hid fun W hW h1 h2 h3 h6 => (catch_any ka pa sa n kc pn pc sn sc K Q S hbd ns W x h1 h2 h3 hns hK hQ (hk.below hW (Nat.le_refl _)) (hp.below hW (Nat.le_refl _)) (hs.below hW (Nat.le_refl _)) (.inr h6.out)).mono fun e w' h => ⟨h.1, hW.trans (h.2.mono hW.size)⟩
  unfold maxLen at hn hpn hsn
  clear hk hp hs hK hQ
  cases hb : (bits BinOp.and IntKind.u64 x 35184372088832 != 0)
  all_goals
    have hb2 : (bits BinOp.and IntKind.u64 x 35184372088832 == 0) = !(bits BinOp.and IntKind.u64 x 35184372088832 != 0) := by simp [bne]
    rw [hb] at hb2
    simp only [Bool.not_true, Bool.not_false] at hb2
    go_enter Try.func6, Try.ntmps6
    go_wp2_with (first
      | (go_at_call 15; refine BY.out.mono ?_; rintro ee w1 ⟨b, rfl, rfl⟩; cases b)
      | (go_at_call 16; refine Calls.mono (NEED.out ?_ ?_ ?_) ?_; omega; omega; omega; rintro ee w2 ⟨bv, rfl, h2, h3⟩; have H3 := Lib.hid h3; have H2 := Lib.hid h2; clear h3 h2; cases bv)
      | (go_at_call 14; (refine Calls.mono (RUN.out _ H2.out ?_ ?_ ?_ (H3.out ?_)) ?_; omega; omega; omega; (first | exact rfl | exact trivial); rintro ee w4 ⟨rfl, h4⟩)))
    all_goals go_ret
    all_goals first | exact ⟨rfl, h4⟩ | exact ⟨rfl, H2.out⟩ | exact ⟨rfl, Below.refl _ _⟩
end
end Go.Proofs.Ytoeaockleddngaa
