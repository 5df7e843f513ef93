/- The two laws on heads of for loops, as the program walks them. -/
import Derived.Test.YtoeaockleddngaaEB
namespace Go.Proofs.Ytoeaockleddngaa
open Go Go.RowKit
set_option maxRecDepth 100000
set_option linter.unusedVariables false

/-- What zzLoopNeedsLowering answers: where it says no, the head bears no rest. -/
def NoRestL (n pn sn : Nat) (K : Nat → Nat) (Q : Nat → Int) (S : Nat → Bool) (ul : Bool) : Prop :=
  (ul = true → (Fo.sh K (qOf pn Q) n).roots.length = 1 → Fo.hr K (Fo.sh K (qOf pn Q) n).par (fOf sn S) n (rt (Fo.sh K (qOf pn Q) n).roots 0) = false) ∧
  (ul = false → Ex.er K (Ex.sh K (qOf pn Q) n).par (Ex.sh K (qOf pn Q) n).slot (fOf sn S) n 0 = false)
def NeedL (n pn sn : Nat) (K : Nat → Nat) (Q : Nat → Int) (S : Nat → Bool) (ul : Bool) (w : World) (e : Ending) (w' : World) : Prop :=
  ∃ bv, e = .returned (.bool bv) ∧ Below w.heap.size w w' ∧ (bv = false → NoRestL n pn sn K Q S ul)
section
variable (ka pa sa : Option Addr) (n kc pn pc sn sc : Nat) (K : Nat → Nat) (Q : Nat → Int) (S : Nat → Bool) (ul : Bool) (ns : Nat) (w : World) (x : Int)
theorem needl_any (hn : n ≤ 65536) (hpn : pn ≤ 65536) (hsn : sn ≤ 65536) (hK : ∀ j, K j ≤ 255) (hQ : ∀ j, -2147483648 ≤ Q j ∧ Q j ≤ 2147483647)
    (hk : Arr w ka n fun j => .int .u8 (K j)) (hp : Arr w pa pn fun j => .int .i32 (Q j)) (hs : Arr w sa sn fun j => .bool (S j)) :
    Calls Try.prog 20 #[.bool ul, .slice ka n kc, .slice pa pn pc, .slice sa sn sc] w (NeedL n pn sn K Q S ul w) := by
  have HK := Lib.hid hk
  have HP := Lib.hid hp
  have HS := Lib.hid hs
  have HK2 := Lib.hid hK
  have HQ2 := Lib.hid hQ
  cases ul with
  | false =>
    have HPAR : Hid (Ex.Par K n (Ex.sh K (qOf pn Q) n).par (Ex.sh K (qOf pn Q) n).slot) := Lib.hid (Ex.good K (qOf pn Q) n).par
    clear hk hp hs hK hQ
    go_enter Try.func20, Try.ntmps20
    go_wp2_with (first
      | (go_at_call 32; refine (eshape_any ka pa n kc pn pc K Q _ hn hpn HK2.out HQ2.out HK.out HP.out).mono ?_
         rintro ee w1 ⟨rfl, hr1, hr2, hb1⟩
         have HR1 := Lib.hid hr1
         have HR2 := Lib.hid hr2
         have HB1 := Lib.hid hb1
         clear hr1 hr2 hb1)
      | (go_at_call 34; refine (emodel_any ka sa n kc w.heap.size n (w.heap.size + 1) n sn sc K (Ex.sh K (qOf pn Q) n).par (Ex.sh K (qOf pn Q) n).slot S _ hn hsn HK2.out HPAR.out (HK.out.below HB1.out (Nat.le_refl _)) HR1.out HR2.out (HS.out.below HB1.out (Nat.le_refl _))).mono ?_
         rintro ee w3 ⟨rfl, hb3⟩
         have HB3 := Lib.hid hb3
         clear hb3))
    go_ret
    exact ⟨_, rfl, HB1.out.trans (HB3.out.mono HB1.out.size), fun h => ⟨(fun h => by cases h), fun _ => h⟩⟩
  | true =>
    have HPAR : Hid (Fo.Par K n (Fo.sh K (qOf pn Q) n).par) := Lib.hid (Fo.good K (qOf pn Q) n).par
    clear hk hp hs hK hQ
    go_enter Try.func20, Try.ntmps20
    go_upto_region 4 with (first
      | (go_at_call 21; refine (shape_any ka pa n kc pn pc K Q _ hn hpn HK2.out HQ2.out HK.out HP.out).mono ?_
         rintro ee w1 ⟨b, rv, s, rfl, hs, hb, hrow, hown, hne, hbel⟩
         change s = Fo.sh K (qOf pn Q) n at hs
         subst hs
         obtain ⟨ra, rc, rfl, hroots⟩ := roots_form hown
         have HROW := Lib.hid hrow
         have HB1 := Lib.hid hbel
         have HRT := Lib.hid hroots
         clear hrow hbel hroots hown hne)
      | (go_at_call 23; refine (rest_any ka sa n kc b n sn sc K (Fo.sh K (qOf pn Q) n).par S _ hn hsn HK2.out HPAR.out (HK.out.below HB1.out (Nat.le_refl _)) HROW.out (HS.out.below HB1.out (Nat.le_refl _))).mono ?_
         rintro ee w2 ⟨b2, s2, rfl, hs2, hb2, hrow2, hbel2⟩
         have HS2 := Lib.hid hs2
         have HROW2 := Lib.hid hrow2
         have HB2 := Lib.hid hbel2
         clear hs2 hrow2 hbel2))
    obtain ⟨L, HL⟩ : ∃ L, Hid (L = (Fo.sh K (qOf pn Q) n).roots.length) := ⟨_, Lib.hid rfl⟩
    obtain ⟨r, HR⟩ : ∃ r, Hid (r = rt (Fo.sh K (qOf pn Q) n).roots 0) := ⟨_, Lib.hid rfl⟩
    have hln := (Fo.good K (qOf pn Q) n).len
    rw [← HL.out] at hln HRT
    rw [← HL.out]
    have HW2 := Lib.hid (HB1.out.trans (HB2.out.mono HB1.out.size))
    by_cases hL : L = 1
    · have hL' : ((L : Int) == 1) = true := by simp; omega
      have hpos : 0 < L := by omega
      have hroot := rt_root (K := K) (Q := qOf pn Q) (n := n) (t := 0) (by rw [← HL.out]; exact hpos)
      obtain ⟨g, rfl, hgl, hgs, d1⟩ := HRT.out 0 hpos
      rw [← HR.out] at hroot d1
      have hrn := hroot.1
      have d1' : w2.cell? ⟨g, 0, none⟩ = some (.int .i64 r) := (HB2.out.cell (p := ⟨g, 0, none⟩) hgs).trans d1
      have d4 : w2.cell? ⟨b2, r, none⟩ = some (restV s2 r) := HROW2.out.cell hrn
      obtain ⟨bv, hbv⟩ : ∃ bv, Fo.hr K (Fo.sh K (qOf pn Q) n).par (fOf sn S) n r = bv := ⟨_, rfl⟩
      have hv3 : s2.rest r = bv := by
        rw [HS2.out, ← hbv]
        exact Fo.rest_root HPAR.out r hrn hroot.2
      unfold restV at d4
      rw [hv3] at d4
      have HBV := Lib.hid hbv
      clear d1 hroot hbv hv3 hL
      go_wp2_with fail
      all_goals
        go_ret
        exact ⟨_, rfl, HW2.out, fun h => ⟨fun _ _ => by rw [← HR.out, HBV.out]; exact h, fun h => by cases h⟩⟩
    · have hL' : ((L : Int) == 1) = false := by simp; omega
      have HNL := Lib.hid hL
      clear hL
      go_wp2_with fail
      go_ret
      exact ⟨_, rfl, HW2.out, fun h => ⟨fun _ h1 => absurd (by rw [HL.out]; exact h1) HNL.out, fun h => by cases h⟩⟩

theorem bytes17 (hn : n ≤ maxLen) (hpn : pn ≤ maxLen) (hsn : sn ≤ maxLen) :
    Calls Try.prog 17 #[.int .u64 x, .bool ul, .slice ka n kc, .slice pa pn pc, .slice sa sn sc, .int .u16 ns] w fun e w' => ∃ b, e = .returned (.bool b) ∧ w = w' := by
  unfold maxLen at hn hpn hsn
  go_enter Try.func17, Try.ntmps17
  go_wp2
  all_goals (go_ret; exact ⟨_, rfl, rfl⟩)
theorem bytes19 (hn : n ≤ maxLen) (hpn : pn ≤ maxLen) (hsn : sn ≤ maxLen) :
    Calls Try.prog 19 #[.int .u64 x, .bool ul, .slice ka n kc, .slice pa pn pc, .slice sa sn sc, .int .u16 ns] w fun e w' => ∃ b, e = .returned (.bool b) ∧ w = w' := by
  unfold maxLen at hn hpn hsn
  go_enter Try.func19, Try.ntmps19
  go_wp2
  all_goals (go_ret; exact ⟨_, rfl, rfl⟩)
/-- The run, whichever the head. -/
theorem run18 (hn : n ≤ 65536) (hpn : pn ≤ 65536) (hsn : sn ≤ 65536) (hns : ns ≤ 65535) (hK : ∀ j, K j ≤ 255) (hQ : ∀ j, -2147483648 ≤ Q j ∧ Q j ≤ 2147483647)
    (hk : Arr w ka n fun j => .int .u8 (K j)) (hp : Arr w pa pn fun j => .int .i32 (Q j)) (hs : Arr w sa sn fun j => .bool (S j))
    (hx : (bits BinOp.and IntKind.u64 x 35184372088832 != 0) = false ∨ NoRestL n pn sn K Q S ul) :
    Calls Try.prog 18 #[.int .u64 x, .bool ul, .slice ka n kc, .slice pa pn pc, .slice sa sn sc, .int .u16 ns] w fun e w' => e = .returned (.bool true) ∧ Below w.heap.size w w' := by
  cases ul with
  | false => exact runE_any ka pa sa n kc pn pc sn sc K Q S ns w x hn hpn hsn hns hK hQ hk hp hs (hx.imp id fun h => h.2 rfl)
  | true => exact runL_any ka pa sa n kc pn pc sn sc K Q S ns w x hn hpn hsn hns hK hQ hk hp hs (hx.imp id fun h => h.1 rfl)

theorem law7 (hn : n ≤ maxLen) (hpn : pn ≤ maxLen) (hsn : sn ≤ maxLen) (hns : ns ≤ 65535) (hK : ∀ j, K j ≤ 255) (hQ : ∀ j, -2147483648 ≤ Q j ∧ Q j ≤ 2147483647)
    (hk : Arr w ka n fun j => .int .u8 (K j)) (hp : Arr w pa pn fun j => .int .i32 (Q j)) (hs : Arr w sa sn fun j => .bool (S j)) :
    Calls Try.prog 7 #[.int .u64 x, .bool ul, .slice ka n kc, .slice pa pn pc, .slice sa sn sc, .int .u16 ns] w fun e w' => e = .returned (.bool true) ∧ Below w.heap.size w w' := by
  have BY := Lib.hid (bytes17 ka pa sa n kc pn pc sn sc ul ns w x hn hpn hsn)
  have RUN : Hid (n ≤ 65536 → pn ≤ 65536 → sn ≤ 65536 → (bits BinOp.and IntKind.u64 x 35184372088832 != 0) = false → Calls Try.prog 18 #[.int .u64 x, .bool ul, .slice ka n kc, .slice pa pn pc, .slice sa sn sc, .int .u16 ns] w fun e w' => e = .returned (.bool true) ∧ Below w.heap.size w w') :=
    Lib.hid fun h1 h2 h3 h5 => run18 ka pa sa n kc pn pc sn sc K Q S ul ns w x h1 h2 h3 hns hK hQ hk hp hs (.inl h5)
  unfold maxLen at hn hpn hsn
  clear hk hp hs hK hQ
  cases hb : (bits BinOp.and IntKind.u64 x 35184372088832 != 0)
  all_goals
    go_enter Try.func7, Try.ntmps7
    go_wp2_with (first
      | (go_at_call 17; refine BY.out.mono ?_; rintro ee w1 ⟨b, rfl, rfl⟩; cases b)
      | (go_at_call 18; refine Calls.mono (RUN.out ?_ ?_ ?_ ?_) ?_; omega; omega; omega; exact hb; rintro ee w2 ⟨rfl, h2⟩))
    all_goals go_ret
    all_goals first | exact ⟨rfl, h2⟩ | exact ⟨rfl, Below.refl _ _⟩

theorem law8 (hn : n ≤ maxLen) (hpn : pn ≤ maxLen) (hsn : sn ≤ maxLen) (hns : ns ≤ 65535) (hK : ∀ j, K j ≤ 255) (hQ : ∀ j, -2147483648 ≤ Q j ∧ Q j ≤ 2147483647)
    (hk : Arr w ka n fun j => .int .u8 (K j)) (hp : Arr w pa pn fun j => .int .i32 (Q j)) (hs : Arr w sa sn fun j => .bool (S j)) :
    Calls Try.prog 8 #[.int .u64 x, .bool ul, .slice ka n kc, .slice pa pn pc, .slice sa sn sc, .int .u16 ns] w fun e w' => e = .returned (.bool true) ∧ Below w.heap.size w w' := by
  have BY := Lib.hid (bytes19 ka pa sa n kc pn pc sn sc ul ns w x hn hpn hsn)
  have NEED : Hid (n ≤ 65536 → pn ≤ 65536 → sn ≤ 65536 → Calls Try.prog 20 #[.bool ul, .slice ka n kc, .slice pa pn pc, .slice sa sn sc] w fun e w' => ∃ bv, e = .returned (.bool bv) ∧ Below w.heap.size w w' ∧ (bv = false → Hid (NoRestL n pn sn K Q S ul))) :=
    Lib.hid fun h1 h2 h3 => (needl_any ka pa sa n kc pn pc sn sc K Q S ul w h1 h2 h3 hK hQ hk hp hs).mono fun e w' ⟨bv, e1, e2, e3⟩ => ⟨bv, e1, e2, fun h => Lib.hid (e3 h)⟩
  have RUN : Hid (∀ W, Below w.heap.size w W → n ≤ 65536 → pn ≤ 65536 → sn ≤ 65536 → Hid (NoRestL n pn sn K Q S ul) → Calls Try.prog 18 #[.int .u64 x, .bool ul, .slice ka n kc, .slice pa pn pc, .slice sa sn sc, .int .u16 ns] W fun e w' => e = .returned (.bool true) ∧ Below w.heap.size w w') :=
    Lib.hid fun W hW h1 h2 h3 h6 => (run18 ka pa sa n kc pn pc sn sc K Q S ul ns W x h1 h2 h3 hns hK hQ (hk.below hW (Nat.le_refl _)) (hp.below hW (Nat.le_refl _)) (hs.below hW (Nat.le_refl _)) (.inr h6.out)).mono fun e w' h => ⟨h.1, hW.trans (h.2.mono hW.size)⟩
  unfold maxLen at hn hpn hsn
  clear hk hp hs hK hQ
  cases hb : (bits BinOp.and IntKind.u64 x 35184372088832 != 0)
  all_goals
    have hb2 : (bits BinOp.and IntKind.u64 x 35184372088832 == 0) = !(bits BinOp.and IntKind.u64 x 35184372088832 != 0) := by simp [bne]
    rw [hb] at hb2
    simp only [Bool.not_true, Bool.not_false] at hb2
    go_enter Try.func8, Try.ntmps8
    go_wp2_with (first
      | (go_at_call 19; refine BY.out.mono ?_; rintro ee w1 ⟨b, rfl, rfl⟩; cases b)
      | (go_at_call 20; refine Calls.mono (NEED.out ?_ ?_ ?_) ?_; omega; omega; omega; rintro ee w2 ⟨bv, rfl, h2, h3⟩; have H3 := Lib.hid h3; have H2 := Lib.hid h2; clear h3 h2; cases bv)
      | (go_at_call 18; (refine Calls.mono (RUN.out _ H2.out ?_ ?_ ?_ (H3.out ?_)) ?_; omega; omega; omega; (first | exact rfl | exact trivial); rintro ee w4 ⟨rfl, h4⟩)))
    all_goals go_ret
    all_goals first | exact ⟨rfl, h4⟩ | exact ⟨rfl, H2.out⟩ | exact ⟨rfl, Below.refl _ _⟩
end
end Go.Proofs.Ytoeaockleddngaa
