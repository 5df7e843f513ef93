/- zzDeclsNeedLowering: where it says no, no declaration with an initialiser bears a rest. -/
import Derived.Test.YtoeaockleddngaaWA
namespace Go.Proofs.Ytoeaockleddngaa
open Go Go.RowKit
set_option maxRecDepth 100000
set_option linter.unusedVariables false

/-- The t-th of the roots. -/
def rt (l : List Nat) (t : Nat) : Nat := l[t]?.getD 0
theorem roots_form {w : World} {B : Nat} {v : Value} {l : List Nat} (h : w.ownsRow B 3 1 v l.length (ints l)) :
    ∃ a c, v = .slice a l.length c ∧ ∀ t, t < l.length → ∃ g, a = some ⟨g, 0, none⟩ ∧ B ≤ g ∧ g < w.heap.size ∧ w.cell? ⟨g, t, none⟩ = some (.int .i64 ((rt l t : Nat) : Int)) := by
  rcases h.2 with ⟨e, hl⟩ | ⟨g, cap, cur, e, hbg, hg, rest⟩
  · refine ⟨none, 0, ?_, fun t ht => by omega⟩
    rw [e, hl]
  · refine ⟨_, cap, e, fun t ht => ⟨g, rfl, hbg, (Array.getElem?_eq_some_iff.1 hg).1, ?_⟩⟩
    have hh := h
    rw [e] at hh
    have := hh.cells (g := g) rfl t (.int .i64 ((rt l t : Nat) : Int)) (by
      unfold ints rt
      rw [List.getElem?_map, List.getElem?_eq_getElem ht]; rfl)
    rw [add_at] at this; exact this
theorem rt_root {K : Nat → Nat} {Q : Nat → Int} {n t : Nat} (h : t < (Fo.sh K Q n).roots.length) : rt (Fo.sh K Q n).roots t < n ∧ (Fo.sh K Q n).par (rt (Fo.sh K Q n).roots t) = -1 := by
  have := (Fo.good K Q n).roots (rt (Fo.sh K Q n).roots t) (by unfold rt; rw [List.getElem?_eq_getElem h]; exact List.getElem_mem h)
  exact this

theorem Arr.heap {w w' : World} {a : Option Addr} {n : Nat} {f : Nat → Value} (h : Arr w a n f) (e : w'.heap = w.heap) : Arr w' a n f := by
  intro j hj
  obtain ⟨b, off, h1, h2⟩ := h j hj
  exact ⟨b, off, h1, by unfold World.cell? at h2 ⊢; rw [e]; exact h2⟩
section
variable (ka pa sa ia : Option Addr) (n kc pn pc sn sc im ic : Nat) (K : Nat → Nat) (Q : Nat → Int) (S I : Nat → Bool) (w : World)
/-- The parents as the code reads them. -/
def qOf (pn : Nat) (Q : Nat → Int) (j : Nat) : Int := if j < pn then Q j else 0
def fOf (sn : Nat) (S : Nat → Bool) (j : Nat) : Bool := decide (j < sn) && S j

theorem need_any (hn : n ≤ 65536) (hpn : pn ≤ 65536) (hsn : sn ≤ 65536) (him : im ≤ 65536) (hK : ∀ j, K j ≤ 255) (hQ : ∀ j, -2147483648 ≤ Q j ∧ Q j ≤ 2147483647)
    (hk : Arr w ka n fun j => .int .u8 (K j)) (hp : Arr w pa pn fun j => .int .i32 (Q j)) (hs : Arr w sa sn fun j => .bool (S j)) (hi : Arr w ia im fun j => .bool (I j)) :
    Calls Try.prog 12 #[.slice ka n kc, .slice pa pn pc, .slice sa sn sc, .slice ia im ic] w fun e w' => ∃ bv, e = .returned (.bool bv) ∧ Below w.heap.size w w' ∧
      (bv = false → ∀ t, t < (Fo.sh K (qOf pn Q) n).roots.length → fOf im I t = true → Fo.hr K (Fo.sh K (qOf pn Q) n).par (fOf sn S) n (rt (Fo.sh K (qOf pn Q) n).roots t) = false) := by
  have HK := Lib.hid hk
  have HP := Lib.hid hp
  have HS := Lib.hid hs
  have HI := Lib.hid hi
  have HK2 := Lib.hid hK
  have HQ2 := Lib.hid hQ
  have HPAR : Hid (Fo.Par K n (Fo.sh K (qOf pn Q) n).par) := Lib.hid (Fo.good K (qOf pn Q) n).par
  clear hk hp hs hi hK hQ
  go_enter Try.func12, Try.ntmps12
  go_wp2_with (first
    | (go_at_call 21; refine (shape_any ka pa n kc pn pc K Q _ hn hpn HK2.out HQ2.out HK.out HP.out).mono ?_
       rintro ee w1 ⟨b, rv, s, rfl, hs, hb, hrow, hown, hne, hbel⟩
       change s = Fo.sh K (qOf pn Q) n at hs
       subst hs
       obtain ⟨ra, rc, rfl, hroots⟩ := roots_form hown
       have HROW := Lib.hid hrow
       have HB1 := Lib.hid hbel
       have HRT := Lib.hid hroots
       clear hrow hbel hroots hown hne)
    | (go_at_call 23; refine (rest_any ka sa n kc b n sn sc K (Fo.sh K (qOf pn Q) n).par S _ hn hsn HK2.out HPAR.out (HK.out.below HB1.out (Nat.le_refl _)) HROW.out (HS.out.below HB1.out (Nat.le_refl _))).mono ?_
       rintro ee w2 ⟨b2, s2, rfl, hs2, hb2, hrow2, hbel2⟩
       have HS2 := Lib.hid hs2
       have HROW2 := Lib.hid hrow2
       have HB2 := Lib.hid hbel2
       clear hs2 hrow2 hbel2))
  obtain ⟨L, HL⟩ : ∃ L, Hid (L = (Fo.sh K (qOf pn Q) n).roots.length) := ⟨_, Lib.hid rfl⟩
  have hln := (Fo.good K (qOf pn Q) n).len
  rw [← HL.out] at hln
  rw [← HL.out]
  go_loopw [12] (fun iv wx => ∃ t : Nat, t ≤ L ∧ iv = .int .i64 t ∧ Below w2.heap.size w2 wx ∧ ∀ u, u < t → fOf im I u = true → (Fo.rs K (Fo.sh K (qOf pn Q) n).par (fOf sn S) n).rest (rt (Fo.sh K (qOf pn Q) n).roots u) = false)
    (fun iv _ => L - (intOf iv).toNat)
  case atStart => exact ⟨0, by omega, rfl, by go_grown, fun u hu => by omega⟩
  case round =>
    obtain ⟨t, htl, rfl, hbel, hbef⟩ := hrel
    have HB := Lib.hid hbel
    have HBF := Lib.hid hbef
    clear hbel hbef
    obtain ⟨wx, rfl⟩ : ∃ wx : World, wx = wr := ⟨_, rfl⟩
    have hW : Below w.heap.size w wx := HB1.out.trans ((HB2.out.mono HB1.out.size).trans (HB.out.mono (Nat.le_trans HB1.out.size HB2.out.size)))
    have HFL : Hid (∀ W : World, W.heap = wx.heap → Calls Try.prog 24 #[.slice ia im ic, .int .i64 t] W fun e w' => e = .returned (.bool (fOf im I t)) ∧ W = w') :=
      Lib.hid fun W hw => flag_any ia im ic I t W (by omega) (by omega) ((HI.out.below hW (Nat.le_refl _)).heap hw)
    have HWW := Lib.hid hW
    clear hW
    by_cases hlt : t < L
    · have hroot := rt_root (K := K) (Q := qOf pn Q) (n := n) (t := t) (by rw [← HL.out]; exact hlt)
      obtain ⟨g, rfl, hgl, hgs, c1⟩ := HRT.out t (by rw [← HL.out]; exact hlt)
      obtain ⟨r, HR⟩ : ∃ r, Hid (r = rt (Fo.sh K (qOf pn Q) n).roots t) := ⟨_, Lib.hid rfl⟩
      rw [← HR.out] at hroot c1
      have hrn := hroot.1
      have c1' : wx.cell? ⟨g, t, none⟩ = some (.int .i64 r) := (HB.out.cell (p := ⟨g, t, none⟩) (Nat.lt_of_lt_of_le hgs HB2.out.size)).trans ((HB2.out.cell (p := ⟨g, t, none⟩) hgs).trans c1)
      have c2 : wx.cell? ⟨b2, r, none⟩ = some (restV s2 r) := (HB.out.cell (p := ⟨b2, r, none⟩) HROW2.out.lt).trans (HROW2.out.cell hrn)
      unfold restV at c2
      have hb2l : b2 < w2.heap.size := HROW2.out.lt
      clear c1 hroot
      cases hf : fOf im I t with
      | false =>
        have HF := Lib.hid hf
        clear hf
        go_wp2_with (first | (go_at_call 24; refine Calls.mono (HFL.out _ ?_) ?_; exact rfl; rw [HF.out]; rintro ee w3 ⟨rfl, rfl⟩))
        go_roundw
        case rel =>
          refine ⟨t + 1, by omega, by go_num, HB.out, fun u hu hfu => ?_⟩
          by_cases e : u = t
          · rw [e, HF.out] at hfu; cases hfu
          · exact HBF.out u (by omega) hfu
        case measure => simp [intOf]; omega
      | true =>
        have HF := Lib.hid hf
        clear hf
        cases hv : s2.rest r with
        | false =>
          rw [hv] at c2
          have HV := Lib.hid hv
          clear hv
          go_wp2_with (first | (go_at_call 24; refine Calls.mono (HFL.out _ ?_) ?_; exact rfl; rw [HF.out]; rintro ee w3 ⟨rfl, rfl⟩))
          go_roundw
          case rel =>
            refine ⟨t + 1, by omega, by go_num, HB.out, fun u hu hfu => ?_⟩
            by_cases e : u = t
            · have h1 := HV.out
              rw [HS2.out, HR.out] at h1
              rw [e]; exact h1
            · exact HBF.out u (by omega) hfu
          case measure => simp [intOf]; omega
        | true =>
          rw [hv] at c2
          clear hv
          go_wp2_with (first | (go_at_call 24; refine Calls.mono (HFL.out _ ?_) ?_; exact rfl; rw [HF.out]; rintro ee w3 ⟨rfl, rfl⟩))
          go_ret
          exact ⟨true, rfl, HWW.out, fun h => by cases h⟩
    · go_wp2_with fail
      go_ret
      refine ⟨false, rfl, HWW.out, fun _ u hu hfu => ?_⟩
      rw [← HL.out] at hu
      have h1 := HBF.out u (by omega) hfu
      have h2 := rt_root (K := K) (Q := qOf pn Q) (n := n) (t := u) (by rw [← HL.out]; exact hu)
      rw [Fo.rest_root HPAR.out _ h2.1 h2.2] at h1
      exact h1
end
end Go.Proofs.Ytoeaockleddngaa
