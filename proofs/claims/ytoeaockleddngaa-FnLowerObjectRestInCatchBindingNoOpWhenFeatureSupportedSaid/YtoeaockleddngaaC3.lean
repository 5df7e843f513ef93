/- zzCatchRun says yes. -/
import Derived.Test.YtoeaockleddngaaC2
import Derived.Deep.Cut
import Derived.Deep.CutBlock
import Derived.Deep.DeepCutAuto
namespace Go.Proofs.Ytoeaockleddngaa
open Go Go.RowKit
set_option maxRecDepth 100000
set_option linter.unusedVariables false

section
variable (ka pa sa : Option Addr) (n kc pn pc sn sc : Nat) (K : Nat → Nat) (Q : Nat → Int) (S : Nat → Bool) (hbd : Bool) (ns : Nat) (w : World) (x : Int)
/-- The binding that the clause has, and whether it bears a rest. -/
def CatchB (x : Int) (n : Nat) (K : Nat → Nat) (par : Nat → Int) (S : Nat → Bool) (w0 : Nat) (bv : Value) (want : Bool) : Prop :=
  (bv = .nilIface ∧ want = false) ∨ ∃ r, bv = nodeV (K r) (w0 + 3 + r) ∧ r < n ∧ want = Fo.hr K par S n r ∧ ((bits BinOp.and IntKind.u64 x 35184372088832 != 0) = false ∨ Fo.hr K par S n r = false)
theorem CatchB.has {x : Int} {n : Nat} {K : Nat → Nat} {par : Nat → Int} {S : Nat → Bool} {w0 : Nat} {bv : Value} {want : Bool} (h : CatchB x n K par S w0 bv want) (hpar : Fo.Par K n par) (hn : n ≤ 65536) {V : Nat → Value} (W : World) (hg : Grow K par S n w0 W n V) :
    Calls Try.prog 27 #[.agg #[bv, .int .i32 0]] W fun e w' => e = .returned (.bool want) ∧ Below W.heap.size W w' := by
  rcases h with ⟨rfl, rfl⟩ | ⟨r, rfl, hr, rfl, _⟩
  · exact zhas_nil W
  · exact zhas_any hpar hn r hr W hg
theorem CatchB.low {x : Int} {n : Nat} {K : Nat → Nat} {par : Nat → Int} {S : Nat → Bool} {w0 : Nat} {bv : Value} {want : Bool} (h : CatchB x n K par S w0 bv want) (hpar : Fo.Par K n par) (hn : n ≤ 65536) {V : Nat → Value} (W : World) (hg : Grow K par S n w0 W n V) (q cb : Nat)
    (hp : W.cell? ⟨q, 23, none⟩ = some (.int .u64 x)) (hc : W.cell? ⟨cb, 0, none⟩ = some bv) (hc1 : W.cell? ⟨cb, 1, none⟩ = some (.int .i32 0)) :
    Calls Try.prog 29 #[.pointer (some ⟨q, 0, none⟩), .pointer (some ⟨cb, 0, none⟩)] W fun e w' => e = .returned (.tuple #[]) ∧ Below W.heap.size W w' := by
  refine zcatch_of q cb W ?_
  cases hx : (bits BinOp.and IntKind.u64 x 35184372088832 != 0) with
  | false => exact (catch_clear q cb x W hp hx).mono fun e w' h => ⟨h.1, by rw [← h.2]; exact Below.refl _ _⟩
  | true =>
    rcases h with ⟨rfl, rfl⟩ | ⟨r, rfl, hr, rfl, h0 | h0⟩
    · exact (catch_nil q cb x W hp hx hc).mono fun e w' h => ⟨h.1, by rw [← h.2]; exact Below.refl _ _⟩
    · rw [hx] at h0; cases h0
    · obtain ⟨ty, nv, hnv⟩ := nodeV_form (K r) (w0 + 3 + r)
      have hq := has_any hpar hn (n - r) r (Nat.le_refl _) hr W hg
      rw [hnv, h0] at hq
      rw [hnv] at hc
      exact catch_none q cb x W ty nv hp hx hc hc1 hq

set_option maxHeartbeats 2000000 in
theorem catch_any (hn : n ≤ 65536) (hpn : pn ≤ 65536) (hsn : sn ≤ 65536) (hns : ns ≤ 65535) (hK : ∀ j, K j ≤ 255) (hQ : ∀ j, -2147483648 ≤ Q j ∧ Q j ≤ 2147483647)
    (hk : Arr w ka n fun j => .int .u8 (K j)) (hp : Arr w pa pn fun j => .int .i32 (Q j)) (hs : Arr w sa sn fun j => .bool (S j))
    (hx : (bits BinOp.and IntKind.u64 x 35184372088832 != 0) = false ∨ (hbd = true → 0 < (Fo.sh K (qOf pn Q) n).roots.length → Fo.hr K (Fo.sh K (qOf pn Q) n).par (fOf sn S) n (rt (Fo.sh K (qOf pn Q) n).roots 0) = false)) :
    Calls Try.prog 14 #[.int .u64 x, .slice ka n kc, .slice pa pn pc, .slice sa sn sc, .bool hbd, .int .u16 ns] w fun e w' => e = .returned (.bool true) ∧ Below w.heap.size w w' := by
  have HK := Lib.hid hk
  have HP := Lib.hid hp
  have HS := Lib.hid hs
  have HK2 := Lib.hid hK
  have HQ2 := Lib.hid hQ
  have HX := Lib.hid hx
  have HPAR : Hid (Fo.Par K n (Fo.sh K (qOf pn Q) n).par) := Lib.hid (Fo.good K (qOf pn Q) n).par
  clear hk hp hs hK hQ hx
  go_enter Try.func14, Try.ntmps14
  go_upto_region 6 with (first
    | (go_at_call 21; refine (shape_any ka pa n kc pn pc K Q _ hn hpn HK2.out HQ2.out HK.out HP.out).mono ?_
       rintro ee w1 ⟨b, rv, s, rfl, hs, hb, hrow, hown, hne, hbel⟩
       change s = Fo.sh K (qOf pn Q) n at hs
       subst hs
       obtain ⟨ra, rc, rfl, hroots⟩ := roots_form hown
       have HROW := Lib.hid hrow
       have HB1 := Lib.hid hbel
       have HRT := Lib.hid hroots
       clear hrow hbel hroots hown hne)
    | (go_at_call 22; refine (build_any n kc b n sn sc ka sa K (Fo.sh K (qOf pn Q) n).par S _ hn hsn HK2.out HPAR.out (HK.out.below HB1.out (Nat.le_refl _)) HROW.out (HS.out.below HB1.out (Nat.le_refl _))).mono ?_
       rintro ee w2 ⟨V, rfl, hgrow, hbel2⟩
       have HG2 := Lib.hid hgrow
       have HB2 := Lib.hid hbel2
       have HW2 := Lib.hid (HB1.out.trans (hbel2.mono HB1.out.size))
       have HROW2 := Lib.hid (rowIs_below HROW.out hbel2 (Nat.le_refl _))
       clear hgrow hbel2)
    | (go_at_call 23; refine (rest_any ka sa n kc b n sn sc K (Fo.sh K (qOf pn Q) n).par S _ hn hsn HK2.out HPAR.out (HK.out.below HW2.out (Nat.le_refl _)) HROW2.out (HS.out.below HW2.out (Nat.le_refl _))).mono ?_
       rintro ee w3 ⟨b3, s3, rfl, hs3, hb3, hrow3, hbel3⟩
       have HS3 := Lib.hid hs3
       have HROW3 := Lib.hid hrow3
       have HB3 := Lib.hid hbel3
       clear hs3 hrow3 hbel3))
  obtain ⟨L, HL⟩ : ∃ L, Hid (L = (Fo.sh K (qOf pn Q) n).roots.length) := ⟨_, Lib.hid rfl⟩
  obtain ⟨r, HR⟩ : ∃ r, Hid (r = rt (Fo.sh K (qOf pn Q) n).roots 0) := ⟨_, Lib.hid rfl⟩
  have hln := (Fo.good K (qOf pn Q) n).len
  rw [← HL.out] at hln
  rw [← HL.out] at HRT HX
  rw [← HR.out] at HX
  rw [← HL.out]
  go_cut [42] (fun v wx => v = .bool (hbd && decide (0 < L)) ∧ wx.cell? ⟨w3.heap.size, 0, none⟩ = some .nilIface ∧ wx.cell? ⟨w3.heap.size, 1, none⟩ = some (.int .i32 0) ∧ wx.frozen? ⟨w3.heap.size, 0, none⟩ = false ∧ wx.frozen? ⟨w3.heap.size, 1, none⟩ = false ∧ w3.heap.size < wx.heap.size ∧ Below w3.heap.size w3 wx)
  case first =>
    cases hbd
    all_goals
      go_wp2_with fail
      go_meet
      refine ⟨?_, ?_, ?_, ?_, ?_, ?_, ?_⟩
      all_goals first | (simp; done) | (simp [World.cell?, World.frozen?, heap_alloc_new]; done) | go_grown
  case rest =>
    obtain ⟨rfl, c0, c1, f0, f1, hlt, hbel⟩ := hcut
    obtain ⟨wx, rfl⟩ : ∃ wx : World, wx = wc := ⟨_, rfl⟩
    have HB4 := Lib.hid hbel
    clear hbel
    obtain ⟨t, HT⟩ : ∃ t, Hid (t = (hbd && decide (0 < L))) := ⟨_, Lib.hid rfl⟩
    rw [← HT.out]
    go_upto_if 42 with fail
    go_cut [18] (fun v wy => ∃ bv want, CatchB x n K (Fo.sh K (qOf pn Q) n).par (fOf sn S) w1.heap.size bv want ∧ v = .bool want ∧ wy.cell? ⟨w3.heap.size, 0, none⟩ = some bv ∧ wy.cell? ⟨w3.heap.size, 1, none⟩ = some (.int .i32 0) ∧ w3.heap.size < wy.heap.size ∧ Below w3.heap.size w3 wy)
    case first =>
      cases t with
      | false =>
        go_wp2_with fail
        go_meet
        exact ⟨_, _, .inl ⟨rfl, rfl⟩, rfl, c0, c1, hlt, HB4.out⟩
      | true =>
        have ht := HT.out.symm
        simp only [Bool.and_eq_true, decide_eq_true_eq] at ht
        obtain ⟨hbt, hL⟩ := ht
        have HBT := Lib.hid hbt
        clear hbt
        have hroot := rt_root (K := K) (Q := qOf pn Q) (n := n) (t := 0) (by rw [← HL.out]; exact hL)
        obtain ⟨g, rfl, hgl, hgs, d1⟩ := HRT.out 0 hL
        rw [← HR.out] at hroot d1
        have hrn := hroot.1
        have hg2 : g < w2.heap.size := Nat.lt_of_lt_of_le hgs HB2.out.size
        have hg3 : g < w3.heap.size := Nat.lt_of_lt_of_le hg2 HB3.out.size
        have d1' : wx.cell? ⟨g, 0, none⟩ = some (.int .i64 r) := (HB4.out.cell (p := ⟨g, 0, none⟩) hg3).trans ((HB3.out.cell (p := ⟨g, 0, none⟩) hg2).trans ((HB2.out.cell (p := ⟨g, 0, none⟩) hgs).trans d1))
        have GX := Lib.hid ((HG2.out.later HB3.out).later HB4.out)
        have d2 := GX.out.bs.cell (i := r * 2) (by omega)
        have d3 := GX.out.bs.cell (i := r * 2 + 1) (by omega)
        unfold bsV at d2 d3
        rw [if_neg (by omega), if_pos (by omega), show r * 2 / 2 = r by omega] at d2
        rw [if_pos (by omega)] at d3
        have hb3l : b3 < w3.heap.size := HROW3.out.lt
        have d4 : wx.cell? ⟨b3, r, none⟩ = some (restV s3 r) := (HB4.out.cell (p := ⟨b3, r, none⟩) hb3l).trans (HROW3.out.cell hrn)
        obtain ⟨bv, hbv⟩ : ∃ bv, Fo.hr K (Fo.sh K (qOf pn Q) n).par (fOf sn S) n r = bv := ⟨_, rfl⟩
        have hv3 : s3.rest r = bv := by
          rw [HS3.out, ← hbv]
          exact Fo.rest_root HPAR.out r hrn hroot.2
        unfold restV at d4
        rw [hv3] at d4
        have HCB : Hid (CatchB x n K (Fo.sh K (qOf pn Q) n).par (fOf sn S) w1.heap.size (nodeV (K r) (w1.heap.size + 3 + r)) bv) := by
          refine Lib.hid (.inr ⟨r, rfl, hrn, hbv.symm, ?_⟩)
          rcases HX.out with h | h
          · exact .inl h
          · exact .inr (h HBT.out hL)
        obtain ⟨ty, nv, hnv⟩ := nodeV_form (K r) (w1.heap.size + 3 + r)
        rw [hnv] at d2 HCB
        have hl1 : w1.heap.size < wx.heap.size := GX.out.bs.lt
        have hlx := HB4.out.size
        have b1 : b3 ≠ w3.heap.size := by omega
        have b2 : g ≠ w3.heap.size := by omega
        clear d1 hroot hbv hv3 hnv
        go_wp2_with fail
        go_meet
        refine ⟨_, _, HCB.out, rfl, ?_, ?_, ?_, ?_⟩
        all_goals first | (go_cell; done) | (simp; done) | (have := HB4.out; go_grown)
    case rest =>
      obtain ⟨bv, want, hcb, rfl, e0, e1, hlt2, hbel⟩ := hcut
      obtain ⟨wy, rfl⟩ : ∃ wy : World, wy = wc := ⟨_, rfl⟩
      have HB5 := Lib.hid hbel
      have HCB := Lib.hid hcb
      have GY := Lib.hid ((HG2.out.later HB3.out).later HB5.out)
      have HW5 := Lib.hid (HW2.out.trans ((HB3.out.mono HW2.out.size).trans (HB5.out.mono (Nat.le_trans HW2.out.size HB3.out.size))))
      clear hbel hcb c0 c1 f0 f1
      go_upto_region 11 with (first | (go_at_call 28; refine (make_any ns hns _).mono ?_; rintro ee w6 ⟨⟨a, ac, rfl, ha⟩, hb6⟩; have HA := Lib.hid ha; have HB6 := Lib.hid hb6; clear ha hb6))
      have e0' := (HB6.out.cell (p := ⟨w3.heap.size, 0, none⟩) hlt2).trans e0
      have e1' := (HB6.out.cell (p := ⟨w3.heap.size, 1, none⟩) hlt2).trans e1
      clear e0 e1
      go_cut [21] (fun v wz => v = .pointer (some ⟨w6.heap.size, 0, none⟩) ∧ wz.cell? ⟨w6.heap.size, 0, none⟩ = some bv ∧ wz.cell? ⟨w6.heap.size, 1, none⟩ = some (.int .i32 0) ∧ wz.cell? ⟨w6.heap.size, 2, none⟩ = some (.slice a ns ac) ∧ w6.heap.size < wz.heap.size ∧ Below w6.heap.size w6 wz)
      case first =>
        have hbv : bv = .nilIface ∨ ∃ ty nv, bv = .iface ty nv := by
          rcases HCB.out with ⟨h, _⟩ | ⟨q, h, _⟩
          · exact .inl h
          · obtain ⟨ty, nv, hnv⟩ := nodeV_form (K q) (w1.heap.size + 3 + q)
            exact .inr ⟨ty, nv, by rw [h, hnv]⟩
        clear HCB
        rcases hbv with rfl | ⟨ty, nv, rfl⟩
        all_goals
          go_wp2_with fail
          go_meet
          refine ⟨rfl, ?_, ?_, ?_, ?_, ?_⟩
          all_goals first | (simp [World.cell?]; done) | go_grown
      case rest =>
        obtain ⟨rfl, k0, k1, k2, hlt3, hbel⟩ := hcut
        obtain ⟨wz, rfl⟩ : ∃ wz : World, wz = wc := ⟨_, rfl⟩
        have HB7 := Lib.hid hbel
        have GZ := Lib.hid ((GY.out.later HB6.out).later HB7.out)
        have HW7 := Lib.hid (HW5.out.trans ((HB6.out.mono HW5.out.size).trans (HB7.out.mono (Nat.le_trans HW5.out.size HB6.out.size))))
        have KP : Hid (∀ W, Below wz.heap.size wz W → W.cell? ⟨w6.heap.size, 0, none⟩ = some bv ∧ W.cell? ⟨w6.heap.size, 1, none⟩ = some (.int .i32 0) ∧ W.cell? ⟨w6.heap.size, 2, none⟩ = some (.slice a ns ac)) :=
          Lib.hid fun W hW => ⟨(hW.cell (p := ⟨_, _, none⟩) hlt3).trans k0, (hW.cell (p := ⟨_, _, none⟩) hlt3).trans k1, (hW.cell (p := ⟨_, _, none⟩) hlt3).trans k2⟩
        have HLOW : Hid (∀ (W : World) (q : Nat), W.cell? ⟨q, 23, none⟩ = some (.int .u64 x) → Below wz.heap.size wz W → Calls Try.prog 29 #[.pointer (some ⟨q, 0, none⟩), .pointer (some ⟨w6.heap.size, 0, none⟩)] W fun e w' => e = .returned (.tuple #[]) ∧ Below wz.heap.size wz w') :=
          Lib.hid fun W q hq hW => (HCB.out.low HPAR.out hn W (GZ.out.later hW) q w6.heap.size hq (KP.out W hW).1 (KP.out W hW).2.1).mono fun e w' h => ⟨h.1, hW.trans (h.2.mono hW.size)⟩
        have HSAME : Hid (∀ W, Below wz.heap.size wz W → Calls Try.prog 30 #[.slice a ns ac, .slice a ns ac, .int .i64 ns] W fun e w' => e = .returned (.bool true) ∧ Below wz.heap.size wz w') :=
          Lib.hid fun W hW => (same_any a ns ac hns HA.out W).mono fun e w' h => ⟨h.1, hW.trans (h.2.mono hW.size)⟩
        have HHAS : Hid (∀ W, Below wz.heap.size wz W → Calls Try.prog 27 #[.agg #[bv, .int .i32 0]] W fun e w' => e = .returned (.bool want) ∧ Below wz.heap.size wz w') :=
          Lib.hid fun W hW => (HCB.out.has HPAR.out hn W (GZ.out.later hW)).mono fun e w' h => ⟨h.1, hW.trans (h.2.mono hW.size)⟩
        clear hbel k0 k1 k2
        go_wp2_with (first
          | (go_at_call 25; refine (parser_any x _).mono ?_; rintro ee w8 ⟨rfl, h5, h6, h7⟩; have P5 := Lib.hid h5; have B5 := Lib.hid h7; clear h5 h6 h7)
          | (go_at_call 29; refine (HLOW.out _ _ P5.out B5.out).mono ?_; rintro ee w9 ⟨rfl, h8⟩; obtain ⟨k0, k1, k2⟩ := KP.out _ h8; have B6 := Lib.hid h8; clear h8)
          | (go_at_call 30; refine (HSAME.out _ B6.out).mono ?_; rintro ee w10 ⟨rfl, h9⟩; clear k0 k1 k2; obtain ⟨k0, k1, k2⟩ := KP.out _ h9; have B7 := Lib.hid h9; clear h9)
          | (go_at_call 27; refine (HHAS.out _ B7.out).mono ?_; rintro ee w11 ⟨rfl, h10⟩; have B8 := Lib.hid h10; clear h10))
        go_ret
        exact ⟨by simp, HW7.out.trans (B8.out.mono HW7.out.size)⟩
end
end Go.Proofs.Ytoeaockleddngaa
