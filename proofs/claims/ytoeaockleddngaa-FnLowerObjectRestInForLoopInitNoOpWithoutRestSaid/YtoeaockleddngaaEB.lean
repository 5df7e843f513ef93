/- zzLoopRun at a declaration head: it says yes. -/
import Derived.Test.YtoeaockleddngaaEA
import Derived.Test.YtoeaockleddngaaWD
namespace Go.Proofs.Ytoeaockleddngaa
open Go Go.RowKit
set_option maxRecDepth 100000
set_option linter.unusedVariables false

section
variable (ka pa sa : Option Addr) (n kc pn pc sn sc : Nat) (K : Nat → Nat) (Q : Nat → Int) (S : Nat → Bool) (ns : Nat) (w : World) (x : Int)
set_option maxHeartbeats 4000000 in
theorem runL_any (hn : n ≤ 65536) (hpn : pn ≤ 65536) (hsn : sn ≤ 65536) (hns : ns ≤ 65535) (hK : ∀ j, K j ≤ 255) (hQ : ∀ j, -2147483648 ≤ Q j ∧ Q j ≤ 2147483647)
    (hk : Arr w ka n fun j => .int .u8 (K j)) (hp : Arr w pa pn fun j => .int .i32 (Q j)) (hs : Arr w sa sn fun j => .bool (S j))
    (hx : (bits BinOp.and IntKind.u64 x 35184372088832 != 0) = false ∨ ((Fo.sh K (qOf pn Q) n).roots.length = 1 → Fo.hr K (Fo.sh K (qOf pn Q) n).par (fOf sn S) n (rt (Fo.sh K (qOf pn Q) n).roots 0) = false)) :
    Calls Try.prog 18 #[.int .u64 x, .bool true, .slice ka n kc, .slice pa pn pc, .slice sa sn sc, .int .u16 ns] w fun e w' => e = .returned (.bool true) ∧ Below w.heap.size w w' := by
  have HK := Lib.hid hk
  have HP := Lib.hid hp
  have HS := Lib.hid hs
  have HK2 := Lib.hid hK
  have HQ2 := Lib.hid hQ
  have HX := Lib.hid hx
  have HPAR : Hid (Fo.Par K n (Fo.sh K (qOf pn Q) n).par) := Lib.hid (Fo.good K (qOf pn Q) n).par
  clear hk hp hs hK hQ hx
  go_enter Try.func18, Try.ntmps18
  go_upto_region 5 with (first | (go_at_call 28; refine (make_any ns hns _).mono ?_; rintro ee w6 ⟨⟨sa0, ac, rfl, ha⟩, hb6⟩; have HA := Lib.hid ha; have HB6 := Lib.hid hb6; clear ha hb6))
  go_cut [17] (fun v wz => v = .pointer (some ⟨w6.heap.size + 1 + 1, 0, none⟩) ∧ wz.cell? ⟨w6.heap.size + 1 + 1, 23, none⟩ = some (.int .u64 x) ∧ wz.cell? ⟨w6.heap.size, 0, none⟩ = some (.slice sa0 ns ac) ∧ w6.heap.size + 1 + 1 < wz.heap.size ∧ Below w6.heap.size w6 wz)
  case first =>
    go_wp2_with (first | (go_at_call 25; refine (parser_any x _).mono ?_; rintro ee w8 ⟨rfl, h5, h6, h7⟩; have P5 := Lib.hid h5; have P6 := Lib.hid h6; have B5 := Lib.hid h7; clear h5 h6 h7))
    go_meet
    have p5 := P5.out
    have p6 := P6.out
    have b5 := B5.out
    refine ⟨by simp, by simpa using p5, (b5.cell (p := ⟨w6.heap.size, 0, none⟩) (by simp; omega)).trans (one_old w6 [.slice sa0 ns ac, .int .i32 0] 68 _ 0 _ rfl), by simp at p6; omega, (((Below.refl w6.heap.size w6).alloc (Nat.le_refl _) _).alloc (by simp) _).trans (b5.mono (by simp; omega))⟩
  case rest =>
    obtain ⟨rfl, k0, k1, hlt, hbel⟩ := hcut
    obtain ⟨wz, rfl⟩ : ∃ wz : World, wz = wc := ⟨_, rfl⟩
    have HBZ : Hid (Below w.heap.size w wz) := Lib.hid (HB6.out.trans (hbel.mono HB6.out.size))
    clear hbel
    have hwl : w6.heap.size < wz.heap.size := by omega
    have KZ : Hid (∀ W, Below wz.heap.size wz W → W.cell? ⟨w6.heap.size + 1 + 1, 23, none⟩ = some (.int .u64 x) ∧ W.cell? ⟨w6.heap.size, 0, none⟩ = some (.slice sa0 ns ac)) :=
      Lib.hid fun W hW => ⟨(hW.cell (p := ⟨_, _, none⟩) hlt).trans k0, (hW.cell (p := ⟨_, _, none⟩) hwl).trans k1⟩
    clear k0 k1
    obtain ⟨i0, hi0, hz0, hz1, hz2⟩ := info_parts info51
    go_upto_region 10 with (first
      | (go_at_call 21; refine (shape_any ka pa n kc pn pc K Q _ hn hpn HK2.out HQ2.out (HK.out.below HBZ.out (Nat.le_refl _)) (HP.out.below HBZ.out (Nat.le_refl _))).mono ?_
         rintro ee w1 ⟨b, rv, s, rfl, hs, hb, hrow, hown, hne, hbel⟩
         change s = Fo.sh K (qOf pn Q) n at hs
         subst hs
         obtain ⟨ra, rc, rfl, hroots⟩ := roots_form hown
         have HROW := Lib.hid hrow
         have HB1 := Lib.hid hbel
         have HW1 := Lib.hid (HBZ.out.trans (hbel.mono HBZ.out.size))
         have HRT := Lib.hid hroots
         clear hrow hbel hroots hown hne)
      | (go_at_call 22; refine (build_any n kc b n sn sc ka sa K (Fo.sh K (qOf pn Q) n).par S _ hn hsn HK2.out HPAR.out (HK.out.below HW1.out (Nat.le_refl _)) HROW.out (HS.out.below HW1.out (Nat.le_refl _))).mono ?_
         rintro ee w2 ⟨V, rfl, hgrow, hbel2⟩
         have HG2 := Lib.hid hgrow
         have HB2 := Lib.hid hbel2
         have HW2 := Lib.hid (HW1.out.trans (hbel2.mono HW1.out.size))
         have HROW2 := Lib.hid (rowIs_below HROW.out hbel2 (Nat.le_refl _))
         clear hgrow hbel2)
      | (go_at_call 23; refine (rest_any ka sa n kc b n sn sc K (Fo.sh K (qOf pn Q) n).par S _ hn hsn HK2.out HPAR.out (HK.out.below HW2.out (Nat.le_refl _)) HROW2.out (HS.out.below HW2.out (Nat.le_refl _))).mono ?_
         rintro ee w3 ⟨b3, s3, rfl, hs3, hb3, hrow3, hbel3⟩
         have HS3 := Lib.hid hs3
         have HROW3 := Lib.hid hrow3
         have HB3 := Lib.hid hbel3
         clear hs3 hrow3 hbel3))
    obtain ⟨L, HL⟩ : ∃ L, Hid (L = (Fo.sh K (qOf pn Q) n).roots.length) := ⟨_, Lib.hid rfl⟩
    obtain ⟨R, HRR⟩ : ∃ R, Hid (R = rt (Fo.sh K (qOf pn Q) n).roots) := ⟨_, Lib.hid rfl⟩
    have hln := (Fo.good K (qOf pn Q) n).len
    rw [← HL.out] at hln
    rw [← HL.out] at HRT HX
    rw [← HRR.out] at HX
    rw [← HL.out]
    have hmk := fun W => run_make (P := Try.prog) W 39 51 i0 _ Try.underlying39 hi0 hz0 .i64 .i64 0 L (by omega) (by omega) (by rw [hz2]; omega) (by omega)
    rw [hz1] at hmk
    go_upto_block 0 with fail
    -- the declarations
    clear hmk
    go_cut [22] (fun v wx => wx.ownsRow w3.heap.size 51 4 v L ((List.range L).flatMap (itemD K w1.heap.size R (fun _ => .nilIface))) ∧ Below w3.heap.size w3 wx)
    case first =>
      go_wp2
      go_loopw [23, 22] (fun iv v wx => ∃ (t : Nat), t ≤ L ∧ iv = .int .i64 t ∧ wx.ownsRow w3.heap.size 51 4 v t ((List.range t).flatMap (itemD K w1.heap.size R (fun _ => .nilIface))) ∧ Below w3.heap.size w3 wx)
        (fun iv _ _ => L - (intOf iv).toNat)
      case atStart =>
        refine ⟨0, by omega, rfl, ⟨rfl, .inr ⟨w3.heap.size, L, _, rfl, Nat.le_refl _, heap_alloc_new _ _, by omega, by unfold maxLen; omega, size_madeCells _ _, by simp⟩⟩, by go_grown⟩
      case round =>
        obtain ⟨t, htl, rfl, hown, hbel⟩ := hrel
        obtain ⟨wx, rfl⟩ : ∃ wx : World, wx = wr := ⟨_, rfl⟩
        have HO := Lib.hid hown
        have HB := Lib.hid hbel
        clear hown hbel
        by_cases hlt : t < L
        · have hroot := rt_root (K := K) (Q := qOf pn Q) (n := n) (t := t) (by rw [← HL.out]; exact hlt)
          obtain ⟨g, rfl, hgl, hgs, c1⟩ := HRT.out t hlt
          obtain ⟨r, HR⟩ : ∃ r, Hid (r = R t) := ⟨_, Lib.hid rfl⟩
          rw [← HRR.out, ← HR.out] at hroot c1
          have hrn := hroot.1
          have hg2 : g < w2.heap.size := Nat.lt_of_lt_of_le hgs HB2.out.size
          have hg3 : g < w3.heap.size := Nat.lt_of_lt_of_le hg2 HB3.out.size
          have c1' : wx.cell? ⟨g, t, none⟩ = some (.int .i64 r) := (HB.out.cell (p := ⟨g, t, none⟩) hg3).trans ((HB3.out.cell (p := ⟨g, t, none⟩) hg2).trans ((HB2.out.cell (p := ⟨g, t, none⟩) hgs).trans c1))
          have GX := Lib.hid ((HG2.out.later HB3.out).later HB.out)
          have c2 := GX.out.bs.cell (i := r * 2) (by omega)
          have c3 := GX.out.bs.cell (i := r * 2 + 1) (by omega)
          unfold bsV at c2 c3
          rw [if_neg (by omega), if_pos (by omega), show r * 2 / 2 = r by omega] at c2
          rw [if_pos (by omega)] at c3
          obtain ⟨ty, nv, hnv⟩ := nodeV_form (K r) (w1.heap.size + 3 + r)
          rw [hnv] at c2
          have HNV := Lib.hid hnv
          have hl1 : w1.heap.size < wx.heap.size := GX.out.bs.lt
          have hlx := HB.out.size
          clear c1 hroot hnv
          go_wp2_with (first | (at_builtin; refine Hid.out ?_))
          unfold Hid
          refine wpList_append_where _ rfl (.tmp 68) (.tmp 77) 39 rfl w3.heap.size 51 i0 _ 4 48 Try.underlying39 hi0 hz0 hz1 hz2 rfl four_pos u22 t ((List.range t).flatMap (itemD K w1.heap.size R (fun _ => .nilIface))) rfl (HO.out.alloc _) ⟨wx.heap.size, 0, none⟩ 1 1 [.iface ty nv, .int .i32 0, .nilIface, .int .i32 0] rfl rfl one_pos ?_ ?_ ?_ ?_ ?_ ?_
          · exact cells_new wx [.iface ty nv, .int .i32 0, .nilIface, .int .i32 0] 51
          · intro u hu
            simp only [List.mem_cons, List.not_mem_nil, or_false] at hu
            rcases hu with rfl | rfl | rfl | rfl <;> rfl
          · unfold maxLen; omega
          · omega
          · simp; omega
          intro v5 w5 hown5 hgr5 hwh5
          have hb5 := (HB.out.alloc HB.out.size _).grown hgr5 (by simp; omega) (fun gg hgg => (HO.out.lt gg hgg).1)
          have K5 := Lib.hid hown5
          have B5 := Lib.hid hb5
          clear hown5 hgr5 hwh5 hb5
          go_wp2
          go_roundw
          case rel =>
            refine ⟨t + 1, by omega, by go_num, ?_, B5.out⟩
            have e := K5.out
            rw [← HNV.out, HR.out] at e
            rw [List.range_succ, List.flatMap_append]
            simpa [itemD] using e
          case measure => simp [intOf]; omega
        · have htL : t = L := by omega
          have HTL := Lib.hid htL
          clear htL
          go_wp2_with fail
          go_meet
          have e := HTL.out
          subst e
          exact ⟨HO.out, HB.out⟩
    case rest =>
      obtain ⟨hown, hbel⟩ := hcut
      obtain ⟨a, c, rfl, hdecls⟩ := decls_form hown
      obtain ⟨wd, rfl⟩ : ∃ wd : World, wd = wc := ⟨_, rfl⟩
      have HB := Lib.hid hbel
      have HDD := Lib.hid hdecls
      have GX := Lib.hid ((HG2.out.later HB3.out).later HB.out)
      have hRn : ∀ t, t < L → R t < n ∧ (Fo.sh K (qOf pn Q) n).par (R t) = -1 := fun t ht => by
        rw [HRR.out]; exact rt_root (by rw [← HL.out]; exact ht)
      have HRN := Lib.hid hRn
      have HZD : Hid (Below wz.heap.size wz wd) := Lib.hid (HB1.out.trans ((HB2.out.trans ((HB3.out.trans (HB.out.mono HB3.out.size)).mono HB2.out.size)).mono HB1.out.size))
      have HA4 : Hid (Below wd.heap.size wd (wd.alloc (.cells #[.slice a L c, .int .u8 0, .bool false, .bool false] 82))) := Lib.hid ((Below.refl wd.heap.size wd).alloc (Nat.le_refl _) _)
      have KP : Hid (∀ W, Below (wd.alloc (.cells #[.slice a L c, .int .u8 0, .bool false, .bool false] 82)).heap.size (wd.alloc (.cells #[.slice a L c, .int .u8 0, .bool false, .bool false] 82)) W → W.cell? ⟨wd.heap.size, 0, none⟩ = some (.slice a L c) ∧ W.cell? ⟨w6.heap.size, 0, none⟩ = some (.slice sa0 ns ac) ∧ W.cell? ⟨w6.heap.size + 1 + 1, 23, none⟩ = some (.int .u64 x)) := by
        refine Lib.hid fun W hW => ?_
        have hz := KZ.out W (HZD.out.trans ((HA4.out.trans (hW.mono HA4.out.size)).mono HZD.out.size))
        exact ⟨(hW.cell (p := ⟨wd.heap.size, 0, none⟩) (by simp)).trans (one_new wd [.slice a L c, .int .u8 0, .bool false, .bool false] 82 0 _ rfl), hz.2, hz.1⟩
      have HFOR : Hid (Calls Try.prog 31 #[.pointer (some ⟨w6.heap.size + 1 + 1, 0, none⟩), .agg #[.iface 79 (.pointer (some ⟨wd.heap.size, 0, none⟩)), .int .i32 0], .pointer (some ⟨w6.heap.size + 1, 0, none⟩)] (wd.alloc (.cells #[.slice a L c, .int .u8 0, .bool false, .bool false] 82)) fun e w' => e = .returned (.tuple #[]) ∧ Below (wd.alloc (.cells #[.slice a L c, .int .u8 0, .bool false, .bool false] 82)).heap.size (wd.alloc (.cells #[.slice a L c, .int .u8 0, .bool false, .bool false] 82)) w') := by
        refine Lib.hid (zfor_of _ _ _ 79 _ fun W hW => ?_)
        obtain ⟨m0, m1, m2⟩ := KP.out W hW
        have hdW : Below wd.heap.size wd W := HA4.out.trans (hW.mono HA4.out.size)
        cases hb : (bits BinOp.and IntKind.u64 x 35184372088832 != 0) with
        | false => exact (for_clear _ _ x W 79 _ m2 hb).mono fun e w' h => ⟨h.1, hW.trans (h.2.mono hW.size)⟩
        | true =>
          refine (for_local _ wd.heap.size _ x W a L c (by omega) m2 hb m0 fun h1 => ?_).mono fun e w' h => ⟨h.1, hW.trans (h.2.mono hW.size)⟩
          have hr0 : Fo.hr K (Fo.sh K (qOf pn Q) n).par (fOf sn S) n (R 0) = false := by
            rcases HX.out with h | h
            · rw [hb] at h; cases h
            · exact h h1
          obtain ⟨g, e1, hgl, d0, d1, _, _⟩ := HDD.out 0 (by omega)
          obtain ⟨ty, nv, hnv⟩ := nodeV_form (K (R 0)) (w1.heap.size + 3 + R 0)
          rw [hnv] at d0
          refine ⟨g, ty, nv, e1, ?_, ?_, fun W' hW' => ?_⟩
          · have := (hdW.cell (p := ⟨g, 0 * 4, none⟩) hgl).trans d0
            simpa using this
          · have := (hdW.cell (p := ⟨g, 0 * 4 + 1, none⟩) hgl).trans d1
            simpa using this
          · have := has_any (S := fOf sn S) HPAR.out hn (n - R 0) (R 0) (Nat.le_refl _) (HRN.out 0 (by omega)).1 W' ((GX.out.later hdW).later hW')
            rw [hnv, hr0] at this
            exact this
      have HSAME : Hid (∀ W, Below (wd.alloc (.cells #[.slice a L c, .int .u8 0, .bool false, .bool false] 82)).heap.size (wd.alloc (.cells #[.slice a L c, .int .u8 0, .bool false, .bool false] 82)) W → Calls Try.prog 30 #[.slice sa0 ns ac, .slice sa0 ns ac, .int .i64 ns] W fun e w' => e = .returned (.bool true) ∧ Below (wd.alloc (.cells #[.slice a L c, .int .u8 0, .bool false, .bool false] 82)).heap.size (wd.alloc (.cells #[.slice a L c, .int .u8 0, .bool false, .bool false] 82)) w') :=
        Lib.hid fun W hW => (same_any sa0 ns ac hns HA.out W).mono fun e w' h => ⟨h.1, hW.trans (h.2.mono hW.size)⟩
      have HFIN : Hid (∀ W, Below wd.heap.size wd W → Below w.heap.size w W) := Lib.hid fun W hW => HBZ.out.trans ((HZD.out.trans (hW.mono HZD.out.size)).mono HBZ.out.size)
      clear hown hbel hdecls hRn
      go_upto_region 21 with (first
        | (go_at_call 31; refine HFOR.out.mono ?_; rintro ee w7 ⟨rfl, h7⟩; obtain ⟨m0, m1, m2⟩ := KP.out _ h7; have B7 := Lib.hid h7; clear h7)
        | (go_at_call 30; refine (HSAME.out _ B7.out).mono ?_; rintro ee w8 ⟨rfl, h8⟩; clear m0 m1 m2; obtain ⟨m0, m1, m2⟩ := KP.out _ h8; have B8 := Lib.hid h8; clear h8))
      have BD : Hid (Below wd.heap.size wd w8) := Lib.hid (HA4.out.trans (B8.out.mono HA4.out.size))
      have M0 := Lib.hid m0
      have hl8 : wd.heap.size < w8.heap.size := World.block_lt_of_cell? w8 _ m0
      clear m0 m1 m2
      go_wp2_with fail
      go_loopw [25] (fun iv wx => ∃ t : Nat, t ≤ L ∧ iv = .int .i64 t ∧ Below w8.heap.size w8 wx)
        (fun iv _ => L - (intOf iv).toNat)
      case atStart => exact ⟨0, by omega, rfl, Below.refl _ _⟩
      case round =>
        obtain ⟨t, htl, rfl, hb8⟩ := hrel
        obtain ⟨wx, rfl⟩ : ∃ wx : World, wx = wr := ⟨_, rfl⟩
        have B88 := Lib.hid hb8
        have B9 : Hid (Below wd.heap.size wd wx) := Lib.hid (BD.out.trans (hb8.mono BD.out.size))
        clear hb8
        by_cases hlt : t < L
        · obtain ⟨g, rfl, hgl, c1, c2, _, _⟩ := HDD.out t hlt
          obtain ⟨gr, rfl, hgr1, hgr2, c3⟩ := HRT.out t hlt
          obtain ⟨r, HR⟩ : ∃ r, Hid (r = R t) := ⟨_, Lib.hid rfl⟩
          have hrr := HRN.out t hlt
          rw [← HRR.out, ← HR.out] at c3
          rw [← HR.out] at c1 hrr
          have hrn := hrr.1
          have hdx : Below w1.heap.size w1 wx := HB2.out.trans ((HB3.out.mono HB2.out.size).trans ((HB.out.mono (Nat.le_trans HB2.out.size HB3.out.size)).trans (B9.out.mono (Nat.le_trans HB2.out.size (Nat.le_trans HB3.out.size HB.out.size)))))
          have d3 : wx.cell? ⟨gr, t, none⟩ = some (.int .i64 r) := (hdx.cell (p := ⟨gr, t, none⟩) hgr2).trans c3
          have hb3l : b3 < w3.heap.size := HROW3.out.lt
          have h3x : Below w3.heap.size w3 wx := HB.out.trans (B9.out.mono HB.out.size)
          have d4 : wx.cell? ⟨b3, r, none⟩ = some (restV s3 r) := (h3x.cell (p := ⟨b3, r, none⟩) hb3l).trans (HROW3.out.cell hrn)
          have d1 := (B9.out.cell (p := ⟨g, t * 4, none⟩) hgl).trans c1
          have d2 := (B9.out.cell (p := ⟨g, t * 4 + 1, none⟩) hgl).trans c2
          have d5 : wx.cell? ⟨wd.heap.size, 0, none⟩ = some (.slice (some ⟨g, 0, none⟩) L c) := (B88.out.cell (p := ⟨wd.heap.size, 0, none⟩) hl8).trans M0.out
          obtain ⟨bv, hbv⟩ : ∃ bv, Fo.hr K (Fo.sh K (qOf pn Q) n).par (fOf sn S) n r = bv := ⟨_, rfl⟩
          have hv3 : s3.rest r = bv := by
            rw [HS3.out, ← hbv]
            exact Fo.rest_root HPAR.out r hrn hrr.2
          unfold restV at d4
          rw [hv3] at d4
          obtain ⟨ty, nv, hnv⟩ := nodeV_form (K r) (w1.heap.size + 3 + r)
          rw [hnv] at d1
          have HCALL : Hid (∀ W, Below wx.heap.size wx W → Calls Try.prog 27 #[.agg #[.iface ty nv, .int .i32 0]] W fun e w' => e = .returned (.bool bv) ∧ Below wx.heap.size wx w') := by
            rw [← hnv, ← hbv]
            exact Lib.hid fun W hW => (zhas_any HPAR.out hn r hrn W ((GX.out.later B9.out).later hW)).mono fun e w' h => ⟨h.1, hW.trans (h.2.mono hW.size)⟩
          have lg : g < wx.heap.size := Nat.lt_of_lt_of_le hgl B9.out.size
          have lr : gr < wx.heap.size := Nat.lt_of_lt_of_le hgr2 hdx.size
          have lb : b3 < wx.heap.size := Nat.lt_of_lt_of_le hb3l h3x.size
          have ld : wd.heap.size < wx.heap.size := Nat.lt_of_lt_of_le hl8 B88.out.size
          have KP2 : Hid (∀ W, Below wx.heap.size wx W → W.cell? ⟨g, t * 4, none⟩ = some (.iface ty nv) ∧ W.cell? ⟨g, t * 4 + 1, none⟩ = some (.int .i32 0) ∧ W.cell? ⟨gr, t, none⟩ = some (.int .i64 r) ∧ W.cell? ⟨b3, r, none⟩ = some (.bool bv) ∧ W.cell? ⟨wd.heap.size, 0, none⟩ = some (.slice (some ⟨g, 0, none⟩) L c)) :=
            Lib.hid fun W hW => ⟨(hW.cell (p := ⟨g, _, none⟩) lg).trans d1, (hW.cell (p := ⟨g, _, none⟩) lg).trans d2, (hW.cell (p := ⟨gr, _, none⟩) lr).trans d3, (hW.cell (p := ⟨b3, _, none⟩) lb).trans d4, (hW.cell (p := ⟨wd.heap.size, _, none⟩) ld).trans d5⟩
          clear c1 c2 c3 hdx h3x hbv hv3 hnv hrr
          cases bv with
          | false =>
            go_wp2_with fail
            go_region_held3 (fun W : World => W.cell? ⟨g, t * 4, none⟩ = some (.iface ty nv) ∧ W.cell? ⟨g, t * 4 + 1, none⟩ = some (.int .i32 0) ∧ W.cell? ⟨gr, t, none⟩ = some (.int .i64 r) ∧ W.cell? ⟨b3, r, none⟩ = some (.bool false) ∧ W.cell? ⟨wd.heap.size, 0, none⟩ = some (.slice (some ⟨g, 0, none⟩) L c)) (first | exact KP2.out _ hy | exact KP2.out _ ((Below.refl _ _).drew) | go_keep) (first | (go_at_call 27; refine Calls.mono (HCALL.out _ ?_) ?_; exact (Below.refl _ _).drew; rintro e wy ⟨rfl, hy⟩))
            all_goals
              go_wp2_with fail
              go_roundw
              all_goals first
                | exact ⟨t + 1, by omega, by go_num, B88.out.trans (hy.mono B88.out.size)⟩
                | (simp [intOf]; omega)
          | true =>
            go_wp2_with fail
            go_region_held3 (fun W : World => W.cell? ⟨g, t * 4, none⟩ = some (.iface ty nv) ∧ W.cell? ⟨g, t * 4 + 1, none⟩ = some (.int .i32 0) ∧ W.cell? ⟨gr, t, none⟩ = some (.int .i64 r) ∧ W.cell? ⟨b3, r, none⟩ = some (.bool true) ∧ W.cell? ⟨wd.heap.size, 0, none⟩ = some (.slice (some ⟨g, 0, none⟩) L c)) (first | exact KP2.out _ hy | exact KP2.out _ ((Below.refl _ _).drew) | go_keep) (first | (go_at_call 27; refine Calls.mono (HCALL.out _ ?_) ?_; exact (Below.refl _ _).drew; rintro e wy ⟨rfl, hy⟩))
            all_goals
              go_wp2_with fail
              go_roundw
              all_goals first
                | exact ⟨t + 1, by omega, by go_num, B88.out.trans (hy.mono B88.out.size)⟩
                | (simp [intOf]; omega)
        · go_wp2_with fail
          go_ret
          exact ⟨rfl, HFIN.out _ B9.out⟩
end
end Go.Proofs.Ytoeaockleddngaa
