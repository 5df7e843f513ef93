/- zzDeclsRun: it says yes. -/
import Derived.Test.YtoeaockleddngaaWC
import Derived.Deep.CutBlock
import Derived.Deep.DeepCutAuto
import Derived.WalkSmall
import Derived.LaidEqlPtr
import Derived.Deep.RegionHeld3
namespace Go.Proofs.Ytoeaockleddngaa
open Go Go.RowKit
set_option maxRecDepth 100000
set_option linter.unusedVariables false

theorem run_neq_ptr_same {P : Program} (w : World) {tp te : TypeId} {j : TypeInfo} (a : Addr) (hp : P.underlying tp = some (.pointer te)) (hte : P.info? te = some j) :
    (binOp .neq tp (.pointer (some a)) (.pointer (some a))).run P w = .ok (.bool false) w := by
  have h : ∀ d : Nat, (Op.equalIn (d + 1) tp (.pointer (some a)) (.pointer (some a))).run P w = .ok true w := fun d => by
    simp [Op.equalIn, run_underlying hp, sizeOf, typeInfo, hte, run_sameAddr_same]
  simp only [binOp]
  simp [Op.equal, Op.maxDepth, h 9999]
theorem Decls.below {K : Nat → Nat} {w0 : Nat} {R : Nat → Nat} {E : Nat → Value} {w w' : World} {a : Option Addr} {L : Nat} (h : Decls K w0 R E w a L) (hb : Below w.heap.size w w') : Decls K w0 R E w' a L := by
  intro t ht
  obtain ⟨g, h1, h2, c1, c2, c3, c4⟩ := h t ht
  exact ⟨g, h1, Nat.lt_of_lt_of_le h2 hb.size, (hb.cell (p := ⟨g, _, none⟩) h2).trans c1, (hb.cell (p := ⟨g, _, none⟩) h2).trans c2, (hb.cell (p := ⟨g, _, none⟩) h2).trans c3, (hb.cell (p := ⟨g, _, none⟩) h2).trans c4⟩

section
variable (ka pa sa ia : Option Addr) (n kc pn pc sn sc im ic : Nat) (K : Nat → Nat) (Q : Nat → Int) (S I : Nat → Bool) (w : World) (x : Int)
set_option maxHeartbeats 2000000 in
theorem run_any (hn : n ≤ 65536) (hpn : pn ≤ 65536) (hsn : sn ≤ 65536) (him : im ≤ 65536) (hK : ∀ j, K j ≤ 255) (hQ : ∀ j, -2147483648 ≤ Q j ∧ Q j ≤ 2147483647)
    (hk : Arr w ka n fun j => .int .u8 (K j)) (hp : Arr w pa pn fun j => .int .i32 (Q j)) (hs : Arr w sa sn fun j => .bool (S j)) (hi : Arr w ia im fun j => .bool (I j))
    (hx : (bits BinOp.and IntKind.u64 x 35184372088832 != 0) = false ∨ ((bits BinOp.and IntKind.u64 x 35184372088832 != 0) = true ∧ ∀ t, t < (Fo.sh K (qOf pn Q) n).roots.length → fOf im I t = true → Fo.hr K (Fo.sh K (qOf pn Q) n).par (fOf sn S) n (rt (Fo.sh K (qOf pn Q) n).roots t) = false)) :
    Calls Try.prog 10 #[.int .u64 x, .slice ka n kc, .slice pa pn pc, .slice sa sn sc, .slice ia im ic] w fun e w' => e = .returned (.bool true) ∧ Below w.heap.size w w' := by
  have HK := Lib.hid hk
  have HP := Lib.hid hp
  have HS := Lib.hid hs
  have HI := Lib.hid hi
  have HK2 := Lib.hid hK
  have HQ2 := Lib.hid hQ
  have HX := Lib.hid hx
  have HPAR : Hid (Fo.Par K n (Fo.sh K (qOf pn Q) n).par) := Lib.hid (Fo.good K (qOf pn Q) n).par
  clear hk hp hs hi hK hQ hx
  obtain ⟨i0, hi0, hz0, hz1, hz2⟩ := info_parts info51
  go_enter Try.func10, Try.ntmps10
  go_upto_block 0 with (first
    | (go_at_call 21; refine (shape_any ka pa n kc pn pc K Q _ hn hpn HK2.out HQ2.out HK.out HP.out).mono ?_
       rintro ee w1 ⟨b, rv, s, rfl, hs, hb, hrow, hown, hne, hbel⟩
       change s = Fo.sh K (qOf pn Q) n at hs
       subst hs
       obtain ⟨ra, rc, rfl, hroots⟩ := roots_form hown
       have HROW := Lib.hid hrow
       have HB1 := Lib.hid hbel
       have HRT := Lib.hid hroots
       clear hrow hbel hroots hown hne)
    | (go_at_call 22; refine (build_any n kc b n sn sc ka sa K (Fo.sh K (qOf pn Q) n).par S _ hn hsn HK2.out HPAR.out (HK.out.below HB1.out (Nat.le_refl _)) HROW.out (HS.out.below HB1.out (Nat.le_refl _))).mono ?_
       rintro ee w2 ⟨V, rfl, hgrow, hbel2⟩
       have HG2 := Lib.hid hgrow
       have HB2 := Lib.hid hbel2
       have HW2 := Lib.hid (HB1.out.trans (hbel2.mono HB1.out.size))
       have HROW2 := Lib.hid (rowIs_below HROW.out hbel2 (Nat.le_refl _))
       clear hgrow hbel2)
    | (go_at_call 23; refine (rest_any ka sa n kc b n sn sc K (Fo.sh K (qOf pn Q) n).par S _ hn hsn HK2.out HPAR.out (HK.out.below HW2.out (Nat.le_refl _)) HROW2.out (HS.out.below HW2.out (Nat.le_refl _))).mono ?_
       rintro ee w3 ⟨b3, s3, rfl, hs3, hb3, hrow3, hbel3⟩
       have HS3 := Lib.hid hs3
       have HROW3 := Lib.hid hrow3
       have HB3 := Lib.hid hbel3
       clear hs3 hrow3 hbel3))
  obtain ⟨L, HL⟩ : ∃ L, Hid (L = (Fo.sh K (qOf pn Q) n).roots.length) := ⟨_, Lib.hid rfl⟩
  obtain ⟨R, HRR⟩ : ∃ R, Hid (R = rt (Fo.sh K (qOf pn Q) n).roots) := ⟨_, Lib.hid rfl⟩
  have hln := (Fo.good K (qOf pn Q) n).len
  rw [← HL.out] at hln
  rw [← HL.out] at HRT
  rw [← HL.out]
  go_cut [15] (fun v wx => ∃ E, wx.ownsRow w3.heap.size 51 4 v L ((List.range L).flatMap (itemD K w1.heap.size R E)) ∧ (∀ t, t < L → (fOf im I t = false → E t = .nilIface) ∧ (fOf im I t = true → ∃ u, E t = .iface 53 u)) ∧ Below w3.heap.size w3 wx)
  case first =>
    go_wp2
    go_loopw [16, 15] (fun iv v wx => ∃ (t : Nat) (E : Nat → Value), t ≤ L ∧ iv = .int .i64 t ∧ wx.ownsRow w3.heap.size 51 4 v t ((List.range t).flatMap (itemD K w1.heap.size R E)) ∧ (∀ u, u < t → (fOf im I u = false → E u = .nilIface) ∧ (fOf im I u = true → ∃ y, E u = .iface 53 y)) ∧ Below w3.heap.size w3 wx)
      (fun iv _ _ => L - (intOf iv).toNat)
    case atStart => exact ⟨0, fun _ => .nilIface, by omega, rfl, World.ownsRow_nil _ _ _ _, fun u hu => by omega, by go_grown⟩
    case round =>
      obtain ⟨t, E, htl, rfl, hown, hE, hbel⟩ := hrel
      obtain ⟨wx, rfl⟩ : ∃ wx : World, wx = wr := ⟨_, rfl⟩
      have HO := Lib.hid hown
      have HE := Lib.hid hE
      have HB := Lib.hid hbel
      have hW : Below w.heap.size w wx := HW2.out.trans ((HB3.out.mono HW2.out.size).trans (HB.out.mono (Nat.le_trans HW2.out.size HB3.out.size)))
      have HFL : Hid (∀ W : World, Below wx.heap.size wx W → Calls Try.prog 24 #[.slice ia im ic, .int .i64 t] W fun e w' => e = .returned (.bool (fOf im I t)) ∧ W = w') :=
        Lib.hid fun W hw => flag_any ia im ic I t W (by omega) (by omega) (HI.out.below (hW.trans (hw.mono hW.size)) (Nat.le_refl _))
      clear hown hE hbel hW
      by_cases hlt : t < L
      · have hroot := rt_root (K := K) (Q := qOf pn Q) (n := n) (t := t) (by rw [← HL.out]; exact hlt)
        obtain ⟨g, rfl, hgl, hgs, c1⟩ := HRT.out t hlt
        obtain ⟨r, HR⟩ : ∃ r, Hid (r = R t) := ⟨_, Lib.hid rfl⟩
        rw [← HRR.out, ← HR.out] at hroot c1
        have hrn := hroot.1
        have hg2 : g < w2.heap.size := Nat.lt_of_lt_of_le hgs HB2.out.size
        have hg3 : g < w3.heap.size := Nat.lt_of_lt_of_le hg2 HB3.out.size
        have c1' : wx.cell? ⟨g, t, none⟩ = some (.int .i64 r) := (HB.out.cell (p := ⟨g, t, none⟩) hg3).trans ((HB3.out.cell (p := ⟨g, t, none⟩) hg2).trans ((HB2.out.cell (p := ⟨g, t, none⟩) hgs).trans c1))
        have GX := Lib.hid ((HG2.out.later HB3.out).later HB.out)
        have c2 := GX.out.bs.cell (i := r * 2) (by omega)
        have c3 := GX.out.bs.cell (i := r * 2 + 1) (by omega)
        unfold bsV at c2 c3
        rw [if_neg (by omega), if_pos (by omega), show r * 2 / 2 = r by omega] at c2
        rw [if_pos (by omega)] at c3
        obtain ⟨ty, nv, hnv⟩ := nodeV_form (K r) (w1.heap.size + 3 + r)
        rw [hnv] at c2
        have HNV := Lib.hid hnv
        have hl1 : w1.heap.size < wx.heap.size := GX.out.bs.lt
        have hlx := HB.out.size
        clear c1 hroot hnv
        cases hf : fOf im I t with
        | false =>
          have HF := Lib.hid hf
          clear hf
          go_wp2_with (first
            | (go_at_call 24; refine Calls.mono (HFL.out _ ?_) ?_; go_grown; rw [HF.out]; rintro ee w5 ⟨rfl, rfl⟩)
            | (at_builtin; refine Hid.out ?_))
          unfold Hid
          refine wpList_append_where _ rfl (.tmp 57) (.tmp 59) 39 rfl w3.heap.size 51 i0 _ 4 48 Try.underlying39 hi0 hz0 hz1 hz2 rfl four_pos u15 t ((List.range t).flatMap (itemD K w1.heap.size R E)) rfl ((HO.out.alloc _).alloc _) ⟨wx.heap.size + 1, 0, none⟩ 1 1 [.iface ty nv, .int .i32 0, .nilIface, .int .i32 0] rfl rfl one_pos ?_ ?_ ?_ ?_ ?_ ?_
          · have := cells_new (wx.alloc (.cells #[.iface ty nv, .int .i32 0, .nilIface, .int .i32 0] 51)) [.iface ty nv, .int .i32 0, .nilIface, .int .i32 0] 51
            rw [show (wx.alloc (.cells #[.iface ty nv, .int .i32 0, .nilIface, .int .i32 0] 51)).heap.size = wx.heap.size + 1 by simp] at this
            exact this
          · intro u hu
            simp only [List.mem_cons, List.not_mem_nil, or_false] at hu
            rcases hu with rfl | rfl | rfl | rfl <;> rfl
          · unfold maxLen; omega
          · omega
          · simp; omega
          intro v5 w5 hown5 hgr5 hwh5
          have hb5 := ((HB.out.alloc HB.out.size _).alloc (by simp; omega) _).grown hgr5 (by simp; omega) (fun gg hgg => (HO.out.lt gg hgg).1)
          have K5 := Lib.hid hown5
          have B5 := Lib.hid hb5
          clear hown5 hgr5 hwh5 hb5
          go_wp2
          go_roundw
          case rel =>
            refine ⟨t + 1, Fo.upd E t (.nilIface), by omega, by go_num, ?_, fun u hu => ?_, B5.out⟩
            · rw [itemD_upd, ← HR.out, HNV.out]; exact K5.out
            · by_cases e : u = t
              · subst e
                rw [Fo.upd_same]
                exact ⟨fun _ => rfl, fun h => absurd h (by rw [HF.out]; decide)⟩
              · rw [Fo.upd_other _ _ _ _ e]; exact HE.out u (by omega)
          case measure => simp [intOf]; omega
        | true =>
          have HF := Lib.hid hf
          clear hf
          go_wp2_with (first
            | (go_at_call 24; refine Calls.mono (HFL.out _ ?_) ?_; go_grown; rw [HF.out]; rintro ee w5 ⟨rfl, rfl⟩)
            | (at_builtin; refine Hid.out ?_))
          unfold Hid
          refine wpList_append_where _ rfl (.tmp 57) (.tmp 59) 39 rfl w3.heap.size 51 i0 _ 4 48 Try.underlying39 hi0 hz0 hz1 hz2 rfl four_pos u15 t ((List.range t).flatMap (itemD K w1.heap.size R E)) rfl (((HO.out.alloc _).alloc _).alloc _) ⟨wx.heap.size + 1 + 1, 0, none⟩ 1 1 [.iface ty nv, .int .i32 0, .iface 53 (.pointer (some ⟨wx.heap.size + 1, 0, none⟩)), .int .i32 0] rfl rfl one_pos ?_ ?_ ?_ ?_ ?_ ?_
          · have := cells_new ((wx.alloc (.cells #[.iface ty nv, .int .i32 0, .iface 53 (.pointer (some ⟨wx.heap.size + 1, 0, none⟩)), .int .i32 0] 51)).alloc (.cells #[.int .u32 0, .int .u32 0, .bool false, .bool false, .bool false] 58)) [.iface ty nv, .int .i32 0, .iface 53 (.pointer (some ⟨wx.heap.size + 1, 0, none⟩)), .int .i32 0] 51
            rw [show ((wx.alloc (.cells #[.iface ty nv, .int .i32 0, .iface 53 (.pointer (some ⟨wx.heap.size + 1, 0, none⟩)), .int .i32 0] 51)).alloc (.cells #[.int .u32 0, .int .u32 0, .bool false, .bool false, .bool false] 58)).heap.size = wx.heap.size + 1 + 1 by simp] at this
            exact this
          · intro u hu
            simp only [List.mem_cons, List.not_mem_nil, or_false] at hu
            rcases hu with rfl | rfl | rfl | rfl <;> rfl
          · unfold maxLen; omega
          · omega
          · simp; omega
          intro v5 w5 hown5 hgr5 hwh5
          have hb5 := (((HB.out.alloc HB.out.size _).alloc (by simp; omega) _).alloc (by simp; omega) _).grown hgr5 (by simp; omega) (fun gg hgg => (HO.out.lt gg hgg).1)
          have K5 := Lib.hid hown5
          have B5 := Lib.hid hb5
          clear hown5 hgr5 hwh5 hb5
          go_wp2
          go_roundw
          case rel =>
            refine ⟨t + 1, Fo.upd E t (.iface 53 (.pointer (some ⟨wx.heap.size + 1, 0, none⟩))), by omega, by go_num, ?_, fun u hu => ?_, B5.out⟩
            · rw [itemD_upd, ← HR.out, HNV.out]; exact K5.out
            · by_cases e : u = t
              · subst e
                rw [Fo.upd_same]
                exact ⟨fun h => absurd h (by rw [HF.out]; decide), fun _ => ⟨_, rfl⟩⟩
              · rw [Fo.upd_other _ _ _ _ e]; exact HE.out u (by omega)
          case measure => simp [intOf]; omega
      · have htL : t = L := by omega
        have HTL := Lib.hid htL
        clear htL
        go_wp2_with fail
        go_meet
        have e := HTL.out
        subst e
        exact ⟨E, HO.out, HE.out, HB.out⟩
  case rest =>
    obtain ⟨E, hown, hE, hbel⟩ := hcut
    obtain ⟨a, c, rfl, hdecls⟩ := decls_form hown
    obtain ⟨wd, rfl⟩ : ∃ wd : World, wd = wc := ⟨_, rfl⟩
    have HE := Lib.hid hE
    have HB := Lib.hid hbel
    have HDD := Lib.hid hdecls
    have GX := Lib.hid ((HG2.out.later HB3.out).later HB.out)
    have hRn : ∀ t, t < L → R t < n ∧ (Fo.sh K (qOf pn Q) n).par (R t) = -1 := fun t ht => by
      rw [HRR.out]; exact rt_root (by rw [← HL.out]; exact ht)
    have HRN := Lib.hid hRn
    have HW4 := Lib.hid (HW2.out.trans ((HB3.out.mono HW2.out.size).trans (HB.out.mono (Nat.le_trans HW2.out.size HB3.out.size))))
    have HD : Hid (∀ (W : World) (q : Nat), W.cell? ⟨q, 23, none⟩ = some (.int .u64 x) → Below wd.heap.size wd W → Calls Try.prog 26 #[.pointer (some ⟨q, 0, none⟩), .slice a L c] W fun e w' => e = .returned (.slice a L c) ∧ Below W.heap.size W w') := by
      refine Lib.hid fun W q hc hb => zdecls_of ?_
      rcases HX.out with h0 | ⟨h1, h2⟩
      · exact (decls_clear a L c q x W hc h0).mono fun e w' h => ⟨h.1, by rw [h.2]; exact Below.refl _ _⟩
      · refine decls_none HPAR.out hn R E a L c q (by omega) x W (GX.out.later hb) hc h1 (HDD.out.below hb) (fun t ht => (HRN.out t ht).1) (fun t ht => ?_)
        cases hf : fOf im I t with
        | false => exact .inl ((HE.out t ht).1 hf)
        | true => exact .inr ⟨(HE.out t ht).2 hf, by rw [HRR.out]; exact h2 t (by rw [← HL.out]; exact ht) hf⟩
    clear hown hE hbel hdecls hRn
    go_upto_region 16 with (first
      | (go_at_call 25; refine (parser_any x _).mono ?_; rintro ee w5 ⟨rfl, h5, h6, h7⟩; have P5 := Lib.hid h5; have B5 := Lib.hid h7; clear h5 h6 h7)
      | (go_at_call 26; refine (HD.out _ _ P5.out B5.out).mono ?_; rintro ee w6 ⟨rfl, h8⟩; have B6 := Lib.hid h8; clear h8))
    go_cut [80] (fun v wx => v = .bool false ∧ Below w6.heap.size w6 wx)
    case first =>
      by_cases hz : L = 0
      · have hz' : ((L : Int) > 0) = False := by simp; omega
        go_quiet (fail)
        go_wp2_with fail
        go_meet
        exact ⟨rfl, below_drewN (Below.refl _ _) _⟩
      · have hz1 : 0 < L := by omega
        have hz2 : decide (0 < L) = true := by simpa using hz1
        have hz3 : decide ((L : Int) > 0) = true := by simpa using hz1
        have hz4 : decide ((0 : Int) < L) = true := by simpa using hz1
        obtain ⟨g, rfl, hgl, _⟩ := HDD.out 0 (by omega)
        have hpe := fun W => run_neq_ptr_same (P := Try.prog) W (tp := 62) ⟨g, 0, none⟩ Try.underlying62 hi0
        go_region
        all_goals (go_wp2_with fail; go_meet; exact ⟨rfl, (Below.refl _ _).drew⟩)
    case rest =>
      obtain ⟨rfl, hb7⟩ := hcut
      obtain ⟨w7, rfl⟩ : ∃ w7 : World, w7 = wc := ⟨_, rfl⟩
      have B7 : Hid (Below wd.heap.size wd w7) := Lib.hid (B5.out.trans ((B6.out.mono B5.out.size).trans (hb7.mono (Nat.le_trans B5.out.size B6.out.size))))
      clear hb7
      go_wp2_with fail
      go_loopw [20] (fun iv wx => ∃ t : Nat, t ≤ L ∧ iv = .int .i64 t ∧ Below wd.heap.size wd wx)
        (fun iv _ => L - (intOf iv).toNat)
      case atStart => exact ⟨0, by omega, rfl, B7.out⟩
      case round =>
        obtain ⟨t, htl, rfl, hb8⟩ := hrel
        obtain ⟨wx, rfl⟩ : ∃ wx : World, wx = wr := ⟨_, rfl⟩
        have B8 := Lib.hid hb8
        clear hb8
        by_cases hlt : t < L
        · obtain ⟨g, rfl, hgl, c1, c2, _, _⟩ := HDD.out t hlt
          obtain ⟨gr, rfl, hgr1, hgr2, c3⟩ := HRT.out t hlt
          obtain ⟨r, HR⟩ : ∃ r, Hid (r = R t) := ⟨_, Lib.hid rfl⟩
          have hrr := HRN.out t hlt
          rw [← HRR.out, ← HR.out] at c3
          rw [← HR.out] at c1 hrr
          have hrn := hrr.1
          have hdx : Below w1.heap.size w1 wx := HB2.out.trans ((HB3.out.mono HB2.out.size).trans ((HB.out.mono (Nat.le_trans HB2.out.size HB3.out.size)).trans (B8.out.mono (Nat.le_trans HB2.out.size (Nat.le_trans HB3.out.size HB.out.size)))))
          have d3 : wx.cell? ⟨gr, t, none⟩ = some (.int .i64 r) := (hdx.cell (p := ⟨gr, t, none⟩) hgr2).trans c3
          have hb3l : b3 < w3.heap.size := HROW3.out.lt
          have h3x : Below w3.heap.size w3 wx := HB.out.trans (B8.out.mono HB.out.size)
          have d4 : wx.cell? ⟨b3, r, none⟩ = some (restV s3 r) := (h3x.cell (p := ⟨b3, r, none⟩) hb3l).trans (HROW3.out.cell hrn)
          have d1 := (B8.out.cell (p := ⟨g, t * 4, none⟩) hgl).trans c1
          have d2 := (B8.out.cell (p := ⟨g, t * 4 + 1, none⟩) hgl).trans c2
          obtain ⟨bv, hbv⟩ : ∃ bv, Fo.hr K (Fo.sh K (qOf pn Q) n).par (fOf sn S) n r = bv := ⟨_, rfl⟩
          have hv3 : s3.rest r = bv := by
            rw [HS3.out, ← hbv]
            exact Fo.rest_root HPAR.out r hrn hrr.2
          unfold restV at d4
          rw [hv3] at d4
          obtain ⟨ty, nv, hnv⟩ := nodeV_form (K r) (w1.heap.size + 3 + r)
          rw [hnv] at d1
          have HCALL : Hid (∀ W, Below wx.heap.size wx W → Calls Try.prog 27 #[.agg #[.iface ty nv, .int .i32 0]] W fun e w' => e = .returned (.bool bv) ∧ Below wx.heap.size wx w') := by
            rw [← hnv, ← hbv]
            exact Lib.hid fun W hW => (zhas_any HPAR.out hn r hrn W ((GX.out.later B8.out).later hW)).mono fun e w' h => ⟨h.1, hW.trans (h.2.mono hW.size)⟩
          have lg : g < wx.heap.size := Nat.lt_of_lt_of_le hgl B8.out.size
          have lr : gr < wx.heap.size := Nat.lt_of_lt_of_le hgr2 hdx.size
          have lb : b3 < wx.heap.size := Nat.lt_of_lt_of_le hb3l h3x.size
          have KP : Hid (∀ W, Below wx.heap.size wx W → W.cell? ⟨g, t * 4, none⟩ = some (.iface ty nv) ∧ W.cell? ⟨g, t * 4 + 1, none⟩ = some (.int .i32 0) ∧ W.cell? ⟨gr, t, none⟩ = some (.int .i64 r) ∧ W.cell? ⟨b3, r, none⟩ = some (.bool bv)) :=
            Lib.hid fun W hW => ⟨(hW.cell (p := ⟨g, _, none⟩) lg).trans d1, (hW.cell (p := ⟨g, _, none⟩) lg).trans d2, (hW.cell (p := ⟨gr, _, none⟩) lr).trans d3, (hW.cell (p := ⟨b3, _, none⟩) lb).trans d4⟩
          clear c1 c2 c3 hdx h3x hbv hv3 hnv hrr
          cases bv with
          | false =>
            go_wp2_with fail
            go_region_held3 (fun W : World => W.cell? ⟨g, t * 4, none⟩ = some (.iface ty nv) ∧ W.cell? ⟨g, t * 4 + 1, none⟩ = some (.int .i32 0) ∧ W.cell? ⟨gr, t, none⟩ = some (.int .i64 r) ∧ W.cell? ⟨b3, r, none⟩ = some (.bool false)) (first | exact KP.out _ hy | exact KP.out _ ((Below.refl _ _).drew) | go_keep) (first | (go_at_call 27; refine Calls.mono (HCALL.out _ ?_) ?_; exact (Below.refl _ _).drew; rintro e wy ⟨rfl, hy⟩))
            all_goals
              go_wp2_with fail
              go_roundw
              all_goals first
                | exact ⟨t + 1, by omega, by go_num, B8.out.trans (hy.mono B8.out.size)⟩
                | (simp [intOf]; omega)
          | true =>
            go_wp2_with fail
            go_region_held3 (fun W : World => W.cell? ⟨g, t * 4, none⟩ = some (.iface ty nv) ∧ W.cell? ⟨g, t * 4 + 1, none⟩ = some (.int .i32 0) ∧ W.cell? ⟨gr, t, none⟩ = some (.int .i64 r) ∧ W.cell? ⟨b3, r, none⟩ = some (.bool true)) (first | exact KP.out _ hy | exact KP.out _ ((Below.refl _ _).drew) | go_keep) (first | (go_at_call 27; refine Calls.mono (HCALL.out _ ?_) ?_; exact (Below.refl _ _).drew; rintro e wy ⟨rfl, hy⟩))
            all_goals
              go_wp2_with fail
              go_roundw
              all_goals first
                | exact ⟨t + 1, by omega, by go_num, B8.out.trans (hy.mono B8.out.size)⟩
                | (simp [intOf]; omega)
        · go_wp2_with fail
          go_ret
          exact ⟨rfl, HW4.out.trans (B8.out.mono HW4.out.size)⟩
end
end Go.Proofs.Ytoeaockleddngaa
