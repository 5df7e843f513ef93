/- zzBuildExpr: the tree that the code builds. -/
import Derived.Test.YtoeaockleddngaaE5
import Derived.Test.YtoeaockleddngaaW7
import Derived.Deep.RegionHeld3
import Derived.Deep.CutBlock
import Derived.Deep.DeepCutAuto
namespace Go.Proofs.Ytoeaockleddngaa
open Go Go.RowKit
set_option maxRecDepth 100000
set_option linter.unusedVariables false
set_option linter.unusedSimpArgs false
namespace En
set_option maxHeartbeats 4000000 in
theorem build_any (n kc pb pc qb qc sn sc : Nat) (ka sa : Option Addr) (K : Nat → Nat) (par : Nat → Int) (slot : Nat → Nat) (S : Nat → Bool) (w : World) (hn : n ≤ 65536) (hpos : 0 < n) (hsn : sn ≤ 65536) (hK : ∀ j, K j ≤ 255)
    (hpar : Ex.Par K n par slot) (hk : Arr w ka n fun j => .int .u8 (K j)) (hp : w.rowIs pb 3 n fun j => .int .i64 (par j)) (hq : w.rowIs qb 3 n fun j => .int .i64 (slot j : Int)) (hs : Arr w sa sn fun j => .bool (S j)) :
    Calls Try.prog 33 #[.slice ka n kc, .slice (some ⟨pb, 0, none⟩) n pc, .slice (some ⟨qb, 0, none⟩) n qc, .slice sa sn sc] w fun e w' => ∃ V, e = .returned (.agg #[nodeV (K 0) (w.heap.size + 1 + 4 + 0), .int .i32 0]) ∧ Grow K par (fOf sn S) n (w.heap.size + 1) w' n V ∧ Below w.heap.size w w' := by
  have hne : ((n : Int) == 0) = false := by simp; omega
  have HK := Lib.hid hk
  have HK2 := Lib.hid hK
  have HP := Lib.hid hp
  have HQ := Lib.hid hq
  have HPAR := Lib.hid hpar
  have HS := Lib.hid hs
  clear hk hK hp hpar hs hq
  obtain ⟨i0, hi, hz0, hz1, hz2⟩ := info_parts info49
  have hmk := fun W => run_make (P := Try.prog) W 228 49 i0 _ Try.underlying228 hi hz0 .i64 .i64 n n (by omega) (by omega) (by rw [hz2]; omega) (by omega)
  rw [hz1] at hmk
  have hmk2 := run_make_row' (P := Try.prog) 229 232 (.pointer none) 8 Try.underlying229 info232 rfl .i64 .i64 n (by omega) (by omega)
  have hmk3 := run_make_row' (P := Try.prog) 230 235 (.pointer none) 8 Try.underlying230 info235 rfl .i64 .i64 n (by omega) (by omega)
  have hmk4 := run_make_row' (P := Try.prog) 231 239 (.pointer none) 8 Try.underlying231 info239 rfl .i64 .i64 n (by omega) (by omega)
  clear hi hz0 hz1 hz2
  go_enter Try.func33, Try.ntmps33
  go_upto_block 0 with fail
  clear hmk hmk2 hmk3 hmk4
  go_cut [] (fun wx => Laid K n (w.heap.size + 1) wx n ∧ Blk wx w.heap.size [.nilIface, .int .i32 0] 49 ∧ Below w.heap.size w wx)
  case first =>
    go_wp2
    go_loopw [14] (fun iv wr => ∃ k : Nat, k ≤ n ∧ iv = .int .i64 k ∧ Laid K n (w.heap.size + 1) wr k ∧ Blk wr w.heap.size [.nilIface, .int .i32 0] 49 ∧ Below w.heap.size w wr)
      (fun iv _ => n - (intOf iv).toNat)
    case atStart =>
      refine ⟨0, by omega, rfl, ?_, ?_, by go_grown⟩
      · have h := laid_start (w.alloc (.cells #[.nilIface, .int .i32 0] 49)) K n
        rw [show (w.alloc (.cells #[.nilIface, .int .i32 0] 49)).heap.size = w.heap.size + 1 by simp] at h
        exact h
      · exact ((((Blk.new w [.nilIface, .int .i32 0] 49).alloc _).alloc _).alloc _).alloc _
    case round =>
      obtain ⟨k, hkn, rfl, hlaid, hrb, hbel⟩ := hrel
      have HL := Lib.hid hlaid
      have HRB := Lib.hid hrb
      have HB := Lib.hid hbel
      clear hlaid hbel hrb
      by_cases hlt : k < n
      · obtain ⟨kb, ko, rfl, hkc⟩ := HK.out k hlt
        have hkb : kb < w.heap.size := World.block_lt_of_cell? w _ hkc
        have hkc' : wr.cell? ⟨kb, ko + k, none⟩ = some (.int .u8 (K k)) := (HB.out.cell (p := ⟨kb, ko + k, none⟩) hkb).trans hkc
        have hkr := HK2.out k
        have c1 := HL.out.es.cell (i := k * 2) (by omega)
        have f1 := HL.out.es.frozen (k * 2)
        have c2 := HL.out.es.cell (i := k * 2 + 1) (by omega)
        have f2 := HL.out.es.frozen (k * 2 + 1)
        have c3 := HL.out.qa.cell hlt
        have f3 := HL.out.qa.frozen k
        have c4 := HL.out.qo.cell hlt
        have f4 := HL.out.qo.frozen k
        have c5 := HL.out.qb.cell hlt
        have f5 := HL.out.qb.frozen k
        have l1 := HL.out.es.lt
        have l2 := HL.out.qa.lt
        have l3 := HL.out.qo.lt
        have l4 := HL.out.qb.lt
        unfold esV at c1 c2
        unfold aV at c3
        unfold oV at c4
        unfold bV at c5
        simp at c1 c2 c3 c4 c5
        clear hkc
        have hge : w.heap.size ≤ wr.heap.size := by omega
        have hcase : K k % 5 = 1 ∨ K k % 5 = 2 ∨ K k % 5 = 3 ∨ K k % 5 = 4 ∨ K k % 5 = 0 := by omega
        rcases hcase with hm | hm | hm | hm | hm
        · have t1 : ((K k : Int) % 5 == 1) = true := by simp; omega
          have HL2 := Lib.hid (laid1 HL.out hm)
          clear hm
          go_wp2
          go_roundw
          case rel => have hbel := HB.out; exact ⟨k + 1, by omega, by go_num, HL2.out, (((HRB.out.setOther (by first | (simp; done) | (simp; omega)) _).setOther (by first | (simp; done) | (simp; omega)) _).setOther (by first | (simp; done) | (simp; omega)) _).alloc _, by go_grown⟩
          case measure => simp [intOf]; omega
        · have t1 : ((K k : Int) % 5 == 1) = false := by simp; omega
          have t2 : ((K k : Int) % 5 == 2) = true := by simp; omega
          have HL2 := Lib.hid (laid2 HL.out hm)
          clear hm
          go_wp2
          go_roundw
          case rel => have hbel := HB.out; exact ⟨k + 1, by omega, by go_num, HL2.out, (((HRB.out.setOther (by first | (simp; done) | (simp; omega)) _).setOther (by first | (simp; done) | (simp; omega)) _).setOther (by first | (simp; done) | (simp; omega)) _).alloc _, by go_grown⟩
          case measure => simp [intOf]; omega
        · have t1 : ((K k : Int) % 5 == 1) = false := by simp; omega
          have t2 : ((K k : Int) % 5 == 2) = false := by simp; omega
          have t3 : ((K k : Int) % 5 == 3) = true := by simp; omega
          have HL2 := Lib.hid (laid3 HL.out (by omega) 37 (by unfold opOf; rw [if_pos hm]))
          clear hm
          go_wp2
          go_roundw
          case rel => have hbel := HB.out; exact ⟨k + 1, by omega, by go_num, HL2.out, (((HRB.out.setOther (by first | (simp; done) | (simp; omega)) _).setOther (by first | (simp; done) | (simp; omega)) _).setOther (by first | (simp; done) | (simp; omega)) _).alloc _, by go_grown⟩
          case measure => simp [intOf]; omega
        · have t1 : ((K k : Int) % 5 == 1) = false := by simp; omega
          have t2 : ((K k : Int) % 5 == 2) = false := by simp; omega
          have t3 : ((K k : Int) % 5 == 3) = false := by simp; omega
          have t4 : ((K k : Int) % 5 == 4) = true := by simp; omega
          have HL2 := Lib.hid (laid3 HL.out (by omega) 11 (by unfold opOf; rw [if_neg (by omega)]))
          clear hm
          go_wp2
          go_roundw
          case rel => have hbel := HB.out; exact ⟨k + 1, by omega, by go_num, HL2.out, (((HRB.out.setOther (by first | (simp; done) | (simp; omega)) _).setOther (by first | (simp; done) | (simp; omega)) _).setOther (by first | (simp; done) | (simp; omega)) _).alloc _, by go_grown⟩
          case measure => simp [intOf]; omega
        · have t1 : ((K k : Int) % 5 == 1) = false := by simp; omega
          have t2 : ((K k : Int) % 5 == 2) = false := by simp; omega
          have t3 : ((K k : Int) % 5 == 3) = false := by simp; omega
          have t4 : ((K k : Int) % 5 == 4) = false := by simp; omega
          have HL2 := Lib.hid (laid0 HL.out hm)
          clear hm
          go_wp2
          go_roundw
          case rel => have hbel := HB.out; exact ⟨k + 1, by omega, by go_num, HL2.out, ((HRB.out.setOther (by first | (simp; done) | (simp; omega)) _).setOther (by first | (simp; done) | (simp; omega)) _).alloc _, by go_grown⟩
          case measure => simp [intOf]; omega
      · have hkn' : k = n := by omega
        have HKN := Lib.hid hkn'
        clear hkn'
        go_wp2_with fail
        go_meet
        have := HKN.out
        subst this
        exact ⟨HL.out, HRB.out, HB.out⟩
  case rest =>
    obtain ⟨hlaid, hrb, hbel⟩ := hcut
    have HL := Lib.hid hlaid
    have HRB := Lib.hid hrb
    have HB := Lib.hid hbel
    clear hlaid hbel hrb
    go_wp2_with fail
    -- the second loop
    obtain ⟨wd, rfl⟩ : ∃ wd : World, wd = wc := ⟨_, rfl⟩
    have hp0 : par 0 < 0 := by
      rcases HPAR.out.node 0 hpos with ⟨_, h⟩ | ⟨h, _⟩ | ⟨q, h, _⟩ <;> omega
    have HST := Lib.hid ((grow_start (S := fOf sn S) (par := par) HL.out).skip hp0)
    clear hp0 HL
    have hbd : w.heap.size + 1 ≤ wd.heap.size := by have := HST.out.size; omega
    go_loopw [19] (fun iv wx => ∃ (j : Nat) (V : Nat → Value), 0 < j ∧ j ≤ n ∧ iv = .int .i64 j ∧ Grow K par (fOf sn S) n (w.heap.size + 1) wx j V ∧ Below (w.heap.size + 1) wd wx)
      (fun iv _ => n - (intOf iv).toNat)
    case atStart =>
      exact ⟨1, _, by omega, by omega, rfl, HST.out, Below.refl _ _⟩
    case round =>
      obtain ⟨wx, rfl⟩ : ∃ wx : World, wx = wr := ⟨_, rfl⟩
      obtain ⟨j, V, hj0, hjn, rfl, hgrow, hbel⟩ := hrel
      have HG := Lib.hid hgrow
      have HB2 := Lib.hid hbel
      have HBW : Hid (Below w.heap.size w wx) := Lib.hid (HB.out.trans ⟨hbel.os, hbel.tape, hbel.output, hbel.size, fun b hb => hbel.block b (by omega)⟩)
      clear hgrow hbel
      by_cases hj : j < n
      · have hpc : wx.cell? ⟨pb, j, none⟩ = some (.int .i64 (par j)) := (HBW.out.cell (p := ⟨pb, j, none⟩) HP.out.lt).trans (HP.out.cell hj)
        have hpl : pb < w.heap.size := HP.out.lt
        have hqc : wx.cell? ⟨qb, j, none⟩ = some (.int .i64 (slot j : Int)) := (HBW.out.cell (p := ⟨qb, j, none⟩) HQ.out.lt).trans (HQ.out.cell hj)
        have hql : qb < w.heap.size := HQ.out.lt
        go_upto_block 4 with fail
        go_cut [] (fun wz => ∃ V', Grow K par (fOf sn S) n (w.heap.size + 1) wz (j + 1) V' ∧ Below (w.heap.size + 1) wd wz)
        case first =>
          have hdo : par j < 0 ∨ ∃ p : Nat, p < j ∧ par j = p ∧ K p % 5 ≠ 0 := by
            rcases HPAR.out.node j hj with ⟨h, _⟩ | ⟨_, h⟩ | ⟨p, h1, h2, h3, _⟩
            · omega
            · left; omega
            · exact .inr ⟨p, h1, h2, h3⟩
          rcases hdo with hneg | ⟨p, hp1, hp2, hp3⟩
          · have HS' := Lib.hid (HG.out.skip hneg)
            go_wp2_with fail
            go_meet
            exact ⟨V, HS'.out, HB2.out⟩
          · rw [hp2] at hpc
            have hpn : p < n := by omega
            obtain ⟨kb, ko, rfl, hkc⟩ := HK.out p hpn
            have hkb : kb < w.heap.size := World.block_lt_of_cell? w _ hkc
            have hkc' : wx.cell? ⟨kb, ko + p, none⟩ = some (.int .u8 (K p)) := (HBW.out.cell (p := ⟨kb, ko + p, none⟩) hkb).trans hkc
            have hkr := HK2.out p
            have c3 := HG.out.es.cell (i := j * 2) (by omega)
            have c4 := HG.out.es.cell (i := j * 2 + 1) (by omega)
            unfold esV at c3 c4
            rw [if_neg (by omega), if_pos (by omega), show j * 2 / 2 = j by omega] at c3
            rw [if_pos (by omega)] at c4
            obtain ⟨ty, nv, hnv⟩ := nodeV_form (K j) (w.heap.size + 1 + 4 + j)
            rw [hnv] at c3
            have HNV := Lib.hid hnv
            have HBS : Hid (∀ W : World, Below wx.heap.size wx W → Arr W sa sn fun j => .bool (S j)) := Lib.hid fun W hW => (HS.out.below HBW.out (Nat.le_refl _)).below hW (Nat.le_refl _)
            clear hkc hnv
            have h12 : K p % 5 = 1 ∨ K p % 5 = 2 ∨ 3 ≤ K p % 5 := by omega
            rcases h12 with h1 | h1 | h1
            · have t1 : ((K p : Int) % 5 == 1) = true := by simp; omega
              have HIT : Hid (itemE K (w.heap.size + 1) j = [.iface ty nv, .int .i32 0]) := by unfold itemE; rw [HNV.out]; exact Lib.hid rfl
              have RD := HG.out.reads hpn hj (w.heap.size + 1 + 1) (.inl ⟨rfl, h1⟩)
              obtain ⟨i1, hi, hz0, hz1, hz2⟩ := info_parts info49
              obtain ⟨vp, m, xs, HVP, HM, HX⟩ : ∃ vp m xs, Hid (vp = V p) ∧ Hid (m = (ch par j p).length) ∧ Hid (xs = (ch par j p).flatMap (itemE K (w.heap.size + 1))) := ⟨_, _, _, Lib.hid rfl, Lib.hid rfl, Lib.hid rfl⟩
              have c1 : wx.cell? ⟨w.heap.size + 1 + 4 + p, 0, none⟩ = some vp := by rw [HVP.out]; exact RD.c1
              have f1 := RD.f1
              have c2 := RD.c2
              have HO : Hid (wx.ownsRow (w.heap.size + 1 + 4 + n) 49 2 vp m xs) := by rw [HVP.out, HM.out, HX.out]; exact Lib.hid (HG.out.a p hpn h1)
              have hm : m ≤ j := by rw [HM.out]; exact ch_len par j p
              have hsz := HG.out.size
              have b1 : w.heap.size + 1 + 4 + p < wx.heap.size := by omega
              have b2 : w.heap.size + 1 + 1 < wx.heap.size := by omega
              have b3 : w.heap.size + 1 < wx.heap.size := by omega
              have N1 := Lib.hid (cells_new wx [.iface ty nv, .int .i32 0] 49)
              have N2 : Hid (∀ u ∈ ([.iface ty nv, .int .i32 0] : List Value), u.oneCell' = true) := by
                refine Lib.hid fun u hu => ?_
                simp only [List.mem_cons, List.not_mem_nil, or_false] at hu
                rcases hu with rfl | rfl <;> rfl
              have N3 : m + 1 ≤ maxLen := by unfold maxLen; omega
              have N4 : (m + 1) * 24 ≤ 140737488355328 := by omega
              have N5 : w.heap.size + 1 + 4 + n ≤ (wx.alloc (.cells #[.iface ty nv, .int .i32 0] 49)).heap.size := by simp; omega
              have P5 : 0 < 2 := by decide
              have NB : Hid (∀ W w' : World, W.grownBy w' vp.ownBlock → W.heap = (wx.alloc (.cells #[.iface ty nv, .int .i32 0] 49)).heap → w'.cell? ⟨w.heap.size + 1 + 4 + p, 0, none⟩ = some vp ∧ w'.frozen? ⟨w.heap.size + 1 + 4 + p, 0, none⟩ = false ∧ w'.cell? ⟨w.heap.size + 1 + 1, p, none⟩ = some (.pointer (some ⟨w.heap.size + 1 + 4 + p, 0, none⟩)) ∧ w'.cell? ⟨w.heap.size + 1, j * 2, none⟩ = some (.iface ty nv) ∧ w'.cell? ⟨w.heap.size + 1, j * 2 + 1, none⟩ = some (.int .i32 0)) := by
                refine Lib.hid fun W w' hg hw => ?_
                rw [HVP.out] at hg
                have R := HG.out.reads_after hpn hj (w.heap.size + 1 + 1) (.inl ⟨rfl, h1⟩) hw hg
                have R3 := R.c3
                rw [HNV.out] at R3
                rw [HVP.out]
                exact ⟨R.c1, R.f1, R.c2, R3, R.c4⟩
              have FIN : Hid (∀ (W : World) v1 w1, W.grownBy w1 vp.ownBlock → W.heap = (wx.alloc (.cells #[.iface ty nv, .int .i32 0] 49)).heap → W.os = wx.os → W.tape = wx.tape → W.output = wx.output → w1.ownsRow (w.heap.size + 1 + 4 + n) 49 2 v1 (m + 1) (xs ++ [.iface ty nv, .int .i32 0]) → (∃ g, v1.ownBlock = some g ∧ (vp.ownBlock = some g ∨ W.heap.size ≤ g)) →
                  ∃ V', Grow K par (fOf sn S) n (w.heap.size + 1) (w1.setCell ⟨w.heap.size + 1 + 4 + p, 0, none⟩ v1) (j + 1) V' ∧ Below (w.heap.size + 1) wd (w1.setCell ⟨w.heap.size + 1 + 4 + p, 0, none⟩ v1)) := by
                have e1 := HVP.out
                have e3 := HM.out
                have e4 := HX.out
                subst e1 e3 e4
                have hit := HIT.out
                refine Lib.hid fun W v1 w1 hg2 r1 r2 r3 r4 hg1 hg3 => ?_
                rw [← hit] at hg1
                exact ⟨_, HG.out.step hpn hp2 (by omega) (o := .cells #[.iface ty nv, .int .i32 0] 49) r1 hg2 hg3 (fun hh => by first | exact hg1 | (exfalso; omega)) (fun hh => by first | exact hg1 | (exfalso; omega)), HG.out.below (Nat.le_refl _) HB2.out hpn (by omega) (o := .cells #[.iface ty nv, .int .i32 0] 49) r1 r2 r3 r4 hg2 _⟩
              clear RD h1 hp3 hp2
              have KEEPS : Hid (∀ (W : World) (o : Nat) (u : Value), W.cell? ⟨w.heap.size + 1 + 1, p, none⟩ = some (.pointer (some ⟨w.heap.size + 1 + 4 + p, 0, none⟩)) ∧ W.cell? ⟨w.heap.size + 1, j * 2, none⟩ = some (.iface ty nv) ∧ W.cell? ⟨w.heap.size + 1, j * 2 + 1, none⟩ = some (.int .i32 0) → (W.setCell ⟨w.heap.size + 1 + 4 + p, o, none⟩ u).cell? ⟨w.heap.size + 1 + 1, p, none⟩ = some (.pointer (some ⟨w.heap.size + 1 + 4 + p, 0, none⟩)) ∧ (W.setCell ⟨w.heap.size + 1 + 4 + p, o, none⟩ u).cell? ⟨w.heap.size + 1, j * 2, none⟩ = some (.iface ty nv) ∧ (W.setCell ⟨w.heap.size + 1 + 4 + p, o, none⟩ u).cell? ⟨w.heap.size + 1, j * 2 + 1, none⟩ = some (.int .i32 0)) := Lib.hid fun W o u h => ⟨(cell_of_block (Below.heap_setCell W _ u _ (by simp; omega))).trans h.1, (cell_of_block (Below.heap_setCell W _ u _ (by simp; omega))).trans h.2.1, (cell_of_block (Below.heap_setCell W _ u _ (by simp; omega))).trans h.2.2⟩
              go_wp2_with fail
              refine wp_region_noPanic ?_
              refine wp_region_held_drew (S := (fun w' : World => w'.cell? ⟨w.heap.size + 1 + 1, p, none⟩ = some (.pointer (some ⟨w.heap.size + 1 + 4 + p, 0, none⟩)) ∧ w'.cell? ⟨w.heap.size + 1, j * 2, none⟩ = some (.iface ty nv) ∧ w'.cell? ⟨w.heap.size + 1, j * 2 + 1, none⟩ = some (.int .i32 0))) (by kernel_rfl) ?_ (fun hHeld => ?_)
              · (try dsimp only); (first | exact ⟨q3, q4, q5⟩ | exact ⟨c2, c3, c4⟩ | exact KEEPS.out _ _ _ ⟨q3, q4, q5⟩ | exact KEEPS.out _ _ _ (KEEPS.out _ _ _ ⟨c2, c3, c4⟩) | go_keep)
              refine wpAnyH_take (i := 0) (oi := ?_) (v := ?_) ?_ (by kernel_rfl) (by kernel_rfl) (by kernel_rfl) (fun _ _ _ h => h) ?_ (by assumption) ?_
              rotate_left 2
              · simp only [List.getElem?_toArray, List.getElem?_cons_succ, List.getElem?_cons_zero]; with_reducible rfl
              · refine Or.inl ⟨by rfl, ?_⟩; intro w hSw; (try dsimp only at hSw); go_simp; (try with_reducible rfl)
              (try simp only [Act.put, List.setIfInBounds_toArray, List.set_cons_zero, List.set_cons_succ])
              refine wpAnyH_take (i := 1) (oi := ?_) (v := ?_) ?_ (by kernel_rfl) (by kernel_rfl) (by kernel_rfl) (fun _ _ _ h => h) ?_ (by assumption) ?_
              rotate_left 2
              · simp only [List.getElem?_toArray, List.getElem?_cons_succ, List.getElem?_cons_zero]; with_reducible rfl
              · refine Or.inl ⟨by rfl, ?_⟩; intro w hSw; (try dsimp only at hSw); go_simp; (try with_reducible rfl)
              (try simp only [Act.put, List.setIfInBounds_toArray, List.set_cons_zero, List.set_cons_succ])
              refine wpAnyH_take (i := 2) (oi := ?_) (v := ?_) ?_ (by kernel_rfl) (by kernel_rfl) (by kernel_rfl) (fun _ _ _ h => h) ?_ (by assumption) ?_
              rotate_left 2
              · simp only [List.getElem?_toArray, List.getElem?_cons_succ, List.getElem?_cons_zero]; with_reducible rfl
              · refine Or.inl ⟨by rfl, ?_⟩; intro w hSw; (try dsimp only at hSw); go_simp; (try with_reducible rfl)
              (try simp only [Act.put, List.setIfInBounds_toArray, List.set_cons_zero, List.set_cons_succ])
              refine wpAnyH_take (i := 3) (oi := ?_) (v := ?_) ?_ (by kernel_rfl) (by kernel_rfl) (by kernel_rfl) (fun _ _ _ h => h) ?_ (by assumption) ?_
              rotate_left 2
              · simp only [List.getElem?_toArray, List.getElem?_cons_succ, List.getElem?_cons_zero]; with_reducible rfl
              · refine Or.inl ⟨by rfl, ?_⟩; intro w hSw; (try dsimp only at hSw); go_simp; (try with_reducible rfl)
              (try simp only [Act.put, List.setIfInBounds_toArray, List.set_cons_zero, List.set_cons_succ])
              refine wpAnyH_take (i := 4) (oi := ?_) (v := ?_) ?_ (by kernel_rfl) (by kernel_rfl) (by kernel_rfl) (fun _ _ _ h => h) ?_ (by assumption) ?_
              rotate_left 2
              · simp only [List.getElem?_toArray, List.getElem?_cons_succ, List.getElem?_cons_zero]; with_reducible rfl
              · refine Or.inl ⟨by rfl, ?_⟩; intro w hSw; (try dsimp only at hSw); go_simp; (try with_reducible rfl)
              (try simp only [Act.put, List.setIfInBounds_toArray, List.set_cons_zero, List.set_cons_succ])
              refine wpAnyH_take (i := 5) (oi := ?_) (v := ?_) ?_ (by kernel_rfl) (by kernel_rfl) (by kernel_rfl) (fun _ _ _ h => h) ?_ (by assumption) ?_
              rotate_left 2
              · simp only [List.getElem?_toArray, List.getElem?_cons_succ, List.getElem?_cons_zero]; with_reducible rfl
              · refine Or.inl ⟨by rfl, ?_⟩; intro w hSw; (try dsimp only at hSw); go_simp; (try with_reducible rfl)
              (try simp only [Act.put, List.setIfInBounds_toArray, List.set_cons_zero, List.set_cons_succ])
              refine wpAnyH_take (i := 6) (oi := ?_) (v := ?_) ?_ (by kernel_rfl) (by kernel_rfl) (by kernel_rfl) (fun _ _ _ h => h) ?_ (by assumption) ?_
              rotate_left 2
              · simp only [List.getElem?_toArray, List.getElem?_cons_succ, List.getElem?_cons_zero]; with_reducible rfl
              · refine Or.inl ⟨by rfl, ?_⟩; intro w hSw; (try dsimp only at hSw); go_simp; (try with_reducible rfl)
              (try simp only [Act.put, List.setIfInBounds_toArray, List.set_cons_zero, List.set_cons_succ])
              refine wpAnyH_take (i := 7) (oi := ?_) (v := ?_) ?_ (by kernel_rfl) (by kernel_rfl) (by kernel_rfl) (fun _ _ _ h => h) ?_ (by assumption) ?_
              rotate_left 2
              · simp only [List.getElem?_toArray, List.getElem?_cons_succ, List.getElem?_cons_zero]; with_reducible rfl
              · refine Or.inl ⟨by rfl, ?_⟩; intro w hSw; (try dsimp only at hSw); go_simp; (try with_reducible rfl)
              (try simp only [Act.put, List.setIfInBounds_toArray, List.set_cons_zero, List.set_cons_succ])
              refine wpAnyH_take (i := 8) (oi := ?_) (v := ?_) ?_ (by kernel_rfl) (by kernel_rfl) (by kernel_rfl) (fun _ _ _ h => h) ?_ (by assumption) ?_
              rotate_left 2
              · simp only [List.getElem?_toArray, List.getElem?_cons_succ, List.getElem?_cons_zero]; with_reducible rfl
              · refine Or.inl ⟨by rfl, ?_⟩; intro w hSw; (try dsimp only at hSw); go_simp; (try with_reducible rfl)
              (try simp only [Act.put, List.setIfInBounds_toArray, List.set_cons_zero, List.set_cons_succ])
              refine wpAnyH_take (i := 9) (oi := ?_) (v := ?_) ?_ (by kernel_rfl) (by kernel_rfl) (by kernel_rfl) (fun _ _ _ h => h) ?_ (by assumption) ?_
              rotate_left 2
              · simp only [List.getElem?_toArray, List.getElem?_cons_succ, List.getElem?_cons_zero]; with_reducible rfl
              · refine Or.inl ⟨by rfl, ?_⟩; intro w hSw; (try dsimp only at hSw); go_simp; (try with_reducible rfl)
              (try simp only [Act.put, List.setIfInBounds_toArray, List.set_cons_zero, List.set_cons_succ])
              refine wpAnyH_take (i := 11) (oi := ?_) (v := ?_) ?_ (by kernel_rfl) (by kernel_rfl) (by kernel_rfl) (fun _ _ _ h => h) ?_ (by assumption) ?_
              rotate_left 2
              · simp only [List.getElem?_toArray, List.getElem?_cons_succ, List.getElem?_cons_zero]; with_reducible rfl
              · refine Or.inl ⟨by rfl, ?_⟩; intro w hSw; (try dsimp only at hSw); go_simp; (try with_reducible rfl)
              (try simp only [Act.put, List.setIfInBounds_toArray, List.set_cons_zero, List.set_cons_succ])
              refine wpAnyH_take (i := 12) (oi := ?_) (v := ?_) ?_ (by kernel_rfl) (by kernel_rfl) (by kernel_rfl) (fun _ _ _ h => h) ?_ (by assumption) ?_
              rotate_left 2
              · simp only [List.getElem?_toArray, List.getElem?_cons_succ, List.getElem?_cons_zero]; with_reducible rfl
              · refine Or.inl ⟨by rfl, ?_⟩; intro w hSw; (try dsimp only at hSw); go_simp; (try with_reducible rfl)
              (try simp only [Act.put, List.setIfInBounds_toArray, List.set_cons_zero, List.set_cons_succ])
              refine wpAnyH_take (i := 13) (oi := ?_) (v := ?_) ?_ (by kernel_rfl) (by kernel_rfl) (by kernel_rfl) (fun _ _ _ h => h) ?_ (by assumption) ?_
              rotate_left 2
              · simp only [List.getElem?_toArray, List.getElem?_cons_succ, List.getElem?_cons_zero]; with_reducible rfl
              · refine Or.inl ⟨by rfl, ?_⟩; intro w hSw; (try dsimp only at hSw); go_simp; (try with_reducible rfl)
              (try simp only [Act.put, List.setIfInBounds_toArray, List.set_cons_zero, List.set_cons_succ])
              refine wpAnyH_take (i := 14) (oi := ?_) (v := ?_) ?_ (by kernel_rfl) (by kernel_rfl) (by kernel_rfl) (fun _ _ _ h => h) ?_ (by assumption) ?_
              rotate_left 2
              · simp only [List.getElem?_toArray, List.getElem?_cons_succ, List.getElem?_cons_zero]; with_reducible rfl
              · refine Or.inl ⟨by rfl, ?_⟩; intro w hSw; (try dsimp only at hSw); go_simp; (try with_reducible rfl)
              (try simp only [Act.put, List.setIfInBounds_toArray, List.set_cons_zero, List.set_cons_succ])
              refine wpAnyH_ready (rs := [10, 15]) (by kernel_rfl) (by simp) ?_
              refine AllReadyH.cons (o := ?_) ?_ (fun K hK => ?_) ?_
              rotate_left 1
              · simp only [List.getElem?_toArray, List.getElem?_cons_succ, List.getElem?_cons_zero]; with_reducible rfl
              · go_simp
                refine hK.out _ _ ?_ (fun hHeld => ?_)
                · (try dsimp only); (first | exact ⟨q3, q4, q5⟩ | exact ⟨c2, c3, c4⟩ | exact KEEPS.out _ _ _ ⟨q3, q4, q5⟩ | exact KEEPS.out _ _ _ (KEEPS.out _ _ _ ⟨c2, c3, c4⟩) | go_keep)
                clear hK K
                (try simp only [Act.put, List.setIfInBounds_toArray, List.set_cons_zero, List.set_cons_succ])
                refine wpAnyH_ready (rs := [15]) (by kernel_rfl) (by simp) ?_
                refine AllReadyH.cons (o := ?_) ?_ (fun K hK => ?_) ?_
                rotate_left 1
                · simp only [List.getElem?_toArray, List.getElem?_cons_succ, List.getElem?_cons_zero]; with_reducible rfl
                · go_simp
                  refine hK.out _ _ ?_ (fun hHeld => ?_)
                  · (try dsimp only); (first | exact ⟨q3, q4, q5⟩ | exact ⟨c2, c3, c4⟩ | exact KEEPS.out _ _ _ ⟨q3, q4, q5⟩ | exact KEEPS.out _ _ _ (KEEPS.out _ _ _ ⟨c2, c3, c4⟩) | go_keep)
                  clear hK K
                  (try simp only [Act.put, List.setIfInBounds_toArray, List.set_cons_zero, List.set_cons_succ])
                  refine wpAnyH_ready (rs := [16]) (by kernel_rfl) (by simp) ?_
                  refine AllReadyH.cons (o := ?_) ?_ (fun K hK => ?_) ?_
                  rotate_left 1
                  · simp only [List.getElem?_toArray, List.getElem?_cons_succ, List.getElem?_cons_zero]; with_reducible rfl
                  · (refine step_append_where rfl (.tmp 161) (.tmp 166) 228 rfl (w.heap.size + 1 + 4 + n) 49 i1 _ 2 24 Try.underlying228 hi hz0 hz1 hz2 rfl P5 vp m xs rfl (HO.out.alloc _) ⟨wx.heap.size, 0, none⟩ 1 1 [.iface ty nv, .int .i32 0] rfl rfl N1.out N2.out N3 N4 N5 one_pos ?_; intro v1 w1 g1 g2 g3; obtain ⟨q1, q2, q3, q4, q5⟩ := NB.out _ w1 g2 rfl; obtain ⟨gg, cc, rfl, gge⟩ := own_form g1 (Nat.succ_pos _); have G1 := FIN.out _ _ _ g2 rfl rfl rfl rfl g1 g3; have G1 := Lib.hid G1; clear g1 g2 g3)
                    refine hK.out _ _ ?_ (fun hHeld => ?_)
                    · (try dsimp only); (first | exact ⟨q3, q4, q5⟩ | exact ⟨c2, c3, c4⟩ | exact KEEPS.out _ _ _ ⟨q3, q4, q5⟩ | exact KEEPS.out _ _ _ (KEEPS.out _ _ _ ⟨c2, c3, c4⟩) | go_keep)
                    clear hK K
                    (try simp only [Act.put, List.setIfInBounds_toArray, List.set_cons_zero, List.set_cons_succ])
                    refine wpAnyH_take (i := 17) (oi := ?_) (v := ?_) ?_ (by kernel_rfl) (by kernel_rfl) (by kernel_rfl) (fun _ _ _ h => h) ?_ (by assumption) ?_
                    rotate_left 2
                    · simp only [List.getElem?_toArray, List.getElem?_cons_succ, List.getElem?_cons_zero]; with_reducible rfl
                    · refine Or.inl ⟨by rfl, ?_⟩; intro w hSw; (try dsimp only at hSw); go_simp; (try with_reducible rfl)
                    (try simp only [Act.put, List.setIfInBounds_toArray, List.set_cons_zero, List.set_cons_succ])
                    refine wpAnyH_take (i := 18) (oi := ?_) (v := ?_) ?_ (by kernel_rfl) (by kernel_rfl) (by kernel_rfl) (fun _ _ _ h => h) ?_ (by assumption) ?_
                    rotate_left 2
                    · simp only [List.getElem?_toArray, List.getElem?_cons_succ, List.getElem?_cons_zero]; with_reducible rfl
                    · refine Or.inl ⟨by rfl, ?_⟩; intro w hSw; (try dsimp only at hSw); go_simp; (try with_reducible rfl)
                    (try simp only [Act.put, List.setIfInBounds_toArray, List.set_cons_zero, List.set_cons_succ])
                    refine wpAnyH_ready (rs := [19]) (by kernel_rfl) (by simp) ?_
                    refine AllReadyH.cons (o := ?_) ?_ (fun K hK => ?_) ?_
                    rotate_left 1
                    · simp only [List.getElem?_toArray, List.getElem?_cons_succ, List.getElem?_cons_zero]; with_reducible rfl
                    · go_simp
                      refine hK.out _ _ ?_ (fun hHeld => ?_)
                      · (try dsimp only); (first | exact ⟨q3, q4, q5⟩ | exact ⟨c2, c3, c4⟩ | exact KEEPS.out _ _ _ ⟨q3, q4, q5⟩ | exact KEEPS.out _ _ _ (KEEPS.out _ _ _ ⟨c2, c3, c4⟩) | go_keep)
                      clear hK K
                      (try simp only [Act.put, List.setIfInBounds_toArray, List.set_cons_zero, List.set_cons_succ])
                      refine wpAnyH_done (by kernel_rfl) ?_ _
                      refine NoPanic.normal ?_
                      (go_wp2_with fail; go_meet; exact G1.out)
                    exact AllReadyH.nil
                  exact AllReadyH.nil
                exact AllReadyH.nil
              refine AllReadyH.cons (o := ?_) ?_ (fun K hK => ?_) ?_
              rotate_left 1
              · simp only [List.getElem?_toArray, List.getElem?_cons_succ, List.getElem?_cons_zero]; with_reducible rfl
              · go_simp
                refine hK.out _ _ ?_ (fun hHeld => ?_)
                · (try dsimp only); (first | exact ⟨q3, q4, q5⟩ | exact ⟨c2, c3, c4⟩ | exact KEEPS.out _ _ _ ⟨q3, q4, q5⟩ | exact KEEPS.out _ _ _ (KEEPS.out _ _ _ ⟨c2, c3, c4⟩) | go_keep)
                clear hK K
                (try simp only [Act.put, List.setIfInBounds_toArray, List.set_cons_zero, List.set_cons_succ])
                refine wpAnyH_ready (rs := [10]) (by kernel_rfl) (by simp) ?_
                refine AllReadyH.cons (o := ?_) ?_ (fun K hK => ?_) ?_
                rotate_left 1
                · simp only [List.getElem?_toArray, List.getElem?_cons_succ, List.getElem?_cons_zero]; with_reducible rfl
                · go_simp
                  refine hK.out _ _ ?_ (fun hHeld => ?_)
                  · (try dsimp only); (first | exact ⟨q3, q4, q5⟩ | exact ⟨c2, c3, c4⟩ | exact KEEPS.out _ _ _ ⟨q3, q4, q5⟩ | exact KEEPS.out _ _ _ (KEEPS.out _ _ _ ⟨c2, c3, c4⟩) | go_keep)
                  clear hK K
                  (try simp only [Act.put, List.setIfInBounds_toArray, List.set_cons_zero, List.set_cons_succ])
                  refine wpAnyH_ready (rs := [16]) (by kernel_rfl) (by simp) ?_
                  refine AllReadyH.cons (o := ?_) ?_ (fun K hK => ?_) ?_
                  rotate_left 1
                  · simp only [List.getElem?_toArray, List.getElem?_cons_succ, List.getElem?_cons_zero]; with_reducible rfl
                  · (refine step_append_where rfl (.tmp 161) (.tmp 166) 228 rfl (w.heap.size + 1 + 4 + n) 49 i1 _ 2 24 Try.underlying228 hi hz0 hz1 hz2 rfl P5 vp m xs rfl (HO.out.alloc _) ⟨wx.heap.size, 0, none⟩ 1 1 [.iface ty nv, .int .i32 0] rfl rfl N1.out N2.out N3 N4 N5 one_pos ?_; intro v1 w1 g1 g2 g3; obtain ⟨q1, q2, q3, q4, q5⟩ := NB.out _ w1 g2 rfl; obtain ⟨gg, cc, rfl, gge⟩ := own_form g1 (Nat.succ_pos _); have G1 := FIN.out _ _ _ g2 rfl rfl rfl rfl g1 g3; have G1 := Lib.hid G1; clear g1 g2 g3)
                    refine hK.out _ _ ?_ (fun hHeld => ?_)
                    · (try dsimp only); (first | exact ⟨q3, q4, q5⟩ | exact ⟨c2, c3, c4⟩ | exact KEEPS.out _ _ _ ⟨q3, q4, q5⟩ | exact KEEPS.out _ _ _ (KEEPS.out _ _ _ ⟨c2, c3, c4⟩) | go_keep)
                    clear hK K
                    (try simp only [Act.put, List.setIfInBounds_toArray, List.set_cons_zero, List.set_cons_succ])
                    refine wpAnyH_take (i := 17) (oi := ?_) (v := ?_) ?_ (by kernel_rfl) (by kernel_rfl) (by kernel_rfl) (fun _ _ _ h => h) ?_ (by assumption) ?_
                    rotate_left 2
                    · simp only [List.getElem?_toArray, List.getElem?_cons_succ, List.getElem?_cons_zero]; with_reducible rfl
                    · refine Or.inl ⟨by rfl, ?_⟩; intro w hSw; (try dsimp only at hSw); go_simp; (try with_reducible rfl)
                    (try simp only [Act.put, List.setIfInBounds_toArray, List.set_cons_zero, List.set_cons_succ])
                    refine wpAnyH_take (i := 18) (oi := ?_) (v := ?_) ?_ (by kernel_rfl) (by kernel_rfl) (by kernel_rfl) (fun _ _ _ h => h) ?_ (by assumption) ?_
                    rotate_left 2
                    · simp only [List.getElem?_toArray, List.getElem?_cons_succ, List.getElem?_cons_zero]; with_reducible rfl
                    · refine Or.inl ⟨by rfl, ?_⟩; intro w hSw; (try dsimp only at hSw); go_simp; (try with_reducible rfl)
                    (try simp only [Act.put, List.setIfInBounds_toArray, List.set_cons_zero, List.set_cons_succ])
                    refine wpAnyH_ready (rs := [19]) (by kernel_rfl) (by simp) ?_
                    refine AllReadyH.cons (o := ?_) ?_ (fun K hK => ?_) ?_
                    rotate_left 1
                    · simp only [List.getElem?_toArray, List.getElem?_cons_succ, List.getElem?_cons_zero]; with_reducible rfl
                    · go_simp
                      refine hK.out _ _ ?_ (fun hHeld => ?_)
                      · (try dsimp only); (first | exact ⟨q3, q4, q5⟩ | exact ⟨c2, c3, c4⟩ | exact KEEPS.out _ _ _ ⟨q3, q4, q5⟩ | exact KEEPS.out _ _ _ (KEEPS.out _ _ _ ⟨c2, c3, c4⟩) | go_keep)
                      clear hK K
                      (try simp only [Act.put, List.setIfInBounds_toArray, List.set_cons_zero, List.set_cons_succ])
                      refine wpAnyH_done (by kernel_rfl) ?_ _
                      refine NoPanic.normal ?_
                      (go_wp2_with fail; go_meet; exact G1.out)
                    exact AllReadyH.nil
                  exact AllReadyH.nil
                exact AllReadyH.nil
              exact AllReadyH.nil
            · have t1 : ((K p : Int) % 5 == 1) = false := by simp; omega
              have t2 : ((K p : Int) % 5 == 2) = true := by simp; omega
              have HFL : Hid (∀ W : World, Below wx.heap.size wx W → Calls Try.prog 24 #[.slice sa sn sc, .int .i64 j] W fun e w' => e = .returned (.bool (fOf sn S j)) ∧ W = w') := Lib.hid fun W hW => flag_any sa sn sc S j W (by omega) (by omega) (HBS.out W hW)
              obtain ⟨x, HXX⟩ : ∃ x : Int, Hid (x = if fOf sn S j then 5 else 0) := ⟨_, Lib.hid rfl⟩
              go_upto_if 179 with (first | (go_at_call 24; refine Calls.mono (HFL.out _ ?_) ?_; exact (Below.refl _ _).alloc (Nat.le_refl _) _; rintro e w1 ⟨rfl, rfl⟩))
              go_cut [] (fun wy => wy.cell? ⟨wx.heap.size, 0, none⟩ = some (.pointer none) ∧ wy.cell? ⟨wx.heap.size, 1, none⟩ = some (.nilIface) ∧ wy.cell? ⟨wx.heap.size, 2, none⟩ = some (.int .i32 0) ∧ wy.cell? ⟨wx.heap.size, 3, none⟩ = some (.iface ty nv) ∧ wy.cell? ⟨wx.heap.size, 4, none⟩ = some (.int .i32 0) ∧ wy.cell? ⟨wx.heap.size, 5, none⟩ = some (.nilIface) ∧ wy.cell? ⟨wx.heap.size, 6, none⟩ = some (.int .i32 0) ∧ wy.cell? ⟨wx.heap.size, 7, none⟩ = some (.slice none 0 0) ∧ wy.cell? ⟨wx.heap.size, 8, none⟩ = some (.int .i32 0) ∧ wy.cell? ⟨wx.heap.size, 9, none⟩ = some (.int .i32 0) ∧ wy.cell? ⟨wx.heap.size, 10, none⟩ = some (.int .u8 x) ∧ wy.cell? ⟨wx.heap.size, 11, none⟩ = some (.int .u8 0) ∧ wx.heap.size < wy.heap.size ∧ Below wx.heap.size wx wy)
              case first =>
                have x1 := HXX.out
                cases hf : fOf sn S j with
                | false =>
                  rw [hf] at x1
                  simp only [Bool.false_eq_true, if_false] at x1
                  subst x1
                  go_wp2_with fail
                  go_meet
                  refine ⟨?_, ?_, ?_, ?_, ?_, ?_, ?_, ?_, ?_, ?_, ?_, ?_, ?_, ?_⟩
                  all_goals first | (go_cell; done) | (simp [World.cell?]; done) | go_grown
                | true =>
                  rw [hf] at x1
                  simp only [if_true] at x1
                  subst x1
                  go_wp2_with fail
                  go_meet
                  refine ⟨?_, ?_, ?_, ?_, ?_, ?_, ?_, ?_, ?_, ?_, ?_, ?_, ?_, ?_⟩
                  all_goals first | (go_cell; done) | (simp [World.cell?]; done) | go_grown
              case rest =>
                obtain ⟨wy, rfl⟩ : ∃ wy : World, wy = wc := ⟨_, rfl⟩
                obtain ⟨d0, d1, d2, d3, d4, d5, d6, d7, d8, d9, d10, d11, hly, hby⟩ := hcut
                have HGY := Lib.hid (HG.out.later hby)
                have HBY : Hid (Below (w.heap.size + 1) wd wy) := Lib.hid (HB2.out.trans (hby.mono (by have := HBW.out.size; have := HG.out.size; omega)))
                have c3 := (hby.cell (p := ⟨w.heap.size + 1, j * 2, none⟩) (by have := HG.out.size; simp; omega)).trans c3
                have c4 := (hby.cell (p := ⟨w.heap.size + 1, j * 2 + 1, none⟩) (by have := HG.out.size; simp; omega)).trans c4
                have HIT : Hid (itemP K (fOf sn S) (w.heap.size + 1) j = [.pointer none, .nilIface, .int .i32 0, .iface ty nv, .int .i32 0, .nilIface, .int .i32 0, .slice none 0 0, .int .i32 0, .int .i32 0, .int .u8 x, .int .u8 0]) := by unfold itemP; rw [HNV.out, HXX.out]; exact Lib.hid rfl
                clear hby hpc hqc hkc'
                have RD := HGY.out.reads hpn hj (w.heap.size + 1 + 1 + 1) (.inr ⟨rfl, h1⟩)
                obtain ⟨i1, hi, hz0, hz1, hz2⟩ := info_parts info248
                obtain ⟨vp, m, xs, HVP, HM, HX⟩ : ∃ vp m xs, Hid (vp = V p) ∧ Hid (m = (ch par j p).length) ∧ Hid (xs = (ch par j p).flatMap (itemP K (fOf sn S) (w.heap.size + 1))) := ⟨_, _, _, Lib.hid rfl, Lib.hid rfl, Lib.hid rfl⟩
                have c1 : wy.cell? ⟨w.heap.size + 1 + 4 + p, 0, none⟩ = some vp := by rw [HVP.out]; exact RD.c1
                have f1 := RD.f1
                have c2 := RD.c2
                have HO : Hid (wy.ownsRow (w.heap.size + 1 + 4 + n) 248 12 vp m xs) := by rw [HVP.out, HM.out, HX.out]; exact Lib.hid (HGY.out.o p hpn h1)
                have hm : m ≤ j := by rw [HM.out]; exact ch_len par j p
                have hsz := HGY.out.size
                have b1 : w.heap.size + 1 + 4 + p < wy.heap.size := by omega
                have b2 : w.heap.size + 1 + 1 + 1 < wy.heap.size := by omega
                have b3 : w.heap.size + 1 < wy.heap.size := by omega
                have N1 := Lib.hid (cells_new wy [.pointer none, .nilIface, .int .i32 0, .iface ty nv, .int .i32 0, .nilIface, .int .i32 0, .slice none 0 0, .int .i32 0, .int .i32 0, .int .u8 x, .int .u8 0] 248)
                have N2 : Hid (∀ u ∈ ([.pointer none, .nilIface, .int .i32 0, .iface ty nv, .int .i32 0, .nilIface, .int .i32 0, .slice none 0 0, .int .i32 0, .int .i32 0, .int .u8 x, .int .u8 0] : List Value), u.oneCell' = true) := by
                  refine Lib.hid fun u hu => ?_
                  simp only [List.mem_cons, List.not_mem_nil, or_false] at hu
                  rcases hu with rfl | rfl | rfl | rfl | rfl | rfl | rfl | rfl | rfl | rfl | rfl | rfl <;> rfl
                have N3 : m + 1 ≤ maxLen := by unfold maxLen; omega
                have N4 : (m + 1) * 120 ≤ 140737488355328 := by omega
                have N5 : w.heap.size + 1 + 4 + n ≤ (wy.alloc (.cells #[.pointer none, .nilIface, .int .i32 0, .iface ty nv, .int .i32 0, .nilIface, .int .i32 0, .slice none 0 0, .int .i32 0, .int .i32 0, .int .u8 x, .int .u8 0] 248)).heap.size := by simp; omega
                have P5 : 0 < 12 := by decide
                have NB : Hid (∀ W w' : World, W.grownBy w' vp.ownBlock → W.heap = (wy.alloc (.cells #[.pointer none, .nilIface, .int .i32 0, .iface ty nv, .int .i32 0, .nilIface, .int .i32 0, .slice none 0 0, .int .i32 0, .int .i32 0, .int .u8 x, .int .u8 0] 248)).heap → w'.cell? ⟨w.heap.size + 1 + 4 + p, 0, none⟩ = some vp ∧ w'.frozen? ⟨w.heap.size + 1 + 4 + p, 0, none⟩ = false ∧ w'.cell? ⟨w.heap.size + 1 + 1 + 1, p, none⟩ = some (.pointer (some ⟨w.heap.size + 1 + 4 + p, 0, none⟩)) ∧ w'.cell? ⟨w.heap.size + 1, j * 2, none⟩ = some (.iface ty nv) ∧ w'.cell? ⟨w.heap.size + 1, j * 2 + 1, none⟩ = some (.int .i32 0)) := by
                  refine Lib.hid fun W w' hg hw => ?_
                  rw [HVP.out] at hg
                  have R := HGY.out.reads_after hpn hj (w.heap.size + 1 + 1 + 1) (.inr ⟨rfl, h1⟩) hw hg
                  have R3 := R.c3
                  rw [HNV.out] at R3
                  rw [HVP.out]
                  exact ⟨R.c1, R.f1, R.c2, R3, R.c4⟩
                have FIN : Hid (∀ (W : World) v1 w1, W.grownBy w1 vp.ownBlock → W.heap = (wy.alloc (.cells #[.pointer none, .nilIface, .int .i32 0, .iface ty nv, .int .i32 0, .nilIface, .int .i32 0, .slice none 0 0, .int .i32 0, .int .i32 0, .int .u8 x, .int .u8 0] 248)).heap → W.os = wy.os → W.tape = wy.tape → W.output = wy.output → w1.ownsRow (w.heap.size + 1 + 4 + n) 248 12 v1 (m + 1) (xs ++ [.pointer none, .nilIface, .int .i32 0, .iface ty nv, .int .i32 0, .nilIface, .int .i32 0, .slice none 0 0, .int .i32 0, .int .i32 0, .int .u8 x, .int .u8 0]) → (∃ g, v1.ownBlock = some g ∧ (vp.ownBlock = some g ∨ W.heap.size ≤ g)) →
                    ∃ V', Grow K par (fOf sn S) n (w.heap.size + 1) (w1.setCell ⟨w.heap.size + 1 + 4 + p, 0, none⟩ v1) (j + 1) V' ∧ Below (w.heap.size + 1) wd (w1.setCell ⟨w.heap.size + 1 + 4 + p, 0, none⟩ v1)) := by
                  have e1 := HVP.out
                  have e3 := HM.out
                  have e4 := HX.out
                  subst e1 e3 e4
                  have hit := HIT.out
                  refine Lib.hid fun W v1 w1 hg2 r1 r2 r3 r4 hg1 hg3 => ?_
                  rw [← hit] at hg1
                  exact ⟨_, HGY.out.step hpn hp2 (by omega) (o := .cells #[.pointer none, .nilIface, .int .i32 0, .iface ty nv, .int .i32 0, .nilIface, .int .i32 0, .slice none 0 0, .int .i32 0, .int .i32 0, .int .u8 x, .int .u8 0] 248) r1 hg2 hg3 (fun hh => by first | exact hg1 | (exfalso; omega)) (fun hh => by first | exact hg1 | (exfalso; omega)), HGY.out.below (Nat.le_refl _) HBY.out hpn (by omega) (o := .cells #[.pointer none, .nilIface, .int .i32 0, .iface ty nv, .int .i32 0, .nilIface, .int .i32 0, .slice none 0 0, .int .i32 0, .int .i32 0, .int .u8 x, .int .u8 0] 248) r1 r2 r3 r4 hg2 _⟩
                clear RD h1 hp3 hp2
                have KEEPS : Hid (∀ (W : World) (o : Nat) (u : Value), W.cell? ⟨w.heap.size + 1 + 1 + 1, p, none⟩ = some (.pointer (some ⟨w.heap.size + 1 + 4 + p, 0, none⟩)) ∧ W.cell? ⟨w.heap.size + 1, j * 2, none⟩ = some (.iface ty nv) ∧ W.cell? ⟨w.heap.size + 1, j * 2 + 1, none⟩ = some (.int .i32 0) → (W.setCell ⟨w.heap.size + 1 + 4 + p, o, none⟩ u).cell? ⟨w.heap.size + 1 + 1 + 1, p, none⟩ = some (.pointer (some ⟨w.heap.size + 1 + 4 + p, 0, none⟩)) ∧ (W.setCell ⟨w.heap.size + 1 + 4 + p, o, none⟩ u).cell? ⟨w.heap.size + 1, j * 2, none⟩ = some (.iface ty nv) ∧ (W.setCell ⟨w.heap.size + 1 + 4 + p, o, none⟩ u).cell? ⟨w.heap.size + 1, j * 2 + 1, none⟩ = some (.int .i32 0)) := Lib.hid fun W o u h => ⟨(cell_of_block (Below.heap_setCell W _ u _ (by simp; omega))).trans h.1, (cell_of_block (Below.heap_setCell W _ u _ (by simp; omega))).trans h.2.1, (cell_of_block (Below.heap_setCell W _ u _ (by simp; omega))).trans h.2.2⟩
                go_wp2_with fail
                refine wp_region_noPanic ?_
                refine wp_region_held_drew (S := (fun w' : World => w'.cell? ⟨w.heap.size + 1 + 1 + 1, p, none⟩ = some (.pointer (some ⟨w.heap.size + 1 + 4 + p, 0, none⟩)) ∧ w'.cell? ⟨w.heap.size + 1, j * 2, none⟩ = some (.iface ty nv) ∧ w'.cell? ⟨w.heap.size + 1, j * 2 + 1, none⟩ = some (.int .i32 0))) (by kernel_rfl) ?_ (fun hHeld => ?_)
                · (try dsimp only); (first | exact ⟨q3, q4, q5⟩ | exact ⟨c2, c3, c4⟩ | exact KEEPS.out _ _ _ ⟨q3, q4, q5⟩ | exact KEEPS.out _ _ _ (KEEPS.out _ _ _ ⟨c2, c3, c4⟩) | go_keep)
                refine wpAnyH_take (i := 0) (oi := ?_) (v := ?_) ?_ (by kernel_rfl) (by kernel_rfl) (by kernel_rfl) (fun _ _ _ h => h) ?_ (by assumption) ?_
                rotate_left 2
                · simp only [List.getElem?_toArray, List.getElem?_cons_succ, List.getElem?_cons_zero]; with_reducible rfl
                · refine Or.inl ⟨by rfl, ?_⟩; intro w hSw; (try dsimp only at hSw); go_simp; (try with_reducible rfl)
                (try simp only [Act.put, List.setIfInBounds_toArray, List.set_cons_zero, List.set_cons_succ])
                refine wpAnyH_take (i := 1) (oi := ?_) (v := ?_) ?_ (by kernel_rfl) (by kernel_rfl) (by kernel_rfl) (fun _ _ _ h => h) ?_ (by assumption) ?_
                rotate_left 2
                · simp only [List.getElem?_toArray, List.getElem?_cons_succ, List.getElem?_cons_zero]; with_reducible rfl
                · refine Or.inl ⟨by rfl, ?_⟩; intro w hSw; (try dsimp only at hSw); go_simp; (try with_reducible rfl)
                (try simp only [Act.put, List.setIfInBounds_toArray, List.set_cons_zero, List.set_cons_succ])
                refine wpAnyH_take (i := 2) (oi := ?_) (v := ?_) ?_ (by kernel_rfl) (by kernel_rfl) (by kernel_rfl) (fun _ _ _ h => h) ?_ (by assumption) ?_
                rotate_left 2
                · simp only [List.getElem?_toArray, List.getElem?_cons_succ, List.getElem?_cons_zero]; with_reducible rfl
                · refine Or.inl ⟨by rfl, ?_⟩; intro w hSw; (try dsimp only at hSw); go_simp; (try with_reducible rfl)
                (try simp only [Act.put, List.setIfInBounds_toArray, List.set_cons_zero, List.set_cons_succ])
                refine wpAnyH_take (i := 3) (oi := ?_) (v := ?_) ?_ (by kernel_rfl) (by kernel_rfl) (by kernel_rfl) (fun _ _ _ h => h) ?_ (by assumption) ?_
                rotate_left 2
                · simp only [List.getElem?_toArray, List.getElem?_cons_succ, List.getElem?_cons_zero]; with_reducible rfl
                · refine Or.inl ⟨by rfl, ?_⟩; intro w hSw; (try dsimp only at hSw); go_simp; (try with_reducible rfl)
                (try simp only [Act.put, List.setIfInBounds_toArray, List.set_cons_zero, List.set_cons_succ])
                refine wpAnyH_take (i := 4) (oi := ?_) (v := ?_) ?_ (by kernel_rfl) (by kernel_rfl) (by kernel_rfl) (fun _ _ _ h => h) ?_ (by assumption) ?_
                rotate_left 2
                · simp only [List.getElem?_toArray, List.getElem?_cons_succ, List.getElem?_cons_zero]; with_reducible rfl
                · refine Or.inl ⟨by rfl, ?_⟩; intro w hSw; (try dsimp only at hSw); go_simp; (try with_reducible rfl)
                (try simp only [Act.put, List.setIfInBounds_toArray, List.set_cons_zero, List.set_cons_succ])
                refine wpAnyH_take (i := 5) (oi := ?_) (v := ?_) ?_ (by kernel_rfl) (by kernel_rfl) (by kernel_rfl) (fun _ _ _ h => h) ?_ (by assumption) ?_
                rotate_left 2
                · simp only [List.getElem?_toArray, List.getElem?_cons_succ, List.getElem?_cons_zero]; with_reducible rfl
                · refine Or.inl ⟨by rfl, ?_⟩; intro w hSw; (try dsimp only at hSw); go_simp; (try with_reducible rfl)
                (try simp only [Act.put, List.setIfInBounds_toArray, List.set_cons_zero, List.set_cons_succ])
                refine wpAnyH_take (i := 6) (oi := ?_) (v := ?_) ?_ (by kernel_rfl) (by kernel_rfl) (by kernel_rfl) (fun _ _ _ h => h) ?_ (by assumption) ?_
                rotate_left 2
                · simp only [List.getElem?_toArray, List.getElem?_cons_succ, List.getElem?_cons_zero]; with_reducible rfl
                · refine Or.inl ⟨by rfl, ?_⟩; intro w hSw; (try dsimp only at hSw); go_simp; (try with_reducible rfl)
                (try simp only [Act.put, List.setIfInBounds_toArray, List.set_cons_zero, List.set_cons_succ])
                refine wpAnyH_take (i := 7) (oi := ?_) (v := ?_) ?_ (by kernel_rfl) (by kernel_rfl) (by kernel_rfl) (fun _ _ _ h => h) ?_ (by assumption) ?_
                rotate_left 2
                · simp only [List.getElem?_toArray, List.getElem?_cons_succ, List.getElem?_cons_zero]; with_reducible rfl
                · refine Or.inl ⟨by rfl, ?_⟩; intro w hSw; (try dsimp only at hSw); go_simp; (try with_reducible rfl)
                (try simp only [Act.put, List.setIfInBounds_toArray, List.set_cons_zero, List.set_cons_succ])
                refine wpAnyH_take (i := 8) (oi := ?_) (v := ?_) ?_ (by kernel_rfl) (by kernel_rfl) (by kernel_rfl) (fun _ _ _ h => h) ?_ (by assumption) ?_
                rotate_left 2
                · simp only [List.getElem?_toArray, List.getElem?_cons_succ, List.getElem?_cons_zero]; with_reducible rfl
                · refine Or.inl ⟨by rfl, ?_⟩; intro w hSw; (try dsimp only at hSw); go_simp; (try with_reducible rfl)
                (try simp only [Act.put, List.setIfInBounds_toArray, List.set_cons_zero, List.set_cons_succ])
                refine wpAnyH_take (i := 9) (oi := ?_) (v := ?_) ?_ (by kernel_rfl) (by kernel_rfl) (by kernel_rfl) (fun _ _ _ h => h) ?_ (by assumption) ?_
                rotate_left 2
                · simp only [List.getElem?_toArray, List.getElem?_cons_succ, List.getElem?_cons_zero]; with_reducible rfl
                · refine Or.inl ⟨by rfl, ?_⟩; intro w hSw; (try dsimp only at hSw); go_simp; (try with_reducible rfl)
                (try simp only [Act.put, List.setIfInBounds_toArray, List.set_cons_zero, List.set_cons_succ])
                refine wpAnyH_ready (rs := [10, 11]) (by kernel_rfl) (by simp) ?_
                refine AllReadyH.cons (o := ?_) ?_ (fun K hK => ?_) ?_
                rotate_left 1
                · simp only [List.getElem?_toArray, List.getElem?_cons_succ, List.getElem?_cons_zero]; with_reducible rfl
                · go_simp
                  refine hK.out _ _ ?_ (fun hHeld => ?_)
                  · (try dsimp only); (first | exact ⟨q3, q4, q5⟩ | exact ⟨c2, c3, c4⟩ | exact KEEPS.out _ _ _ ⟨q3, q4, q5⟩ | exact KEEPS.out _ _ _ (KEEPS.out _ _ _ ⟨c2, c3, c4⟩) | go_keep)
                  clear hK K
                  (try simp only [Act.put, List.setIfInBounds_toArray, List.set_cons_zero, List.set_cons_succ])
                  refine wpAnyH_ready (rs := [11]) (by kernel_rfl) (by simp) ?_
                  refine AllReadyH.cons (o := ?_) ?_ (fun K hK => ?_) ?_
                  rotate_left 1
                  · simp only [List.getElem?_toArray, List.getElem?_cons_succ, List.getElem?_cons_zero]; with_reducible rfl
                  · go_simp
                    refine hK.out _ _ ?_ (fun hHeld => ?_)
                    · (try dsimp only); (first | exact ⟨q3, q4, q5⟩ | exact ⟨c2, c3, c4⟩ | exact KEEPS.out _ _ _ ⟨q3, q4, q5⟩ | exact KEEPS.out _ _ _ (KEEPS.out _ _ _ ⟨c2, c3, c4⟩) | go_keep)
                    clear hK K
                    (try simp only [Act.put, List.setIfInBounds_toArray, List.set_cons_zero, List.set_cons_succ])
                    refine wpAnyH_ready (rs := [12]) (by kernel_rfl) (by simp) ?_
                    refine AllReadyH.cons (o := ?_) ?_ (fun K hK => ?_) ?_
                    rotate_left 1
                    · simp only [List.getElem?_toArray, List.getElem?_cons_succ, List.getElem?_cons_zero]; with_reducible rfl
                    · go_simp
                      refine hK.out _ _ ?_ (fun hHeld => ?_)
                      · (try dsimp only); (first | exact ⟨q3, q4, q5⟩ | exact ⟨c2, c3, c4⟩ | exact KEEPS.out _ _ _ ⟨q3, q4, q5⟩ | exact KEEPS.out _ _ _ (KEEPS.out _ _ _ ⟨c2, c3, c4⟩) | go_keep)
                      clear hK K
                      (try simp only [Act.put, List.setIfInBounds_toArray, List.set_cons_zero, List.set_cons_succ])
                      refine wpAnyH_ready (rs := [13]) (by kernel_rfl) (by simp) ?_
                      refine AllReadyH.cons (o := ?_) ?_ (fun K hK => ?_) ?_
                      rotate_left 1
                      · simp only [List.getElem?_toArray, List.getElem?_cons_succ, List.getElem?_cons_zero]; with_reducible rfl
                      · (refine step_append_where rfl (.tmp 191) (.tmp 193) 236 rfl (w.heap.size + 1 + 4 + n) 248 i1 _ 12 120 Try.underlying236 hi hz0 hz1 hz2 rfl P5 vp m xs rfl (HO.out.alloc _) ⟨wy.heap.size, 0, none⟩ 1 1 [.pointer none, .nilIface, .int .i32 0, .iface ty nv, .int .i32 0, .nilIface, .int .i32 0, .slice none 0 0, .int .i32 0, .int .i32 0, .int .u8 x, .int .u8 0] rfl rfl N1.out N2.out N3 N4 N5 one_pos ?_; intro v1 w1 g1 g2 g3; obtain ⟨q1, q2, q3, q4, q5⟩ := NB.out _ w1 g2 rfl; obtain ⟨gg, cc, rfl, gge⟩ := own_form g1 (Nat.succ_pos _); have G1 := FIN.out _ _ _ g2 rfl rfl rfl rfl g1 g3; have G1 := Lib.hid G1; clear g1 g2 g3)
                        refine hK.out _ _ ?_ (fun hHeld => ?_)
                        · (try dsimp only); (first | exact ⟨q3, q4, q5⟩ | exact ⟨c2, c3, c4⟩ | exact KEEPS.out _ _ _ ⟨q3, q4, q5⟩ | exact KEEPS.out _ _ _ (KEEPS.out _ _ _ ⟨c2, c3, c4⟩) | go_keep)
                        clear hK K
                        (try simp only [Act.put, List.setIfInBounds_toArray, List.set_cons_zero, List.set_cons_succ])
                        refine wpAnyH_take (i := 14) (oi := ?_) (v := ?_) ?_ (by kernel_rfl) (by kernel_rfl) (by kernel_rfl) (fun _ _ _ h => h) ?_ (by assumption) ?_
                        rotate_left 2
                        · simp only [List.getElem?_toArray, List.getElem?_cons_succ, List.getElem?_cons_zero]; with_reducible rfl
                        · refine Or.inl ⟨by rfl, ?_⟩; intro w hSw; (try dsimp only at hSw); go_simp; (try with_reducible rfl)
                        (try simp only [Act.put, List.setIfInBounds_toArray, List.set_cons_zero, List.set_cons_succ])
                        refine wpAnyH_take (i := 15) (oi := ?_) (v := ?_) ?_ (by kernel_rfl) (by kernel_rfl) (by kernel_rfl) (fun _ _ _ h => h) ?_ (by assumption) ?_
                        rotate_left 2
                        · simp only [List.getElem?_toArray, List.getElem?_cons_succ, List.getElem?_cons_zero]; with_reducible rfl
                        · refine Or.inl ⟨by rfl, ?_⟩; intro w hSw; (try dsimp only at hSw); go_simp; (try with_reducible rfl)
                        (try simp only [Act.put, List.setIfInBounds_toArray, List.set_cons_zero, List.set_cons_succ])
                        refine wpAnyH_ready (rs := [16]) (by kernel_rfl) (by simp) ?_
                        refine AllReadyH.cons (o := ?_) ?_ (fun K hK => ?_) ?_
                        rotate_left 1
                        · simp only [List.getElem?_toArray, List.getElem?_cons_succ, List.getElem?_cons_zero]; with_reducible rfl
                        · go_simp
                          refine hK.out _ _ ?_ (fun hHeld => ?_)
                          · (try dsimp only); (first | exact ⟨q3, q4, q5⟩ | exact ⟨c2, c3, c4⟩ | exact KEEPS.out _ _ _ ⟨q3, q4, q5⟩ | exact KEEPS.out _ _ _ (KEEPS.out _ _ _ ⟨c2, c3, c4⟩) | go_keep)
                          clear hK K
                          (try simp only [Act.put, List.setIfInBounds_toArray, List.set_cons_zero, List.set_cons_succ])
                          refine wpAnyH_done (by kernel_rfl) ?_ _
                          refine NoPanic.normal ?_
                          (go_wp2_with fail; go_meet; exact G1.out)
                        exact AllReadyH.nil
                      exact AllReadyH.nil
                    exact AllReadyH.nil
                  exact AllReadyH.nil
                refine AllReadyH.cons (o := ?_) ?_ (fun K hK => ?_) ?_
                rotate_left 1
                · simp only [List.getElem?_toArray, List.getElem?_cons_succ, List.getElem?_cons_zero]; with_reducible rfl
                · go_simp
                  refine hK.out _ _ ?_ (fun hHeld => ?_)
                  · (try dsimp only); (first | exact ⟨q3, q4, q5⟩ | exact ⟨c2, c3, c4⟩ | exact KEEPS.out _ _ _ ⟨q3, q4, q5⟩ | exact KEEPS.out _ _ _ (KEEPS.out _ _ _ ⟨c2, c3, c4⟩) | go_keep)
                  clear hK K
                  (try simp only [Act.put, List.setIfInBounds_toArray, List.set_cons_zero, List.set_cons_succ])
                  refine wpAnyH_ready (rs := [10, 12]) (by kernel_rfl) (by simp) ?_
                  refine AllReadyH.cons (o := ?_) ?_ (fun K hK => ?_) ?_
                  rotate_left 1
                  · simp only [List.getElem?_toArray, List.getElem?_cons_succ, List.getElem?_cons_zero]; with_reducible rfl
                  · go_simp
                    refine hK.out _ _ ?_ (fun hHeld => ?_)
                    · (try dsimp only); (first | exact ⟨q3, q4, q5⟩ | exact ⟨c2, c3, c4⟩ | exact KEEPS.out _ _ _ ⟨q3, q4, q5⟩ | exact KEEPS.out _ _ _ (KEEPS.out _ _ _ ⟨c2, c3, c4⟩) | go_keep)
                    clear hK K
                    (try simp only [Act.put, List.setIfInBounds_toArray, List.set_cons_zero, List.set_cons_succ])
                    refine wpAnyH_ready (rs := [12]) (by kernel_rfl) (by simp) ?_
                    refine AllReadyH.cons (o := ?_) ?_ (fun K hK => ?_) ?_
                    rotate_left 1
                    · simp only [List.getElem?_toArray, List.getElem?_cons_succ, List.getElem?_cons_zero]; with_reducible rfl
                    · go_simp
                      refine hK.out _ _ ?_ (fun hHeld => ?_)
                      · (try dsimp only); (first | exact ⟨q3, q4, q5⟩ | exact ⟨c2, c3, c4⟩ | exact KEEPS.out _ _ _ ⟨q3, q4, q5⟩ | exact KEEPS.out _ _ _ (KEEPS.out _ _ _ ⟨c2, c3, c4⟩) | go_keep)
                      clear hK K
                      (try simp only [Act.put, List.setIfInBounds_toArray, List.set_cons_zero, List.set_cons_succ])
                      refine wpAnyH_ready (rs := [13]) (by kernel_rfl) (by simp) ?_
                      refine AllReadyH.cons (o := ?_) ?_ (fun K hK => ?_) ?_
                      rotate_left 1
                      · simp only [List.getElem?_toArray, List.getElem?_cons_succ, List.getElem?_cons_zero]; with_reducible rfl
                      · (refine step_append_where rfl (.tmp 191) (.tmp 193) 236 rfl (w.heap.size + 1 + 4 + n) 248 i1 _ 12 120 Try.underlying236 hi hz0 hz1 hz2 rfl P5 vp m xs rfl (HO.out.alloc _) ⟨wy.heap.size, 0, none⟩ 1 1 [.pointer none, .nilIface, .int .i32 0, .iface ty nv, .int .i32 0, .nilIface, .int .i32 0, .slice none 0 0, .int .i32 0, .int .i32 0, .int .u8 x, .int .u8 0] rfl rfl N1.out N2.out N3 N4 N5 one_pos ?_; intro v1 w1 g1 g2 g3; obtain ⟨q1, q2, q3, q4, q5⟩ := NB.out _ w1 g2 rfl; obtain ⟨gg, cc, rfl, gge⟩ := own_form g1 (Nat.succ_pos _); have G1 := FIN.out _ _ _ g2 rfl rfl rfl rfl g1 g3; have G1 := Lib.hid G1; clear g1 g2 g3)
                        refine hK.out _ _ ?_ (fun hHeld => ?_)
                        · (try dsimp only); (first | exact ⟨q3, q4, q5⟩ | exact ⟨c2, c3, c4⟩ | exact KEEPS.out _ _ _ ⟨q3, q4, q5⟩ | exact KEEPS.out _ _ _ (KEEPS.out _ _ _ ⟨c2, c3, c4⟩) | go_keep)
                        clear hK K
                        (try simp only [Act.put, List.setIfInBounds_toArray, List.set_cons_zero, List.set_cons_succ])
                        refine wpAnyH_take (i := 14) (oi := ?_) (v := ?_) ?_ (by kernel_rfl) (by kernel_rfl) (by kernel_rfl) (fun _ _ _ h => h) ?_ (by assumption) ?_
                        rotate_left 2
                        · simp only [List.getElem?_toArray, List.getElem?_cons_succ, List.getElem?_cons_zero]; with_reducible rfl
                        · refine Or.inl ⟨by rfl, ?_⟩; intro w hSw; (try dsimp only at hSw); go_simp; (try with_reducible rfl)
                        (try simp only [Act.put, List.setIfInBounds_toArray, List.set_cons_zero, List.set_cons_succ])
                        refine wpAnyH_take (i := 15) (oi := ?_) (v := ?_) ?_ (by kernel_rfl) (by kernel_rfl) (by kernel_rfl) (fun _ _ _ h => h) ?_ (by assumption) ?_
                        rotate_left 2
                        · simp only [List.getElem?_toArray, List.getElem?_cons_succ, List.getElem?_cons_zero]; with_reducible rfl
                        · refine Or.inl ⟨by rfl, ?_⟩; intro w hSw; (try dsimp only at hSw); go_simp; (try with_reducible rfl)
                        (try simp only [Act.put, List.setIfInBounds_toArray, List.set_cons_zero, List.set_cons_succ])
                        refine wpAnyH_ready (rs := [16]) (by kernel_rfl) (by simp) ?_
                        refine AllReadyH.cons (o := ?_) ?_ (fun K hK => ?_) ?_
                        rotate_left 1
                        · simp only [List.getElem?_toArray, List.getElem?_cons_succ, List.getElem?_cons_zero]; with_reducible rfl
                        · go_simp
                          refine hK.out _ _ ?_ (fun hHeld => ?_)
                          · (try dsimp only); (first | exact ⟨q3, q4, q5⟩ | exact ⟨c2, c3, c4⟩ | exact KEEPS.out _ _ _ ⟨q3, q4, q5⟩ | exact KEEPS.out _ _ _ (KEEPS.out _ _ _ ⟨c2, c3, c4⟩) | go_keep)
                          clear hK K
                          (try simp only [Act.put, List.setIfInBounds_toArray, List.set_cons_zero, List.set_cons_succ])
                          refine wpAnyH_done (by kernel_rfl) ?_ _
                          refine NoPanic.normal ?_
                          (go_wp2_with fail; go_meet; exact G1.out)
                        exact AllReadyH.nil
                      exact AllReadyH.nil
                    exact AllReadyH.nil
                  refine AllReadyH.cons (o := ?_) ?_ (fun K hK => ?_) ?_
                  rotate_left 1
                  · simp only [List.getElem?_toArray, List.getElem?_cons_succ, List.getElem?_cons_zero]; with_reducible rfl
                  · go_simp
                    refine hK.out _ _ ?_ (fun hHeld => ?_)
                    · (try dsimp only); (first | exact ⟨q3, q4, q5⟩ | exact ⟨c2, c3, c4⟩ | exact KEEPS.out _ _ _ ⟨q3, q4, q5⟩ | exact KEEPS.out _ _ _ (KEEPS.out _ _ _ ⟨c2, c3, c4⟩) | go_keep)
                    clear hK K
                    (try simp only [Act.put, List.setIfInBounds_toArray, List.set_cons_zero, List.set_cons_succ])
                    refine wpAnyH_ready (rs := [10]) (by kernel_rfl) (by simp) ?_
                    refine AllReadyH.cons (o := ?_) ?_ (fun K hK => ?_) ?_
                    rotate_left 1
                    · simp only [List.getElem?_toArray, List.getElem?_cons_succ, List.getElem?_cons_zero]; with_reducible rfl
                    · go_simp
                      refine hK.out _ _ ?_ (fun hHeld => ?_)
                      · (try dsimp only); (first | exact ⟨q3, q4, q5⟩ | exact ⟨c2, c3, c4⟩ | exact KEEPS.out _ _ _ ⟨q3, q4, q5⟩ | exact KEEPS.out _ _ _ (KEEPS.out _ _ _ ⟨c2, c3, c4⟩) | go_keep)
                      clear hK K
                      (try simp only [Act.put, List.setIfInBounds_toArray, List.set_cons_zero, List.set_cons_succ])
                      refine wpAnyH_ready (rs := [13]) (by kernel_rfl) (by simp) ?_
                      refine AllReadyH.cons (o := ?_) ?_ (fun K hK => ?_) ?_
                      rotate_left 1
                      · simp only [List.getElem?_toArray, List.getElem?_cons_succ, List.getElem?_cons_zero]; with_reducible rfl
                      · (refine step_append_where rfl (.tmp 191) (.tmp 193) 236 rfl (w.heap.size + 1 + 4 + n) 248 i1 _ 12 120 Try.underlying236 hi hz0 hz1 hz2 rfl P5 vp m xs rfl (HO.out.alloc _) ⟨wy.heap.size, 0, none⟩ 1 1 [.pointer none, .nilIface, .int .i32 0, .iface ty nv, .int .i32 0, .nilIface, .int .i32 0, .slice none 0 0, .int .i32 0, .int .i32 0, .int .u8 x, .int .u8 0] rfl rfl N1.out N2.out N3 N4 N5 one_pos ?_; intro v1 w1 g1 g2 g3; obtain ⟨q1, q2, q3, q4, q5⟩ := NB.out _ w1 g2 rfl; obtain ⟨gg, cc, rfl, gge⟩ := own_form g1 (Nat.succ_pos _); have G1 := FIN.out _ _ _ g2 rfl rfl rfl rfl g1 g3; have G1 := Lib.hid G1; clear g1 g2 g3)
                        refine hK.out _ _ ?_ (fun hHeld => ?_)
                        · (try dsimp only); (first | exact ⟨q3, q4, q5⟩ | exact ⟨c2, c3, c4⟩ | exact KEEPS.out _ _ _ ⟨q3, q4, q5⟩ | exact KEEPS.out _ _ _ (KEEPS.out _ _ _ ⟨c2, c3, c4⟩) | go_keep)
                        clear hK K
                        (try simp only [Act.put, List.setIfInBounds_toArray, List.set_cons_zero, List.set_cons_succ])
                        refine wpAnyH_take (i := 14) (oi := ?_) (v := ?_) ?_ (by kernel_rfl) (by kernel_rfl) (by kernel_rfl) (fun _ _ _ h => h) ?_ (by assumption) ?_
                        rotate_left 2
                        · simp only [List.getElem?_toArray, List.getElem?_cons_succ, List.getElem?_cons_zero]; with_reducible rfl
                        · refine Or.inl ⟨by rfl, ?_⟩; intro w hSw; (try dsimp only at hSw); go_simp; (try with_reducible rfl)
                        (try simp only [Act.put, List.setIfInBounds_toArray, List.set_cons_zero, List.set_cons_succ])
                        refine wpAnyH_take (i := 15) (oi := ?_) (v := ?_) ?_ (by kernel_rfl) (by kernel_rfl) (by kernel_rfl) (fun _ _ _ h => h) ?_ (by assumption) ?_
                        rotate_left 2
                        · simp only [List.getElem?_toArray, List.getElem?_cons_succ, List.getElem?_cons_zero]; with_reducible rfl
                        · refine Or.inl ⟨by rfl, ?_⟩; intro w hSw; (try dsimp only at hSw); go_simp; (try with_reducible rfl)
                        (try simp only [Act.put, List.setIfInBounds_toArray, List.set_cons_zero, List.set_cons_succ])
                        refine wpAnyH_ready (rs := [16]) (by kernel_rfl) (by simp) ?_
                        refine AllReadyH.cons (o := ?_) ?_ (fun K hK => ?_) ?_
                        rotate_left 1
                        · simp only [List.getElem?_toArray, List.getElem?_cons_succ, List.getElem?_cons_zero]; with_reducible rfl
                        · go_simp
                          refine hK.out _ _ ?_ (fun hHeld => ?_)
                          · (try dsimp only); (first | exact ⟨q3, q4, q5⟩ | exact ⟨c2, c3, c4⟩ | exact KEEPS.out _ _ _ ⟨q3, q4, q5⟩ | exact KEEPS.out _ _ _ (KEEPS.out _ _ _ ⟨c2, c3, c4⟩) | go_keep)
                          clear hK K
                          (try simp only [Act.put, List.setIfInBounds_toArray, List.set_cons_zero, List.set_cons_succ])
                          refine wpAnyH_done (by kernel_rfl) ?_ _
                          refine NoPanic.normal ?_
                          (go_wp2_with fail; go_meet; exact G1.out)
                        exact AllReadyH.nil
                      exact AllReadyH.nil
                    exact AllReadyH.nil
                  exact AllReadyH.nil
                exact AllReadyH.nil
            · have t1 : ((K p : Int) % 5 == 1) = false := by simp; omega
              have t2 : ((K p : Int) % 5 == 2) = false := by simp; omega
              have hsl : slot j = (ch par j p).length := HPAR.out.slot j p hj hp2
              have h2l : (ch par (j + 1) p).length ≤ 2 := HPAR.out.two p (j + 1) (by omega) h1
              rw [ch_succ, if_pos hp2, List.length_append] at h2l
              have hlen : (ch par j p).length = 0 ∨ (ch par j p).length = 1 := by simp at h2l; omega
              have c2 := HG.out.qb.cell hpn
              unfold bV at c2
              rw [if_pos ⟨hpn, h1⟩] at c2
              unfold ptr at c2
              have hsz := HG.out.size
              have b1 : w.heap.size + 1 + 4 + p < wx.heap.size := by omega
              have nb := HG.out.node p hpn
              rw [cells_b h1] at nb
              have g0 := nb.cell 0
              have g1 := nb.cell 1
              have g2 := nb.cell 2
              have g3 := nb.cell 3
              simp only [List.getElem?_cons_zero, List.getElem?_cons_succ] at g0 g1 g2 g3
              have e0 := nb.free 0
              have e1 := nb.free 1
              have e2 := nb.free 2
              have e3 := nb.free 3
              have HBIN := Lib.hid (fun t ht ht2 => HG.out.bin hpn hp2 h1 t ht ht2)
              have HBE : Hid (∀ (o o' : Nat) (u u' : Value), Below (w.heap.size + 1) wd ((wx.setCell ⟨w.heap.size + 1 + 4 + p, o, none⟩ u).setCell ⟨w.heap.size + 1 + 4 + p, o', none⟩ u')) := Lib.hid fun o o' u u' => (HB2.out.setCell (p := ⟨w.heap.size + 1 + 4 + p, o, none⟩) (by simp; omega) u).setCell (p := ⟨w.heap.size + 1 + 4 + p, o', none⟩) (by simp; omega) u'
              have KEEPS : Hid (∀ (W : World) (o : Nat) (u : Value), W.cell? ⟨w.heap.size + 1 + 1 + 1 + 1, p, none⟩ = some (.pointer (some ⟨w.heap.size + 1 + 4 + p, 0, none⟩)) ∧ W.cell? ⟨w.heap.size + 1, j * 2, none⟩ = some (.iface ty nv) ∧ W.cell? ⟨w.heap.size + 1, j * 2 + 1, none⟩ = some (.int .i32 0) → (W.setCell ⟨w.heap.size + 1 + 4 + p, o, none⟩ u).cell? ⟨w.heap.size + 1 + 1 + 1 + 1, p, none⟩ = some (.pointer (some ⟨w.heap.size + 1 + 4 + p, 0, none⟩)) ∧ (W.setCell ⟨w.heap.size + 1 + 4 + p, o, none⟩ u).cell? ⟨w.heap.size + 1, j * 2, none⟩ = some (.iface ty nv) ∧ (W.setCell ⟨w.heap.size + 1 + 4 + p, o, none⟩ u).cell? ⟨w.heap.size + 1, j * 2 + 1, none⟩ = some (.int .i32 0)) := Lib.hid fun W o u h => ⟨(cell_of_block (Below.heap_setCell W _ u _ (by simp; omega))).trans h.1, (cell_of_block (Below.heap_setCell W _ u _ (by simp; omega))).trans h.2.1, (cell_of_block (Below.heap_setCell W _ u _ (by simp; omega))).trans h.2.2⟩
              clear nb h2l
              rcases hlen with hl | hl
              · have s0 : ((slot j : Int) == 0) = true := by simp; omega
                have G1 : Hid (Grow K par (fOf sn S) n (w.heap.size + 1) ((wx.setCell ⟨w.heap.size + 1 + 4 + p, 0, none⟩ (.iface ty nv)).setCell ⟨w.heap.size + 1 + 4 + p, 1, none⟩ (.int .i32 0)) (j + 1) V) := by
                  have := HBIN.out 0 hl (.inl rfl)
                  rw [HNV.out] at this
                  exact Lib.hid this
                clear hl hsl h1 hp2 hp3
                go_wp2_with fail
                go_region_held3 (fun w' : World => w'.cell? ⟨w.heap.size + 1 + 1 + 1 + 1, p, none⟩ = some (.pointer (some ⟨w.heap.size + 1 + 4 + p, 0, none⟩)) ∧ w'.cell? ⟨w.heap.size + 1, j * 2, none⟩ = some (.iface ty nv) ∧ w'.cell? ⟨w.heap.size + 1, j * 2 + 1, none⟩ = some (.int .i32 0)) (first | exact ⟨q3, q4, q5⟩ | exact ⟨c2, c3, c4⟩ | exact KEEPS.out _ _ _ ⟨q3, q4, q5⟩ | exact KEEPS.out _ _ _ (KEEPS.out _ _ _ ⟨c2, c3, c4⟩) | go_keep) (fail)
                all_goals (go_wp2_with fail; go_meet; exact ⟨V, G1.out.heap rfl, (HBE.out 0 1 _ _).drew⟩)
              · have s0 : ((slot j : Int) == 0) = false := by simp; omega
                have G1 : Hid (Grow K par (fOf sn S) n (w.heap.size + 1) ((wx.setCell ⟨w.heap.size + 1 + 4 + p, 2, none⟩ (.iface ty nv)).setCell ⟨w.heap.size + 1 + 4 + p, 3, none⟩ (.int .i32 0)) (j + 1) V) := by
                  have := HBIN.out 1 hl (.inr rfl)
                  rw [HNV.out] at this
                  exact Lib.hid this
                clear hl hsl h1 hp2 hp3
                go_wp2_with fail
                go_region_held3 (fun w' : World => w'.cell? ⟨w.heap.size + 1 + 1 + 1 + 1, p, none⟩ = some (.pointer (some ⟨w.heap.size + 1 + 4 + p, 0, none⟩)) ∧ w'.cell? ⟨w.heap.size + 1, j * 2, none⟩ = some (.iface ty nv) ∧ w'.cell? ⟨w.heap.size + 1, j * 2 + 1, none⟩ = some (.int .i32 0)) (first | exact ⟨q3, q4, q5⟩ | exact ⟨c2, c3, c4⟩ | exact KEEPS.out _ _ _ ⟨q3, q4, q5⟩ | exact KEEPS.out _ _ _ (KEEPS.out _ _ _ ⟨c2, c3, c4⟩) | go_keep) (fail)
                all_goals (go_wp2_with fail; go_meet; exact ⟨V, G1.out.heap rfl, (HBE.out 2 3 _ _).drew⟩)
        case rest =>
          obtain ⟨V', hgg, hbb⟩ := hcut
          have HGG := Lib.hid hgg
          have HBB := Lib.hid hbb
          clear hgg hbb
          go_wp2_with fail
          go_roundw
          case rel => exact ⟨j + 1, V', by omega, by omega, by go_num, HGG.out, HBB.out⟩
          case measure => simp [intOf]; omega
      · have hjn' : j = n := by omega
        have HJN := Lib.hid hjn'
        clear hjn'
        have hrb := HRB.out.below HB2.out (Nat.lt_succ_self _)
        have r0 := hrb.cell 0
        have r1 := hrb.cell 1
        simp only [List.getElem?_cons_zero, List.getElem?_cons_succ] at r0 r1
        have x0 := hrb.free 0
        have x1 := hrb.free 1
        have c3 := HG.out.es.cell (i := 0) (by omega)
        have c4 := HG.out.es.cell (i := 1) (by omega)
        unfold esV at c3 c4
        rw [if_neg (by omega), if_pos (by omega), show 0 / 2 = 0 by omega] at c3
        rw [if_pos (by omega)] at c4
        obtain ⟨ty, nv, hnv⟩ := nodeV_form (K 0) (w.heap.size + 1 + 4 + 0)
        rw [hnv] at c3
        have HNV := Lib.hid hnv
        clear hrb hnv
        have hbl : w.heap.size < wx.heap.size := by have := HG.out.size; omega
        go_wp2_with fail
        have hn' := HJN.out
        subst hn'
        refine bodyPost_ret (v := .agg #[.iface ty nv, .int .i32 0]) ?_ rfl ⟨V, by rw [HNV.out], (HG.out.setLow (by simp) _).setLow (by simp) _, (HBW.out.setCell (p := ⟨w.heap.size, 0, none⟩) (Nat.le_refl _) _).setCell (p := ⟨w.heap.size, 1, none⟩) (Nat.le_refl _) _⟩
        simp [results, Try.results33, go_sem, r0, r1, x0, x1]
end En
end Go.Proofs.Ytoeaockleddngaa
