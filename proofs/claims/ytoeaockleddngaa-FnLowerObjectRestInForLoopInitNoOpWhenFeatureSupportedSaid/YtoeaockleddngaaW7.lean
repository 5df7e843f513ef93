/- zzBuildForest: the forest that the code builds out of the kinds, the parents and the spread flags. -/
import Derived.Test.YtoeaockleddngaaW6
import Derived.Deep.RegionHeld3
import Derived.Deep.RegionLaw
import Derived.Deep.CutBlock
import Derived.Deep.DeepCutAuto
namespace Go.Proofs.Ytoeaockleddngaa
open Go Go.RowKit
set_option maxRecDepth 100000
set_option linter.unusedVariables false
set_option linter.unusedSimpArgs false

theorem info105 : (Try.prog.info? 105).map (fun i => (i.zero, i.size, i.bytes)) = some (some (.agg #[.nilIface, .int .i32 0, .nilIface, .int .i32 0, .int .i32 0]), 5, 56) := by kernel_rfl
theorem info107 : (Try.prog.info? 107).map (fun i => (i.zero, i.size, i.bytes)) = some (some (.agg #[.nilIface, .int .i32 0, .nilIface, .int .i32 0, .nilIface, .int .i32 0, .int .i32 0, .int .i32 0, .bool false, .bool false, .bool false]), 11, 88) := by kernel_rfl
theorem five_pos : 0 < 5 := by decide
theorem eleven_pos : 0 < 11 := by decide

theorem Arr.same {w w' : World} {a : Option Addr} {n : Nat} {f : Nat → Value} (h : Arr w a n f) (e : w'.heap = w.heap) : Arr w' a n f := by
  intro j hj
  obtain ⟨b, off, h1, h2⟩ := h j hj
  exact ⟨b, off, h1, by unfold World.cell? at h2 ⊢; rw [e]; exact h2⟩
theorem one_A {nv : Value} (h : nv.oneCell' = true) : Hid (∀ u ∈ ([nv, .int .i32 0, .nilIface, .int .i32 0, .int .i32 0] : List Value), u.oneCell' = true) := by
  refine Lib.hid fun u hu => ?_
  simp only [List.mem_cons, List.not_mem_nil, or_false] at hu
  rcases hu with rfl | rfl | rfl | rfl | rfl
  · exact h
  all_goals rfl
theorem one_O {nv : Value} {b : Bool} (h : nv.oneCell' = true) : Hid (∀ u ∈ ([.nilIface, .int .i32 0, nv, .int .i32 0, .nilIface, .int .i32 0, .int .i32 0, .int .i32 0, .bool false, .bool b, .bool false] : List Value), u.oneCell' = true) := by
  refine Lib.hid fun u hu => ?_
  simp only [List.mem_cons, List.not_mem_nil, or_false] at hu
  rcases hu with rfl | rfl | rfl | rfl | rfl | rfl | rfl | rfl | rfl | rfl | rfl
  case inr.inr.inl => exact h
  all_goals rfl

set_option maxHeartbeats 2000000 in
theorem build_any (n kc pb pc sn sc : Nat) (ka sa : Option Addr) (K : Nat → Nat) (par : Nat → Int) (S : Nat → Bool) (w : World) (hn : n ≤ 65536) (hsn : sn ≤ 65536) (hK : ∀ j, K j ≤ 255)
    (hpar : Fo.Par K n par) (hk : Arr w ka n fun j => .int .u8 (K j)) (hp : w.rowIs pb 3 n fun j => .int .i64 (par j)) (hs : Arr w sa sn fun j => .bool (S j)) :
    Calls Try.prog 22 #[.slice ka n kc, .slice (some ⟨pb, 0, none⟩) n pc, .slice sa sn sc] w fun e w' => ∃ V, e = .returned (.slice (some ⟨w.heap.size, 0, none⟩) n n) ∧ Grow K par (fun j => decide (j < sn) && S j) n w.heap.size w' n V ∧ Below w.heap.size w w' := by
  have HK := Lib.hid hk
  have HK2 := Lib.hid hK
  have HP := Lib.hid hp
  have HQ := Lib.hid hpar
  have HS := Lib.hid hs
  clear hk hK hp hpar hs
  obtain ⟨i0, hi, hz0, hz1, hz2⟩ := info_parts info45
  have hmk := fun W => run_make (P := Try.prog) W 36 45 i0 _ Try.underlying36 hi hz0 .i64 .i64 n n (by omega) (by omega) (by rw [hz2]; omega) (by omega)
  rw [hz1] at hmk
  have hmk2 := run_make_row' (P := Try.prog) 91 93 (.pointer none) 8 Try.underlying91 info93 rfl .i64 .i64 n (by omega) (by omega)
  have hmk3 := run_make_row' (P := Try.prog) 92 97 (.pointer none) 8 Try.underlying92 info97 rfl .i64 .i64 n (by omega) (by omega)
  clear hi hz0 hz1 hz2
  go_enter Try.func22, Try.ntmps22
  go_upto_block 0 with fail
  clear hmk hmk2 hmk3
  go_cut [7] (fun v wx => v = .int .i64 (n : Int) ∧ Laid K n w.heap.size wx n ∧ Below w.heap.size w wx)
  case first =>
    go_wp2
    go_loopw [11] (fun iv wr => ∃ k : Nat, k ≤ n ∧ iv = .int .i64 k ∧ Laid K n w.heap.size wr k ∧ Below w.heap.size w wr)
      (fun iv _ => n - (intOf iv).toNat)
    case atStart =>
      exact ⟨0, by omega, rfl, laid_start w K n, by go_grown⟩
    case round =>
      obtain ⟨k, hkn, rfl, hlaid, hbel⟩ := hrel
      have HL := Lib.hid hlaid
      have HB := Lib.hid hbel
      clear hlaid hbel
      by_cases hlt : k < n
      · obtain ⟨kb, ko, rfl, hkc⟩ := HK.out k hlt
        have hkb : kb < w.heap.size := World.block_lt_of_cell? w _ hkc
        have hkc' : wr.cell? ⟨kb, ko + k, none⟩ = some (.int .u8 (K k)) := (HB.out.cell (p := ⟨kb, ko + k, none⟩) hkb).trans hkc
        have hkr := HK2.out k
        have c1 := HL.out.bs.cell (i := k * 2) (by omega)
        have f1 := HL.out.bs.frozen (k * 2)
        have c2 := HL.out.bs.cell (i := k * 2 + 1) (by omega)
        have f2 := HL.out.bs.frozen (k * 2 + 1)
        have c3 := HL.out.arrs.cell hlt
        have f3 := HL.out.arrs.frozen k
        have c4 := HL.out.objs.cell hlt
        have f4 := HL.out.objs.frozen k
        have l1 := HL.out.bs.lt
        have l2 := HL.out.arrs.lt
        have l3 := HL.out.objs.lt
        unfold bsV at c1 c2
        unfold arrV at c3
        unfold objV at c4
        simp at c1 c2 c3 c4
        clear hkc
        have hge : w.heap.size ≤ wr.heap.size := by omega
        by_cases h1 : K k % 3 = 1
        · have h1' : ((K k : Int) % 3 == 1) = true := by simp; omega
          have HL2 := Lib.hid (laid1 HL.out h1)
          have H1 := Lib.hid h1
          clear h1
          go_wp2
          go_roundw
          case rel => have hbel := HB.out; exact ⟨k + 1, by omega, by go_num, HL2.out, by go_grown⟩
          case measure => simp [intOf]; omega
        · have h1' : ((K k : Int) % 3 == 1) = false := by simp; omega
          by_cases h2 : K k % 3 = 2
          · have h2' : ((K k : Int) % 3 == 2) = true := by simp; omega
            have HL2 := Lib.hid (laid2 HL.out h2)
            clear h1 h2
            go_wp2
            go_roundw
            case rel => have hbel := HB.out; exact ⟨k + 1, by omega, by go_num, HL2.out, by go_grown⟩
            case measure => simp [intOf]; omega
          · have h2' : ((K k : Int) % 3 == 2) = false := by simp; omega
            have HL2 := Lib.hid (laid0 HL.out h1 h2)
            clear h1 h2
            go_wp2
            go_roundw
            case rel => have hbel := HB.out; exact ⟨k + 1, by omega, by go_num, HL2.out, by go_grown⟩
            case measure => simp [intOf]; omega
      · have hkn' : k = n := by omega
        have HKN := Lib.hid hkn'
        clear hkn'
        go_wp2_with fail
        go_meet
        have := HKN.out
        subst this
        exact ⟨rfl, HL.out, HB.out⟩
  case rest =>
    obtain ⟨rfl, hlaid, hbel⟩ := hcut
    have HL := Lib.hid hlaid
    have HB := Lib.hid hbel
    clear hlaid hbel
    go_wp2_with fail
    go_loopw [14] (fun iv wx => ∃ (j : Nat) (V : Nat → Value), j ≤ n ∧ iv = .int .i64 j ∧ Grow K par (fun j => decide (j < sn) && S j) n w.heap.size wx j V ∧ Below w.heap.size w wx)
      (fun iv _ => n - (intOf iv).toNat)
    case atStart =>
      exact ⟨0, _, by omega, rfl, grow_start HL.out, HB.out⟩
    case round =>
      obtain ⟨wx, rfl⟩ : ∃ wx : World, wx = wr := ⟨_, rfl⟩
      obtain ⟨j, V, hjn, rfl, hgrow, hbel⟩ := hrel
      have HG := Lib.hid hgrow
      have HB2 := Lib.hid hbel
      clear hgrow hbel HL HB
      by_cases hj : j < n
      · have hpc : wx.cell? ⟨pb, j, none⟩ = some (.int .i64 (par j)) := (HB2.out.cell (p := ⟨pb, j, none⟩) HP.out.lt).trans (HP.out.cell hj)
        have hpl : pb < w.heap.size := HP.out.lt
        go_upto_block 4 with fail
        go_cut [] (fun wz => ∃ V', Grow K par (fun j => decide (j < sn) && S j) n w.heap.size wz (j + 1) V' ∧ Below w.heap.size w wz)
        case first =>
          have hdo : par j < 0 ∨ ∃ p : Nat, p < j ∧ par j = p ∧ K p % 3 ≠ 0 := by
            rcases HQ.out j hj with h | h | ⟨p, h1, h2, h3, _⟩
            · left; omega
            · left; omega
            · exact .inr ⟨p, h1, h2, h3⟩
          rcases hdo with hneg | ⟨p, hp1, hp2, hp3⟩
          · have HS' := Lib.hid (HG.out.skip hneg)
            go_wp2_with fail
            go_meet
            exact ⟨V, HS'.out, HB2.out⟩
          · rw [hp2] at hpc
            have hpn : p < n := by omega
            obtain ⟨kb, ko, rfl, hkc⟩ := HK.out p hpn
            have hkb : kb < w.heap.size := World.block_lt_of_cell? w _ hkc
            have hkc' : wx.cell? ⟨kb, ko + p, none⟩ = some (.int .u8 (K p)) := (HB2.out.cell (p := ⟨kb, ko + p, none⟩) hkb).trans hkc
            have hkr := HK2.out p
            have hbs : ∀ W : World, W.heap = wx.heap → Arr W sa sn fun j => .bool (S j) := fun W hW => (HS.out.below HB2.out (Nat.le_refl _)).same hW
            have HBS := Lib.hid hbs
            clear hkc hbs
            have h12 : K p % 3 = 1 ∨ K p % 3 = 2 := by omega
            rcases h12 with h1 | h1
            · have h1' : ((K p : Int) % 3 == 1) = true := by simp; omega
              
              have RD := HG.out.reads hpn hj 1 (.inl ⟨rfl, h1⟩)
              obtain ⟨i1, hi, hz0, hz1, hz2⟩ := info_parts info105
              obtain ⟨vp, nv, m, xs, HVP, HNV, HM, HX⟩ : ∃ vp nv m xs, Hid (vp = V p) ∧ Hid (nv = nodeV (K j) (w.heap.size + 3 + j)) ∧ Hid (m = (ch par j p).length) ∧ Hid (xs = (ch par j p).flatMap (itemA K w.heap.size)) := ⟨_, _, _, _, Lib.hid rfl, Lib.hid rfl, Lib.hid rfl, Lib.hid rfl⟩
              have c1 : wx.cell? ⟨w.heap.size + 3 + p, 0, none⟩ = some vp := by rw [HVP.out]; exact RD.c1
              have f1 := RD.f1
              have c2 := RD.c2
              have c3 : wx.cell? ⟨w.heap.size, j * 2, none⟩ = some nv := by rw [HNV.out]; exact RD.c3
              have c4 := RD.c4
              have HO : Hid (wx.ownsRow (w.heap.size + 3 + n) 105 5 vp m xs) := by rw [HVP.out, HM.out, HX.out]; exact Lib.hid (HG.out.a p hpn h1)
              have hm : m ≤ j := by rw [HM.out]; exact ch_len par j p
              have hsz := HG.out.size
              have b1 : w.heap.size + 3 + p < wx.heap.size := by omega
              have b2 : w.heap.size + 1 < wx.heap.size := by omega
              have b3 : w.heap.size < wx.heap.size := by omega
              have HV : Hid (nv.oneCell' = true) := by rw [HNV.out]; exact Lib.hid (nodeV_one _ _)
              have N1 := Lib.hid (cells_new wx [nv, .int .i32 0, .nilIface, .int .i32 0, .int .i32 0] 105)
              have N2 : Hid (∀ u ∈ [nv, .int .i32 0, .nilIface, .int .i32 0, .int .i32 0], u.oneCell' = true) := one_A HV.out
              have N3 : m + 1 ≤ maxLen := by unfold maxLen; omega
              have N4 : (m + 1) * 56 ≤ 140737488355328 := by omega
              have N5 : w.heap.size + 3 + n ≤ (wx.alloc (.cells #[nv, .int .i32 0, .nilIface, .int .i32 0, .int .i32 0] 105)).heap.size := by simp; omega
              have NB : Hid (∀ W w' : World, W.grownBy w' vp.ownBlock → W.heap = (wx.alloc (.cells #[nv, .int .i32 0, .nilIface, .int .i32 0, .int .i32 0] 105)).heap → w'.cell? ⟨w.heap.size + 3 + p, 0, none⟩ = some vp ∧ w'.frozen? ⟨w.heap.size + 3 + p, 0, none⟩ = false ∧ w'.cell? ⟨w.heap.size + 1, p, none⟩ = some (.pointer (some ⟨w.heap.size + 3 + p, 0, none⟩)) ∧ w'.cell? ⟨w.heap.size, j * 2, none⟩ = some nv ∧ w'.cell? ⟨w.heap.size, j * 2 + 1, none⟩ = some (.int .i32 0)) := by
                refine Lib.hid fun W w' hg hw => ?_
                rw [HVP.out] at hg
                have R := HG.out.reads_after hpn hj 1 (.inl ⟨rfl, h1⟩) hw hg
                rw [HVP.out, HNV.out]
                exact ⟨R.c1, R.f1, R.c2, R.c3, R.c4⟩
              have FIN : Hid (∀ (W : World) v1 w1, W.grownBy w1 vp.ownBlock → W.heap = (wx.alloc (.cells #[nv, .int .i32 0, .nilIface, .int .i32 0, .int .i32 0] 105)).heap → W.os = wx.os → W.tape = wx.tape → W.output = wx.output → w1.ownsRow (w.heap.size + 3 + n) 105 5 v1 (m + 1) (xs ++ [nv, .int .i32 0, .nilIface, .int .i32 0, .int .i32 0]) → (∃ g, v1.ownBlock = some g ∧ (vp.ownBlock = some g ∨ W.heap.size ≤ g)) →
                  ∃ V', Grow K par (fun j => decide (j < sn) && S j) n w.heap.size (w1.setCell ⟨w.heap.size + 3 + p, 0, none⟩ v1) (j + 1) V' ∧ Below w.heap.size w (w1.setCell ⟨w.heap.size + 3 + p, 0, none⟩ v1)) := by
                have e1 := HVP.out
                have e2 := HNV.out
                have e3 := HM.out
                have e4 := HX.out
                subst e1 e2 e3 e4
                exact Lib.hid fun W v1 w1 hg2 r1 r2 r3 r4 hg1 hg3 => ⟨_, HG.out.step hpn hp2 hp3 (o := .cells #[(nodeV (K j) (w.heap.size + 3 + j)), .int .i32 0, .nilIface, .int .i32 0, .int .i32 0] 105) r1 hg2 hg3 (fun _ => hg1) (fun h => absurd h (by omega)), HG.out.below HB2.out hpn hp3 (o := .cells #[(nodeV (K j) (w.heap.size + 3 + j)), .int .i32 0, .nilIface, .int .i32 0, .int .i32 0] 105) r1 r2 r3 r4 hg2 _⟩
              clear RD h1 hp3 hp2
              have KEEPS : Hid (∀ (W : World) (u : Value), W.cell? ⟨w.heap.size + 1, p, none⟩ = some (.pointer (some ⟨w.heap.size + 3 + p, 0, none⟩)) ∧ W.cell? ⟨w.heap.size, j * 2, none⟩ = some nv ∧ W.cell? ⟨w.heap.size, j * 2 + 1, none⟩ = some (.int .i32 0) → (W.setCell ⟨w.heap.size + 3 + p, 0, none⟩ u).cell? ⟨w.heap.size + 1, p, none⟩ = some (.pointer (some ⟨w.heap.size + 3 + p, 0, none⟩)) ∧ (W.setCell ⟨w.heap.size + 3 + p, 0, none⟩ u).cell? ⟨w.heap.size, j * 2, none⟩ = some nv ∧ (W.setCell ⟨w.heap.size + 3 + p, 0, none⟩ u).cell? ⟨w.heap.size, j * 2 + 1, none⟩ = some (.int .i32 0)) := Lib.hid fun W u h => ⟨(cell_of_block (Below.heap_setCell W _ u _ (by simp; omega))).trans h.1, (cell_of_block (Below.heap_setCell W _ u _ (by simp; omega))).trans h.2.1, (cell_of_block (Below.heap_setCell W _ u _ (by simp; omega))).trans h.2.2⟩
              go_wp2_with fail
              refine wp_region_noPanic ?_
              refine wp_region_held_drew (S := (fun w' : World => w'.cell? ⟨w.heap.size + 1, p, none⟩ = some (.pointer (some ⟨w.heap.size + 3 + p, 0, none⟩)) ∧ w'.cell? ⟨w.heap.size, j * 2, none⟩ = some nv ∧ w'.cell? ⟨w.heap.size, j * 2 + 1, none⟩ = some (.int .i32 0))) (by kernel_rfl) ?_ (fun hHeld => ?_)
              · (try dsimp only); (first | exact ⟨q3, q4, q5⟩ | exact ⟨c2, c3, c4⟩ | exact KEEPS.out _ _ ⟨q3, q4, q5⟩ | go_keep)
              refine wpAnyH_take (i := 0) (oi := ?_) (v := ?_) ?_ (by kernel_rfl) (by kernel_rfl) (by kernel_rfl) (fun _ _ _ h => h) ?_ (by assumption) ?_
              rotate_left 2
              · simp only [List.getElem?_toArray, List.getElem?_cons_succ, List.getElem?_cons_zero]; with_reducible rfl
              · refine Or.inl ⟨by rfl, ?_⟩; intro w hSw; (try dsimp only at hSw); go_simp; (try with_reducible rfl)
              (try simp only [Act.put, List.setIfInBounds_toArray, List.set_cons_zero, List.set_cons_succ])
              refine wpAnyH_take (i := 1) (oi := ?_) (v := ?_) ?_ (by kernel_rfl) (by kernel_rfl) (by kernel_rfl) (fun _ _ _ h => h) ?_ (by assumption) ?_
              rotate_left 2
              · simp only [List.getElem?_toArray, List.getElem?_cons_succ, List.getElem?_cons_zero]; with_reducible rfl
              · refine Or.inl ⟨by rfl, ?_⟩; intro w hSw; (try dsimp only at hSw); go_simp; (try with_reducible rfl)
              (try simp only [Act.put, List.setIfInBounds_toArray, List.set_cons_zero, List.set_cons_succ])
              refine wpAnyH_take (i := 2) (oi := ?_) (v := ?_) ?_ (by kernel_rfl) (by kernel_rfl) (by kernel_rfl) (fun _ _ _ h => h) ?_ (by assumption) ?_
              rotate_left 2
              · simp only [List.getElem?_toArray, List.getElem?_cons_succ, List.getElem?_cons_zero]; with_reducible rfl
              · refine Or.inl ⟨by rfl, ?_⟩; intro w hSw; (try dsimp only at hSw); go_simp; (try with_reducible rfl)
              (try simp only [Act.put, List.setIfInBounds_toArray, List.set_cons_zero, List.set_cons_succ])
              refine wpAnyH_take (i := 3) (oi := ?_) (v := ?_) ?_ (by kernel_rfl) (by kernel_rfl) (by kernel_rfl) (fun _ _ _ h => h) ?_ (by assumption) ?_
              rotate_left 2
              · simp only [List.getElem?_toArray, List.getElem?_cons_succ, List.getElem?_cons_zero]; with_reducible rfl
              · refine Or.inl ⟨by rfl, ?_⟩; intro w hSw; (try dsimp only at hSw); go_simp; (try with_reducible rfl)
              (try simp only [Act.put, List.setIfInBounds_toArray, List.set_cons_zero, List.set_cons_succ])
              refine wpAnyH_take (i := 4) (oi := ?_) (v := ?_) ?_ (by kernel_rfl) (by kernel_rfl) (by kernel_rfl) (fun _ _ _ h => h) ?_ (by assumption) ?_
              rotate_left 2
              · simp only [List.getElem?_toArray, List.getElem?_cons_succ, List.getElem?_cons_zero]; with_reducible rfl
              · refine Or.inl ⟨by rfl, ?_⟩; intro w hSw; (try dsimp only at hSw); go_simp; (try with_reducible rfl)
              (try simp only [Act.put, List.setIfInBounds_toArray, List.set_cons_zero, List.set_cons_succ])
              refine wpAnyH_take (i := 5) (oi := ?_) (v := ?_) ?_ (by kernel_rfl) (by kernel_rfl) (by kernel_rfl) (fun _ _ _ h => h) ?_ (by assumption) ?_
              rotate_left 2
              · simp only [List.getElem?_toArray, List.getElem?_cons_succ, List.getElem?_cons_zero]; with_reducible rfl
              · refine Or.inl ⟨by rfl, ?_⟩; intro w hSw; (try dsimp only at hSw); go_simp; (try with_reducible rfl)
              (try simp only [Act.put, List.setIfInBounds_toArray, List.set_cons_zero, List.set_cons_succ])
              refine wpAnyH_take (i := 6) (oi := ?_) (v := ?_) ?_ (by kernel_rfl) (by kernel_rfl) (by kernel_rfl) (fun _ _ _ h => h) ?_ (by assumption) ?_
              rotate_left 2
              · simp only [List.getElem?_toArray, List.getElem?_cons_succ, List.getElem?_cons_zero]; with_reducible rfl
              · refine Or.inl ⟨by rfl, ?_⟩; intro w hSw; (try dsimp only at hSw); go_simp; (try with_reducible rfl)
              (try simp only [Act.put, List.setIfInBounds_toArray, List.set_cons_zero, List.set_cons_succ])
              refine wpAnyH_take (i := 7) (oi := ?_) (v := ?_) ?_ (by kernel_rfl) (by kernel_rfl) (by kernel_rfl) (fun _ _ _ h => h) ?_ (by assumption) ?_
              rotate_left 2
              · simp only [List.getElem?_toArray, List.getElem?_cons_succ, List.getElem?_cons_zero]; with_reducible rfl
              · refine Or.inl ⟨by rfl, ?_⟩; intro w hSw; (try dsimp only at hSw); go_simp; (try with_reducible rfl)
              (try simp only [Act.put, List.setIfInBounds_toArray, List.set_cons_zero, List.set_cons_succ])
              refine wpAnyH_take (i := 8) (oi := ?_) (v := ?_) ?_ (by kernel_rfl) (by kernel_rfl) (by kernel_rfl) (fun _ _ _ h => h) ?_ (by assumption) ?_
              rotate_left 2
              · simp only [List.getElem?_toArray, List.getElem?_cons_succ, List.getElem?_cons_zero]; with_reducible rfl
              · refine Or.inl ⟨by rfl, ?_⟩; intro w hSw; (try dsimp only at hSw); go_simp; (try with_reducible rfl)
              (try simp only [Act.put, List.setIfInBounds_toArray, List.set_cons_zero, List.set_cons_succ])
              refine wpAnyH_take (i := 9) (oi := ?_) (v := ?_) ?_ (by kernel_rfl) (by kernel_rfl) (by kernel_rfl) (fun _ _ _ h => h) ?_ (by assumption) ?_
              rotate_left 2
              · simp only [List.getElem?_toArray, List.getElem?_cons_succ, List.getElem?_cons_zero]; with_reducible rfl
              · refine Or.inl ⟨by rfl, ?_⟩; intro w hSw; (try dsimp only at hSw); go_simp; (try with_reducible rfl)
              (try simp only [Act.put, List.setIfInBounds_toArray, List.set_cons_zero, List.set_cons_succ])
              refine wpAnyH_take (i := 11) (oi := ?_) (v := ?_) ?_ (by kernel_rfl) (by kernel_rfl) (by kernel_rfl) (fun _ _ _ h => h) ?_ (by assumption) ?_
              rotate_left 2
              · simp only [List.getElem?_toArray, List.getElem?_cons_succ, List.getElem?_cons_zero]; with_reducible rfl
              · refine Or.inl ⟨by rfl, ?_⟩; intro w hSw; (try dsimp only at hSw); go_simp; (try with_reducible rfl)
              (try simp only [Act.put, List.setIfInBounds_toArray, List.set_cons_zero, List.set_cons_succ])
              refine wpAnyH_take (i := 12) (oi := ?_) (v := ?_) ?_ (by kernel_rfl) (by kernel_rfl) (by kernel_rfl) (fun _ _ _ h => h) ?_ (by assumption) ?_
              rotate_left 2
              · simp only [List.getElem?_toArray, List.getElem?_cons_succ, List.getElem?_cons_zero]; with_reducible rfl
              · refine Or.inl ⟨by rfl, ?_⟩; intro w hSw; (try dsimp only at hSw); go_simp; (try with_reducible rfl)
              (try simp only [Act.put, List.setIfInBounds_toArray, List.set_cons_zero, List.set_cons_succ])
              refine wpAnyH_take (i := 13) (oi := ?_) (v := ?_) ?_ (by kernel_rfl) (by kernel_rfl) (by kernel_rfl) (fun _ _ _ h => h) ?_ (by assumption) ?_
              rotate_left 2
              · simp only [List.getElem?_toArray, List.getElem?_cons_succ, List.getElem?_cons_zero]; with_reducible rfl
              · refine Or.inl ⟨by rfl, ?_⟩; intro w hSw; (try dsimp only at hSw); go_simp; (try with_reducible rfl)
              (try simp only [Act.put, List.setIfInBounds_toArray, List.set_cons_zero, List.set_cons_succ])
              refine wpAnyH_take (i := 14) (oi := ?_) (v := ?_) ?_ (by kernel_rfl) (by kernel_rfl) (by kernel_rfl) (fun _ _ _ h => h) ?_ (by assumption) ?_
              rotate_left 2
              · simp only [List.getElem?_toArray, List.getElem?_cons_succ, List.getElem?_cons_zero]; with_reducible rfl
              · refine Or.inl ⟨by rfl, ?_⟩; intro w hSw; (try dsimp only at hSw); go_simp; (try with_reducible rfl)
              (try simp only [Act.put, List.setIfInBounds_toArray, List.set_cons_zero, List.set_cons_succ])
              refine wpAnyH_take (i := 15) (oi := ?_) (v := ?_) ?_ (by kernel_rfl) (by kernel_rfl) (by kernel_rfl) (fun _ _ _ h => h) ?_ (by assumption) ?_
              rotate_left 2
              · simp only [List.getElem?_toArray, List.getElem?_cons_succ, List.getElem?_cons_zero]; with_reducible rfl
              · refine Or.inl ⟨by rfl, ?_⟩; intro w hSw; (try dsimp only at hSw); go_simp; (try with_reducible rfl)
              (try simp only [Act.put, List.setIfInBounds_toArray, List.set_cons_zero, List.set_cons_succ])
              refine wpAnyH_ready (rs := [10, 16]) (by kernel_rfl) (by simp) ?_
              refine AllReadyH.cons (o := ?_) ?_ (fun K hK => ?_) ?_
              rotate_left 1
              · simp only [List.getElem?_toArray, List.getElem?_cons_succ, List.getElem?_cons_zero]; with_reducible rfl
              · go_simp
                refine hK.out _ _ ?_ (fun hHeld => ?_)
                · (try dsimp only); (first | exact ⟨q3, q4, q5⟩ | exact ⟨c2, c3, c4⟩ | exact KEEPS.out _ _ ⟨q3, q4, q5⟩ | go_keep)
                clear hK K
                (try simp only [Act.put, List.setIfInBounds_toArray, List.set_cons_zero, List.set_cons_succ])
                refine wpAnyH_ready (rs := [16]) (by kernel_rfl) (by simp) ?_
                refine AllReadyH.cons (o := ?_) ?_ (fun K hK => ?_) ?_
                rotate_left 1
                · simp only [List.getElem?_toArray, List.getElem?_cons_succ, List.getElem?_cons_zero]; with_reducible rfl
                · go_simp
                  refine hK.out _ _ ?_ (fun hHeld => ?_)
                  · (try dsimp only); (first | exact ⟨q3, q4, q5⟩ | exact ⟨c2, c3, c4⟩ | exact KEEPS.out _ _ ⟨q3, q4, q5⟩ | go_keep)
                  clear hK K
                  (try simp only [Act.put, List.setIfInBounds_toArray, List.set_cons_zero, List.set_cons_succ])
                  refine wpAnyH_ready (rs := [17]) (by kernel_rfl) (by simp) ?_
                  refine AllReadyH.cons (o := ?_) ?_ (fun K hK => ?_) ?_
                  rotate_left 1
                  · simp only [List.getElem?_toArray, List.getElem?_cons_succ, List.getElem?_cons_zero]; with_reducible rfl
                  · (refine step_append_where rfl (.tmp 96) (.tmp 102) 94 rfl (w.heap.size + 3 + n) 105 i1 _ 5 56 Try.underlying94 hi hz0 hz1 hz2 rfl five_pos vp m xs rfl (HO.out.alloc _) ⟨wx.heap.size, 0, none⟩ 1 1 [nv, .int .i32 0, .nilIface, .int .i32 0, .int .i32 0] rfl rfl N1.out N2.out N3 N4 N5 one_pos ?_; intro v1 w1 g1 g2 g3; obtain ⟨q1, q2, q3, q4, q5⟩ := NB.out _ w1 g2 rfl; obtain ⟨gg, cc, rfl, gge⟩ := own_form g1 (Nat.succ_pos _); have G1 := FIN.out _ _ _ g2 rfl rfl rfl rfl g1 g3; have G1 := Lib.hid G1; clear g1 g2 g3)
                    refine hK.out _ _ ?_ (fun hHeld => ?_)
                    · (try dsimp only); (first | exact ⟨q3, q4, q5⟩ | exact ⟨c2, c3, c4⟩ | exact KEEPS.out _ _ ⟨q3, q4, q5⟩ | go_keep)
                    clear hK K
                    (try simp only [Act.put, List.setIfInBounds_toArray, List.set_cons_zero, List.set_cons_succ])
                    refine wpAnyH_take (i := 18) (oi := ?_) (v := ?_) ?_ (by kernel_rfl) (by kernel_rfl) (by kernel_rfl) (fun _ _ _ h => h) ?_ (by assumption) ?_
                    rotate_left 2
                    · simp only [List.getElem?_toArray, List.getElem?_cons_succ, List.getElem?_cons_zero]; with_reducible rfl
                    · refine Or.inl ⟨by rfl, ?_⟩; intro w hSw; (try dsimp only at hSw); go_simp; (try with_reducible rfl)
                    (try simp only [Act.put, List.setIfInBounds_toArray, List.set_cons_zero, List.set_cons_succ])
                    refine wpAnyH_take (i := 19) (oi := ?_) (v := ?_) ?_ (by kernel_rfl) (by kernel_rfl) (by kernel_rfl) (fun _ _ _ h => h) ?_ (by assumption) ?_
                    rotate_left 2
                    · simp only [List.getElem?_toArray, List.getElem?_cons_succ, List.getElem?_cons_zero]; with_reducible rfl
                    · refine Or.inl ⟨by rfl, ?_⟩; intro w hSw; (try dsimp only at hSw); go_simp; (try with_reducible rfl)
                    (try simp only [Act.put, List.setIfInBounds_toArray, List.set_cons_zero, List.set_cons_succ])
                    refine wpAnyH_ready (rs := [20]) (by kernel_rfl) (by simp) ?_
                    refine AllReadyH.cons (o := ?_) ?_ (fun K hK => ?_) ?_
                    rotate_left 1
                    · simp only [List.getElem?_toArray, List.getElem?_cons_succ, List.getElem?_cons_zero]; with_reducible rfl
                    · go_simp
                      refine hK.out _ _ ?_ (fun hHeld => ?_)
                      · (try dsimp only); (first | exact ⟨q3, q4, q5⟩ | exact ⟨c2, c3, c4⟩ | exact KEEPS.out _ _ ⟨q3, q4, q5⟩ | go_keep)
                      clear hK K
                      (try simp only [Act.put, List.setIfInBounds_toArray, List.set_cons_zero, List.set_cons_succ])
                      refine wpAnyH_done (by kernel_rfl) ?_ _
                      refine NoPanic.normal ?_
                      (go_wp2_with fail; go_meet; exact G1.out)
                    exact AllReadyH.nil
                  exact AllReadyH.nil
                exact AllReadyH.nil
              refine AllReadyH.cons (o := ?_) ?_ (fun K hK => ?_) ?_
              rotate_left 1
              · simp only [List.getElem?_toArray, List.getElem?_cons_succ, List.getElem?_cons_zero]; with_reducible rfl
              · go_simp
                refine hK.out _ _ ?_ (fun hHeld => ?_)
                · (try dsimp only); (first | exact ⟨q3, q4, q5⟩ | exact ⟨c2, c3, c4⟩ | exact KEEPS.out _ _ ⟨q3, q4, q5⟩ | go_keep)
                clear hK K
                (try simp only [Act.put, List.setIfInBounds_toArray, List.set_cons_zero, List.set_cons_succ])
                refine wpAnyH_ready (rs := [10]) (by kernel_rfl) (by simp) ?_
                refine AllReadyH.cons (o := ?_) ?_ (fun K hK => ?_) ?_
                rotate_left 1
                · simp only [List.getElem?_toArray, List.getElem?_cons_succ, List.getElem?_cons_zero]; with_reducible rfl
                · go_simp
                  refine hK.out _ _ ?_ (fun hHeld => ?_)
                  · (try dsimp only); (first | exact ⟨q3, q4, q5⟩ | exact ⟨c2, c3, c4⟩ | exact KEEPS.out _ _ ⟨q3, q4, q5⟩ | go_keep)
                  clear hK K
                  (try simp only [Act.put, List.setIfInBounds_toArray, List.set_cons_zero, List.set_cons_succ])
                  refine wpAnyH_ready (rs := [17]) (by kernel_rfl) (by simp) ?_
                  refine AllReadyH.cons (o := ?_) ?_ (fun K hK => ?_) ?_
                  rotate_left 1
                  · simp only [List.getElem?_toArray, List.getElem?_cons_succ, List.getElem?_cons_zero]; with_reducible rfl
                  · (refine step_append_where rfl (.tmp 96) (.tmp 102) 94 rfl (w.heap.size + 3 + n) 105 i1 _ 5 56 Try.underlying94 hi hz0 hz1 hz2 rfl five_pos vp m xs rfl (HO.out.alloc _) ⟨wx.heap.size, 0, none⟩ 1 1 [nv, .int .i32 0, .nilIface, .int .i32 0, .int .i32 0] rfl rfl N1.out N2.out N3 N4 N5 one_pos ?_; intro v1 w1 g1 g2 g3; obtain ⟨q1, q2, q3, q4, q5⟩ := NB.out _ w1 g2 rfl; obtain ⟨gg, cc, rfl, gge⟩ := own_form g1 (Nat.succ_pos _); have G1 := FIN.out _ _ _ g2 rfl rfl rfl rfl g1 g3; have G1 := Lib.hid G1; clear g1 g2 g3)
                    refine hK.out _ _ ?_ (fun hHeld => ?_)
                    · (try dsimp only); (first | exact ⟨q3, q4, q5⟩ | exact ⟨c2, c3, c4⟩ | exact KEEPS.out _ _ ⟨q3, q4, q5⟩ | go_keep)
                    clear hK K
                    (try simp only [Act.put, List.setIfInBounds_toArray, List.set_cons_zero, List.set_cons_succ])
                    refine wpAnyH_take (i := 18) (oi := ?_) (v := ?_) ?_ (by kernel_rfl) (by kernel_rfl) (by kernel_rfl) (fun _ _ _ h => h) ?_ (by assumption) ?_
                    rotate_left 2
                    · simp only [List.getElem?_toArray, List.getElem?_cons_succ, List.getElem?_cons_zero]; with_reducible rfl
                    · refine Or.inl ⟨by rfl, ?_⟩; intro w hSw; (try dsimp only at hSw); go_simp; (try with_reducible rfl)
                    (try simp only [Act.put, List.setIfInBounds_toArray, List.set_cons_zero, List.set_cons_succ])
                    refine wpAnyH_take (i := 19) (oi := ?_) (v := ?_) ?_ (by kernel_rfl) (by kernel_rfl) (by kernel_rfl) (fun _ _ _ h => h) ?_ (by assumption) ?_
                    rotate_left 2
                    · simp only [List.getElem?_toArray, List.getElem?_cons_succ, List.getElem?_cons_zero]; with_reducible rfl
                    · refine Or.inl ⟨by rfl, ?_⟩; intro w hSw; (try dsimp only at hSw); go_simp; (try with_reducible rfl)
                    (try simp only [Act.put, List.setIfInBounds_toArray, List.set_cons_zero, List.set_cons_succ])
                    refine wpAnyH_ready (rs := [20]) (by kernel_rfl) (by simp) ?_
                    refine AllReadyH.cons (o := ?_) ?_ (fun K hK => ?_) ?_
                    rotate_left 1
                    · simp only [List.getElem?_toArray, List.getElem?_cons_succ, List.getElem?_cons_zero]; with_reducible rfl
                    · go_simp
                      refine hK.out _ _ ?_ (fun hHeld => ?_)
                      · (try dsimp only); (first | exact ⟨q3, q4, q5⟩ | exact ⟨c2, c3, c4⟩ | exact KEEPS.out _ _ ⟨q3, q4, q5⟩ | go_keep)
                      clear hK K
                      (try simp only [Act.put, List.setIfInBounds_toArray, List.set_cons_zero, List.set_cons_succ])
                      refine wpAnyH_done (by kernel_rfl) ?_ _
                      refine NoPanic.normal ?_
                      (go_wp2_with fail; go_meet; exact G1.out)
                    exact AllReadyH.nil
                  exact AllReadyH.nil
                exact AllReadyH.nil
              exact AllReadyH.nil
            · have h1' : ((K p : Int) % 3 == 2) = true := by simp; omega
              have HFL : Hid (∀ W : World, W.heap = wx.heap → Calls Try.prog 24 #[.slice sa sn sc, .int .i64 j] W fun e w' => e = .returned (.bool (decide (j < sn) && S j)) ∧ W = w') := Lib.hid fun W hW => flag_any sa sn sc S j W (by omega) (by omega) (HBS.out W hW)
              have h1'' : ((K p : Int) % 3 == 1) = false := by simp; omega
              have RD := HG.out.reads hpn hj 2 (.inr ⟨rfl, h1⟩)
              obtain ⟨i1, hi, hz0, hz1, hz2⟩ := info_parts info107
              obtain ⟨vp, nv, m, xs, HVP, HNV, HM, HX⟩ : ∃ vp nv m xs, Hid (vp = V p) ∧ Hid (nv = nodeV (K j) (w.heap.size + 3 + j)) ∧ Hid (m = (ch par j p).length) ∧ Hid (xs = (ch par j p).flatMap (itemO K (fun j => decide (j < sn) && S j) w.heap.size)) := ⟨_, _, _, _, Lib.hid rfl, Lib.hid rfl, Lib.hid rfl, Lib.hid rfl⟩
              have c1 : wx.cell? ⟨w.heap.size + 3 + p, 0, none⟩ = some vp := by rw [HVP.out]; exact RD.c1
              have f1 := RD.f1
              have c2 := RD.c2
              have c3 : wx.cell? ⟨w.heap.size, j * 2, none⟩ = some nv := by rw [HNV.out]; exact RD.c3
              have c4 := RD.c4
              have HO : Hid (wx.ownsRow (w.heap.size + 3 + n) 107 11 vp m xs) := by rw [HVP.out, HM.out, HX.out]; exact Lib.hid (HG.out.o p hpn h1)
              have hm : m ≤ j := by rw [HM.out]; exact ch_len par j p
              have hsz := HG.out.size
              have b1 : w.heap.size + 3 + p < wx.heap.size := by omega
              have b2 : w.heap.size + 2 < wx.heap.size := by omega
              have b3 : w.heap.size < wx.heap.size := by omega
              have HV : Hid (nv.oneCell' = true) := by rw [HNV.out]; exact Lib.hid (nodeV_one _ _)
              have N1 := Lib.hid (cells_new wx [.nilIface, .int .i32 0, nv, .int .i32 0, .nilIface, .int .i32 0, .int .i32 0, .int .i32 0, .bool false, .bool (decide (j < sn) && S j), .bool false] 107)
              have N2 : Hid (∀ u ∈ [.nilIface, .int .i32 0, nv, .int .i32 0, .nilIface, .int .i32 0, .int .i32 0, .int .i32 0, .bool false, .bool (decide (j < sn) && S j), .bool false], u.oneCell' = true) := one_O HV.out
              have N3 : m + 1 ≤ maxLen := by unfold maxLen; omega
              have N4 : (m + 1) * 88 ≤ 140737488355328 := by omega
              have N5 : w.heap.size + 3 + n ≤ (wx.alloc (.cells #[.nilIface, .int .i32 0, nv, .int .i32 0, .nilIface, .int .i32 0, .int .i32 0, .int .i32 0, .bool false, .bool (decide (j < sn) && S j), .bool false] 107)).heap.size := by simp; omega
              have NB : Hid (∀ W w' : World, W.grownBy w' vp.ownBlock → W.heap = (wx.alloc (.cells #[.nilIface, .int .i32 0, nv, .int .i32 0, .nilIface, .int .i32 0, .int .i32 0, .int .i32 0, .bool false, .bool (decide (j < sn) && S j), .bool false] 107)).heap → w'.cell? ⟨w.heap.size + 3 + p, 0, none⟩ = some vp ∧ w'.frozen? ⟨w.heap.size + 3 + p, 0, none⟩ = false ∧ w'.cell? ⟨w.heap.size + 2, p, none⟩ = some (.pointer (some ⟨w.heap.size + 3 + p, 0, none⟩)) ∧ w'.cell? ⟨w.heap.size, j * 2, none⟩ = some nv ∧ w'.cell? ⟨w.heap.size, j * 2 + 1, none⟩ = some (.int .i32 0)) := by
                refine Lib.hid fun W w' hg hw => ?_
                rw [HVP.out] at hg
                have R := HG.out.reads_after hpn hj 2 (.inr ⟨rfl, h1⟩) hw hg
                rw [HVP.out, HNV.out]
                exact ⟨R.c1, R.f1, R.c2, R.c3, R.c4⟩
              have FIN : Hid (∀ (W : World) v1 w1, W.grownBy w1 vp.ownBlock → W.heap = (wx.alloc (.cells #[.nilIface, .int .i32 0, nv, .int .i32 0, .nilIface, .int .i32 0, .int .i32 0, .int .i32 0, .bool false, .bool (decide (j < sn) && S j), .bool false] 107)).heap → W.os = wx.os → W.tape = wx.tape → W.output = wx.output → w1.ownsRow (w.heap.size + 3 + n) 107 11 v1 (m + 1) (xs ++ [.nilIface, .int .i32 0, nv, .int .i32 0, .nilIface, .int .i32 0, .int .i32 0, .int .i32 0, .bool false, .bool (decide (j < sn) && S j), .bool false]) → (∃ g, v1.ownBlock = some g ∧ (vp.ownBlock = some g ∨ W.heap.size ≤ g)) →
                  ∃ V', Grow K par (fun j => decide (j < sn) && S j) n w.heap.size (w1.setCell ⟨w.heap.size + 3 + p, 0, none⟩ v1) (j + 1) V' ∧ Below w.heap.size w (w1.setCell ⟨w.heap.size + 3 + p, 0, none⟩ v1)) := by
                have e1 := HVP.out
                have e2 := HNV.out
                have e3 := HM.out
                have e4 := HX.out
                subst e1 e2 e3 e4
                exact Lib.hid fun W v1 w1 hg2 r1 r2 r3 r4 hg1 hg3 => ⟨_, HG.out.step hpn hp2 hp3 (o := .cells #[.nilIface, .int .i32 0, (nodeV (K j) (w.heap.size + 3 + j)), .int .i32 0, .nilIface, .int .i32 0, .int .i32 0, .int .i32 0, .bool false, .bool (decide (j < sn) && S j), .bool false] 107) r1 hg2 hg3 (fun h => absurd h (by omega)) (fun _ => hg1), HG.out.below HB2.out hpn hp3 (o := .cells #[.nilIface, .int .i32 0, (nodeV (K j) (w.heap.size + 3 + j)), .int .i32 0, .nilIface, .int .i32 0, .int .i32 0, .int .i32 0, .bool false, .bool (decide (j < sn) && S j), .bool false] 107) r1 r2 r3 r4 hg2 _⟩
              clear RD h1 hp3 hp2
              have KEEPS : Hid (∀ (W : World) (u : Value), W.cell? ⟨w.heap.size + 2, p, none⟩ = some (.pointer (some ⟨w.heap.size + 3 + p, 0, none⟩)) ∧ W.cell? ⟨w.heap.size, j * 2, none⟩ = some nv ∧ W.cell? ⟨w.heap.size, j * 2 + 1, none⟩ = some (.int .i32 0) → (W.setCell ⟨w.heap.size + 3 + p, 0, none⟩ u).cell? ⟨w.heap.size + 2, p, none⟩ = some (.pointer (some ⟨w.heap.size + 3 + p, 0, none⟩)) ∧ (W.setCell ⟨w.heap.size + 3 + p, 0, none⟩ u).cell? ⟨w.heap.size, j * 2, none⟩ = some nv ∧ (W.setCell ⟨w.heap.size + 3 + p, 0, none⟩ u).cell? ⟨w.heap.size, j * 2 + 1, none⟩ = some (.int .i32 0)) := Lib.hid fun W u h => ⟨(cell_of_block (Below.heap_setCell W _ u _ (by simp; omega))).trans h.1, (cell_of_block (Below.heap_setCell W _ u _ (by simp; omega))).trans h.2.1, (cell_of_block (Below.heap_setCell W _ u _ (by simp; omega))).trans h.2.2⟩
              go_wp2_with fail
              refine wp_region_noPanic ?_
              refine wp_region_held_drew (S := (fun w' : World => w'.cell? ⟨w.heap.size + 2, p, none⟩ = some (.pointer (some ⟨w.heap.size + 3 + p, 0, none⟩)) ∧ w'.cell? ⟨w.heap.size, j * 2, none⟩ = some nv ∧ w'.cell? ⟨w.heap.size, j * 2 + 1, none⟩ = some (.int .i32 0))) (by kernel_rfl) ?_ (fun hHeld => ?_)
              · (try dsimp only); (first | exact ⟨q3, q4, q5⟩ | exact ⟨c2, c3, c4⟩ | exact KEEPS.out _ _ ⟨q3, q4, q5⟩ | go_keep)
              refine wpAnyH_take (i := 0) (oi := ?_) (v := ?_) ?_ (by kernel_rfl) (by kernel_rfl) (by kernel_rfl) (fun _ _ _ h => h) ?_ (by assumption) ?_
              rotate_left 2
              · simp only [List.getElem?_toArray, List.getElem?_cons_succ, List.getElem?_cons_zero]; with_reducible rfl
              · refine Or.inl ⟨by rfl, ?_⟩; intro w hSw; (try dsimp only at hSw); go_simp; (try with_reducible rfl)
              (try simp only [Act.put, List.setIfInBounds_toArray, List.set_cons_zero, List.set_cons_succ])
              refine wpAnyH_take (i := 1) (oi := ?_) (v := ?_) ?_ (by kernel_rfl) (by kernel_rfl) (by kernel_rfl) (fun _ _ _ h => h) ?_ (by assumption) ?_
              rotate_left 2
              · simp only [List.getElem?_toArray, List.getElem?_cons_succ, List.getElem?_cons_zero]; with_reducible rfl
              · refine Or.inl ⟨by rfl, ?_⟩; intro w hSw; (try dsimp only at hSw); go_simp; (try with_reducible rfl)
              (try simp only [Act.put, List.setIfInBounds_toArray, List.set_cons_zero, List.set_cons_succ])
              refine wpAnyH_take (i := 2) (oi := ?_) (v := ?_) ?_ (by kernel_rfl) (by kernel_rfl) (by kernel_rfl) (fun _ _ _ h => h) ?_ (by assumption) ?_
              rotate_left 2
              · simp only [List.getElem?_toArray, List.getElem?_cons_succ, List.getElem?_cons_zero]; with_reducible rfl
              · refine Or.inl ⟨by rfl, ?_⟩; intro w hSw; (try dsimp only at hSw); go_simp; (try with_reducible rfl)
              (try simp only [Act.put, List.setIfInBounds_toArray, List.set_cons_zero, List.set_cons_succ])
              refine wpAnyH_take (i := 3) (oi := ?_) (v := ?_) ?_ (by kernel_rfl) (by kernel_rfl) (by kernel_rfl) (fun _ _ _ h => h) ?_ (by assumption) ?_
              rotate_left 2
              · simp only [List.getElem?_toArray, List.getElem?_cons_succ, List.getElem?_cons_zero]; with_reducible rfl
              · refine Or.inl ⟨by rfl, ?_⟩; intro w hSw; (try dsimp only at hSw); go_simp; (try with_reducible rfl)
              (try simp only [Act.put, List.setIfInBounds_toArray, List.set_cons_zero, List.set_cons_succ])
              refine wpAnyH_take (i := 4) (oi := ?_) (v := ?_) ?_ (by kernel_rfl) (by kernel_rfl) (by kernel_rfl) (fun _ _ _ h => h) ?_ (by assumption) ?_
              rotate_left 2
              · simp only [List.getElem?_toArray, List.getElem?_cons_succ, List.getElem?_cons_zero]; with_reducible rfl
              · refine Or.inl ⟨by rfl, ?_⟩; intro w hSw; (try dsimp only at hSw); go_simp; (try with_reducible rfl)
              (try simp only [Act.put, List.setIfInBounds_toArray, List.set_cons_zero, List.set_cons_succ])
              refine wpAnyH_take (i := 5) (oi := ?_) (v := ?_) ?_ (by kernel_rfl) (by kernel_rfl) (by kernel_rfl) (fun _ _ _ h => h) ?_ (by assumption) ?_
              rotate_left 2
              · simp only [List.getElem?_toArray, List.getElem?_cons_succ, List.getElem?_cons_zero]; with_reducible rfl
              · refine Or.inl ⟨by rfl, ?_⟩; intro w hSw; (try dsimp only at hSw); go_simp; (try with_reducible rfl)
              (try simp only [Act.put, List.setIfInBounds_toArray, List.set_cons_zero, List.set_cons_succ])
              refine wpAnyH_take (i := 6) (oi := ?_) (v := ?_) ?_ (by kernel_rfl) (by kernel_rfl) (by kernel_rfl) (fun _ _ _ h => h) ?_ (by assumption) ?_
              rotate_left 2
              · simp only [List.getElem?_toArray, List.getElem?_cons_succ, List.getElem?_cons_zero]; with_reducible rfl
              · refine Or.inl ⟨by rfl, ?_⟩; intro w hSw; (try dsimp only at hSw); go_simp; (try with_reducible rfl)
              (try simp only [Act.put, List.setIfInBounds_toArray, List.set_cons_zero, List.set_cons_succ])
              refine wpAnyH_take (i := 7) (oi := ?_) (v := ?_) ?_ (by kernel_rfl) (by kernel_rfl) (by kernel_rfl) (fun _ _ _ h => h) ?_ (by assumption) ?_
              rotate_left 2
              · simp only [List.getElem?_toArray, List.getElem?_cons_succ, List.getElem?_cons_zero]; with_reducible rfl
              · refine Or.inl ⟨by rfl, ?_⟩; intro w hSw; (try dsimp only at hSw); go_simp; (try with_reducible rfl)
              (try simp only [Act.put, List.setIfInBounds_toArray, List.set_cons_zero, List.set_cons_succ])
              refine wpAnyH_take (i := 8) (oi := ?_) (v := ?_) ?_ (by kernel_rfl) (by kernel_rfl) (by kernel_rfl) (fun _ _ _ h => h) ?_ (by assumption) ?_
              rotate_left 2
              · simp only [List.getElem?_toArray, List.getElem?_cons_succ, List.getElem?_cons_zero]; with_reducible rfl
              · refine Or.inl ⟨by rfl, ?_⟩; intro w hSw; (try dsimp only at hSw); go_simp; (try with_reducible rfl)
              (try simp only [Act.put, List.setIfInBounds_toArray, List.set_cons_zero, List.set_cons_succ])
              refine wpAnyH_take (i := 9) (oi := ?_) (v := ?_) ?_ (by kernel_rfl) (by kernel_rfl) (by kernel_rfl) (fun _ _ _ h => h) ?_ (by assumption) ?_
              rotate_left 2
              · simp only [List.getElem?_toArray, List.getElem?_cons_succ, List.getElem?_cons_zero]; with_reducible rfl
              · refine Or.inl ⟨by rfl, ?_⟩; intro w hSw; (try dsimp only at hSw); go_simp; (try with_reducible rfl)
              (try simp only [Act.put, List.setIfInBounds_toArray, List.set_cons_zero, List.set_cons_succ])
              refine wpAnyH_take (i := 11) (oi := ?_) (v := ?_) ?_ (by kernel_rfl) (by kernel_rfl) (by kernel_rfl) (fun _ _ _ h => h) ?_ (by assumption) ?_
              rotate_left 2
              · simp only [List.getElem?_toArray, List.getElem?_cons_succ, List.getElem?_cons_zero]; with_reducible rfl
              · refine Or.inl ⟨by rfl, ?_⟩; intro w hSw; (try dsimp only at hSw); go_simp; (try with_reducible rfl)
              (try simp only [Act.put, List.setIfInBounds_toArray, List.set_cons_zero, List.set_cons_succ])
              refine wpAnyH_take (i := 12) (oi := ?_) (v := ?_) ?_ (by kernel_rfl) (by kernel_rfl) (by kernel_rfl) (fun _ _ _ h => h) ?_ (by assumption) ?_
              rotate_left 2
              · simp only [List.getElem?_toArray, List.getElem?_cons_succ, List.getElem?_cons_zero]; with_reducible rfl
              · refine Or.inl ⟨by rfl, ?_⟩; intro w hSw; (try dsimp only at hSw); go_simp; (try with_reducible rfl)
              (try simp only [Act.put, List.setIfInBounds_toArray, List.set_cons_zero, List.set_cons_succ])
              refine wpAnyH_take (i := 13) (oi := ?_) (v := ?_) ?_ (by kernel_rfl) (by kernel_rfl) (by kernel_rfl) (fun _ _ _ h => h) ?_ (by assumption) ?_
              rotate_left 2
              · simp only [List.getElem?_toArray, List.getElem?_cons_succ, List.getElem?_cons_zero]; with_reducible rfl
              · refine Or.inl ⟨by rfl, ?_⟩; intro w hSw; (try dsimp only at hSw); go_simp; (try with_reducible rfl)
              (try simp only [Act.put, List.setIfInBounds_toArray, List.set_cons_zero, List.set_cons_succ])
              refine wpAnyH_take (i := 14) (oi := ?_) (v := ?_) ?_ (by kernel_rfl) (by kernel_rfl) (by kernel_rfl) (fun _ _ _ h => h) ?_ (by assumption) ?_
              rotate_left 2
              · simp only [List.getElem?_toArray, List.getElem?_cons_succ, List.getElem?_cons_zero]; with_reducible rfl
              · refine Or.inl ⟨by rfl, ?_⟩; intro w hSw; (try dsimp only at hSw); go_simp; (try with_reducible rfl)
              (try simp only [Act.put, List.setIfInBounds_toArray, List.set_cons_zero, List.set_cons_succ])
              refine wpAnyH_take (i := 15) (oi := ?_) (v := ?_) ?_ (by kernel_rfl) (by kernel_rfl) (by kernel_rfl) (fun _ _ _ h => h) ?_ (by assumption) ?_
              rotate_left 2
              · simp only [List.getElem?_toArray, List.getElem?_cons_succ, List.getElem?_cons_zero]; with_reducible rfl
              · refine Or.inl ⟨by rfl, ?_⟩; intro w hSw; (try dsimp only at hSw); go_simp; (try with_reducible rfl)
              (try simp only [Act.put, List.setIfInBounds_toArray, List.set_cons_zero, List.set_cons_succ])
              refine wpAnyH_take (i := 16) (oi := ?_) (v := ?_) ?_ (by kernel_rfl) (by kernel_rfl) (by kernel_rfl) (fun _ _ _ h => h) ?_ (by assumption) ?_
              rotate_left 2
              · simp only [List.getElem?_toArray, List.getElem?_cons_succ, List.getElem?_cons_zero]; with_reducible rfl
              · refine Or.inl ⟨by rfl, ?_⟩; intro w hSw; (try dsimp only at hSw); go_simp; (try with_reducible rfl)
              (try simp only [Act.put, List.setIfInBounds_toArray, List.set_cons_zero, List.set_cons_succ])
              refine wpAnyH_ready (rs := [10, 17]) (by kernel_rfl) (by simp) ?_
              refine AllReadyH.cons (o := ?_) ?_ (fun K hK => ?_) ?_
              rotate_left 1
              · simp only [List.getElem?_toArray, List.getElem?_cons_succ, List.getElem?_cons_zero]; with_reducible rfl
              · go_simp
                refine hK.out _ _ ?_ (fun hHeld => ?_)
                · (try dsimp only); (first | exact ⟨q3, q4, q5⟩ | exact ⟨c2, c3, c4⟩ | exact KEEPS.out _ _ ⟨q3, q4, q5⟩ | go_keep)
                clear hK K
                (try simp only [Act.put, List.setIfInBounds_toArray, List.set_cons_zero, List.set_cons_succ])
                refine wpAnyH_ready (rs := [17]) (by kernel_rfl) (by simp) ?_
                refine AllReadyH.cons (o := ?_) ?_ (fun K hK => ?_) ?_
                rotate_left 1
                · simp only [List.getElem?_toArray, List.getElem?_cons_succ, List.getElem?_cons_zero]; with_reducible rfl
                · (go_simp; go_at_call 24; refine Calls.mono (HFL.out _ ?_) ?_; exact rfl; rintro e w1 ⟨rfl, rfl⟩)
                  refine hK.out _ _ ?_ (fun hHeld => ?_)
                  · (try dsimp only); (first | exact ⟨q3, q4, q5⟩ | exact ⟨c2, c3, c4⟩ | exact KEEPS.out _ _ ⟨q3, q4, q5⟩ | go_keep)
                  clear hK K
                  (try simp only [Act.put, List.setIfInBounds_toArray, List.set_cons_zero, List.set_cons_succ])
                  refine wpAnyH_take (i := 18) (oi := ?_) (v := ?_) ?_ (by kernel_rfl) (by kernel_rfl) (by kernel_rfl) (fun _ _ _ h => h) ?_ (by assumption) ?_
                  rotate_left 2
                  · simp only [List.getElem?_toArray, List.getElem?_cons_succ, List.getElem?_cons_zero]; with_reducible rfl
                  · refine Or.inl ⟨by rfl, ?_⟩; intro w hSw; (try dsimp only at hSw); go_simp; (try with_reducible rfl)
                  (try simp only [Act.put, List.setIfInBounds_toArray, List.set_cons_zero, List.set_cons_succ])
                  refine wpAnyH_ready (rs := [19]) (by kernel_rfl) (by simp) ?_
                  refine AllReadyH.cons (o := ?_) ?_ (fun K hK => ?_) ?_
                  rotate_left 1
                  · simp only [List.getElem?_toArray, List.getElem?_cons_succ, List.getElem?_cons_zero]; with_reducible rfl
                  · go_simp
                    refine hK.out _ _ ?_ (fun hHeld => ?_)
                    · (try dsimp only); (first | exact ⟨q3, q4, q5⟩ | exact ⟨c2, c3, c4⟩ | exact KEEPS.out _ _ ⟨q3, q4, q5⟩ | go_keep)
                    clear hK K
                    (try simp only [Act.put, List.setIfInBounds_toArray, List.set_cons_zero, List.set_cons_succ])
                    refine wpAnyH_ready (rs := [20]) (by kernel_rfl) (by simp) ?_
                    refine AllReadyH.cons (o := ?_) ?_ (fun K hK => ?_) ?_
                    rotate_left 1
                    · simp only [List.getElem?_toArray, List.getElem?_cons_succ, List.getElem?_cons_zero]; with_reducible rfl
                    · (refine step_append_where rfl (.tmp 116) (.tmp 125) 98 rfl (w.heap.size + 3 + n) 107 i1 _ 11 88 Try.underlying98 hi hz0 hz1 hz2 rfl eleven_pos vp m xs rfl (HO.out.alloc _) ⟨wx.heap.size, 0, none⟩ 1 1 [.nilIface, .int .i32 0, nv, .int .i32 0, .nilIface, .int .i32 0, .int .i32 0, .int .i32 0, .bool false, .bool (decide (j < sn) && S j), .bool false] rfl rfl N1.out N2.out N3 N4 N5 one_pos ?_; intro v1 w1 g1 g2 g3; obtain ⟨q1, q2, q3, q4, q5⟩ := NB.out _ w1 g2 rfl; obtain ⟨gg, cc, rfl, gge⟩ := own_form g1 (Nat.succ_pos _); have G1 := FIN.out _ _ _ g2 rfl rfl rfl rfl g1 g3; have G1 := Lib.hid G1; clear g1 g2 g3)
                      refine hK.out _ _ ?_ (fun hHeld => ?_)
                      · (try dsimp only); (first | exact ⟨q3, q4, q5⟩ | exact ⟨c2, c3, c4⟩ | exact KEEPS.out _ _ ⟨q3, q4, q5⟩ | go_keep)
                      clear hK K
                      (try simp only [Act.put, List.setIfInBounds_toArray, List.set_cons_zero, List.set_cons_succ])
                      refine wpAnyH_take (i := 21) (oi := ?_) (v := ?_) ?_ (by kernel_rfl) (by kernel_rfl) (by kernel_rfl) (fun _ _ _ h => h) ?_ (by assumption) ?_
                      rotate_left 2
                      · simp only [List.getElem?_toArray, List.getElem?_cons_succ, List.getElem?_cons_zero]; with_reducible rfl
                      · refine Or.inl ⟨by rfl, ?_⟩; intro w hSw; (try dsimp only at hSw); go_simp; (try with_reducible rfl)
                      (try simp only [Act.put, List.setIfInBounds_toArray, List.set_cons_zero, List.set_cons_succ])
                      refine wpAnyH_take (i := 22) (oi := ?_) (v := ?_) ?_ (by kernel_rfl) (by kernel_rfl) (by kernel_rfl) (fun _ _ _ h => h) ?_ (by assumption) ?_
                      rotate_left 2
                      · simp only [List.getElem?_toArray, List.getElem?_cons_succ, List.getElem?_cons_zero]; with_reducible rfl
                      · refine Or.inl ⟨by rfl, ?_⟩; intro w hSw; (try dsimp only at hSw); go_simp; (try with_reducible rfl)
                      (try simp only [Act.put, List.setIfInBounds_toArray, List.set_cons_zero, List.set_cons_succ])
                      refine wpAnyH_ready (rs := [23]) (by kernel_rfl) (by simp) ?_
                      refine AllReadyH.cons (o := ?_) ?_ (fun K hK => ?_) ?_
                      rotate_left 1
                      · simp only [List.getElem?_toArray, List.getElem?_cons_succ, List.getElem?_cons_zero]; with_reducible rfl
                      · go_simp
                        refine hK.out _ _ ?_ (fun hHeld => ?_)
                        · (try dsimp only); (first | exact ⟨q3, q4, q5⟩ | exact ⟨c2, c3, c4⟩ | exact KEEPS.out _ _ ⟨q3, q4, q5⟩ | go_keep)
                        clear hK K
                        (try simp only [Act.put, List.setIfInBounds_toArray, List.set_cons_zero, List.set_cons_succ])
                        refine wpAnyH_done (by kernel_rfl) ?_ _
                        refine NoPanic.normal ?_
                        (go_wp2_with fail; go_meet; exact G1.out)
                      exact AllReadyH.nil
                    exact AllReadyH.nil
                  exact AllReadyH.nil
                exact AllReadyH.nil
              refine AllReadyH.cons (o := ?_) ?_ (fun K hK => ?_) ?_
              rotate_left 1
              · simp only [List.getElem?_toArray, List.getElem?_cons_succ, List.getElem?_cons_zero]; with_reducible rfl
              · (go_simp; go_at_call 24; refine Calls.mono (HFL.out _ ?_) ?_; exact rfl; rintro e w1 ⟨rfl, rfl⟩)
                refine hK.out _ _ ?_ (fun hHeld => ?_)
                · (try dsimp only); (first | exact ⟨q3, q4, q5⟩ | exact ⟨c2, c3, c4⟩ | exact KEEPS.out _ _ ⟨q3, q4, q5⟩ | go_keep)
                clear hK K
                (try simp only [Act.put, List.setIfInBounds_toArray, List.set_cons_zero, List.set_cons_succ])
                refine wpAnyH_take (i := 18) (oi := ?_) (v := ?_) ?_ (by kernel_rfl) (by kernel_rfl) (by kernel_rfl) (fun _ _ _ h => h) ?_ (by assumption) ?_
                rotate_left 2
                · simp only [List.getElem?_toArray, List.getElem?_cons_succ, List.getElem?_cons_zero]; with_reducible rfl
                · refine Or.inl ⟨by rfl, ?_⟩; intro w hSw; (try dsimp only at hSw); go_simp; (try with_reducible rfl)
                (try simp only [Act.put, List.setIfInBounds_toArray, List.set_cons_zero, List.set_cons_succ])
                refine wpAnyH_ready (rs := [10, 19]) (by kernel_rfl) (by simp) ?_
                refine AllReadyH.cons (o := ?_) ?_ (fun K hK => ?_) ?_
                rotate_left 1
                · simp only [List.getElem?_toArray, List.getElem?_cons_succ, List.getElem?_cons_zero]; with_reducible rfl
                · go_simp
                  refine hK.out _ _ ?_ (fun hHeld => ?_)
                  · (try dsimp only); (first | exact ⟨q3, q4, q5⟩ | exact ⟨c2, c3, c4⟩ | exact KEEPS.out _ _ ⟨q3, q4, q5⟩ | go_keep)
                  clear hK K
                  (try simp only [Act.put, List.setIfInBounds_toArray, List.set_cons_zero, List.set_cons_succ])
                  refine wpAnyH_ready (rs := [19]) (by kernel_rfl) (by simp) ?_
                  refine AllReadyH.cons (o := ?_) ?_ (fun K hK => ?_) ?_
                  rotate_left 1
                  · simp only [List.getElem?_toArray, List.getElem?_cons_succ, List.getElem?_cons_zero]; with_reducible rfl
                  · go_simp
                    refine hK.out _ _ ?_ (fun hHeld => ?_)
                    · (try dsimp only); (first | exact ⟨q3, q4, q5⟩ | exact ⟨c2, c3, c4⟩ | exact KEEPS.out _ _ ⟨q3, q4, q5⟩ | go_keep)
                    clear hK K
                    (try simp only [Act.put, List.setIfInBounds_toArray, List.set_cons_zero, List.set_cons_succ])
                    refine wpAnyH_ready (rs := [20]) (by kernel_rfl) (by simp) ?_
                    refine AllReadyH.cons (o := ?_) ?_ (fun K hK => ?_) ?_
                    rotate_left 1
                    · simp only [List.getElem?_toArray, List.getElem?_cons_succ, List.getElem?_cons_zero]; with_reducible rfl
                    · (refine step_append_where rfl (.tmp 116) (.tmp 125) 98 rfl (w.heap.size + 3 + n) 107 i1 _ 11 88 Try.underlying98 hi hz0 hz1 hz2 rfl eleven_pos vp m xs rfl (HO.out.alloc _) ⟨wx.heap.size, 0, none⟩ 1 1 [.nilIface, .int .i32 0, nv, .int .i32 0, .nilIface, .int .i32 0, .int .i32 0, .int .i32 0, .bool false, .bool (decide (j < sn) && S j), .bool false] rfl rfl N1.out N2.out N3 N4 N5 one_pos ?_; intro v1 w1 g1 g2 g3; obtain ⟨q1, q2, q3, q4, q5⟩ := NB.out _ w1 g2 rfl; obtain ⟨gg, cc, rfl, gge⟩ := own_form g1 (Nat.succ_pos _); have G1 := FIN.out _ _ _ g2 rfl rfl rfl rfl g1 g3; have G1 := Lib.hid G1; clear g1 g2 g3)
                      refine hK.out _ _ ?_ (fun hHeld => ?_)
                      · (try dsimp only); (first | exact ⟨q3, q4, q5⟩ | exact ⟨c2, c3, c4⟩ | exact KEEPS.out _ _ ⟨q3, q4, q5⟩ | go_keep)
                      clear hK K
                      (try simp only [Act.put, List.setIfInBounds_toArray, List.set_cons_zero, List.set_cons_succ])
                      refine wpAnyH_take (i := 21) (oi := ?_) (v := ?_) ?_ (by kernel_rfl) (by kernel_rfl) (by kernel_rfl) (fun _ _ _ h => h) ?_ (by assumption) ?_
                      rotate_left 2
                      · simp only [List.getElem?_toArray, List.getElem?_cons_succ, List.getElem?_cons_zero]; with_reducible rfl
                      · refine Or.inl ⟨by rfl, ?_⟩; intro w hSw; (try dsimp only at hSw); go_simp; (try with_reducible rfl)
                      (try simp only [Act.put, List.setIfInBounds_toArray, List.set_cons_zero, List.set_cons_succ])
                      refine wpAnyH_take (i := 22) (oi := ?_) (v := ?_) ?_ (by kernel_rfl) (by kernel_rfl) (by kernel_rfl) (fun _ _ _ h => h) ?_ (by assumption) ?_
                      rotate_left 2
                      · simp only [List.getElem?_toArray, List.getElem?_cons_succ, List.getElem?_cons_zero]; with_reducible rfl
                      · refine Or.inl ⟨by rfl, ?_⟩; intro w hSw; (try dsimp only at hSw); go_simp; (try with_reducible rfl)
                      (try simp only [Act.put, List.setIfInBounds_toArray, List.set_cons_zero, List.set_cons_succ])
                      refine wpAnyH_ready (rs := [23]) (by kernel_rfl) (by simp) ?_
                      refine AllReadyH.cons (o := ?_) ?_ (fun K hK => ?_) ?_
                      rotate_left 1
                      · simp only [List.getElem?_toArray, List.getElem?_cons_succ, List.getElem?_cons_zero]; with_reducible rfl
                      · go_simp
                        refine hK.out _ _ ?_ (fun hHeld => ?_)
                        · (try dsimp only); (first | exact ⟨q3, q4, q5⟩ | exact ⟨c2, c3, c4⟩ | exact KEEPS.out _ _ ⟨q3, q4, q5⟩ | go_keep)
                        clear hK K
                        (try simp only [Act.put, List.setIfInBounds_toArray, List.set_cons_zero, List.set_cons_succ])
                        refine wpAnyH_done (by kernel_rfl) ?_ _
                        refine NoPanic.normal ?_
                        (go_wp2_with fail; go_meet; exact G1.out)
                      exact AllReadyH.nil
                    exact AllReadyH.nil
                  exact AllReadyH.nil
                refine AllReadyH.cons (o := ?_) ?_ (fun K hK => ?_) ?_
                rotate_left 1
                · simp only [List.getElem?_toArray, List.getElem?_cons_succ, List.getElem?_cons_zero]; with_reducible rfl
                · go_simp
                  refine hK.out _ _ ?_ (fun hHeld => ?_)
                  · (try dsimp only); (first | exact ⟨q3, q4, q5⟩ | exact ⟨c2, c3, c4⟩ | exact KEEPS.out _ _ ⟨q3, q4, q5⟩ | go_keep)
                  clear hK K
                  (try simp only [Act.put, List.setIfInBounds_toArray, List.set_cons_zero, List.set_cons_succ])
                  refine wpAnyH_ready (rs := [10]) (by kernel_rfl) (by simp) ?_
                  refine AllReadyH.cons (o := ?_) ?_ (fun K hK => ?_) ?_
                  rotate_left 1
                  · simp only [List.getElem?_toArray, List.getElem?_cons_succ, List.getElem?_cons_zero]; with_reducible rfl
                  · go_simp
                    refine hK.out _ _ ?_ (fun hHeld => ?_)
                    · (try dsimp only); (first | exact ⟨q3, q4, q5⟩ | exact ⟨c2, c3, c4⟩ | exact KEEPS.out _ _ ⟨q3, q4, q5⟩ | go_keep)
                    clear hK K
                    (try simp only [Act.put, List.setIfInBounds_toArray, List.set_cons_zero, List.set_cons_succ])
                    refine wpAnyH_ready (rs := [20]) (by kernel_rfl) (by simp) ?_
                    refine AllReadyH.cons (o := ?_) ?_ (fun K hK => ?_) ?_
                    rotate_left 1
                    · simp only [List.getElem?_toArray, List.getElem?_cons_succ, List.getElem?_cons_zero]; with_reducible rfl
                    · (refine step_append_where rfl (.tmp 116) (.tmp 125) 98 rfl (w.heap.size + 3 + n) 107 i1 _ 11 88 Try.underlying98 hi hz0 hz1 hz2 rfl eleven_pos vp m xs rfl (HO.out.alloc _) ⟨wx.heap.size, 0, none⟩ 1 1 [.nilIface, .int .i32 0, nv, .int .i32 0, .nilIface, .int .i32 0, .int .i32 0, .int .i32 0, .bool false, .bool (decide (j < sn) && S j), .bool false] rfl rfl N1.out N2.out N3 N4 N5 one_pos ?_; intro v1 w1 g1 g2 g3; obtain ⟨q1, q2, q3, q4, q5⟩ := NB.out _ w1 g2 rfl; obtain ⟨gg, cc, rfl, gge⟩ := own_form g1 (Nat.succ_pos _); have G1 := FIN.out _ _ _ g2 rfl rfl rfl rfl g1 g3; have G1 := Lib.hid G1; clear g1 g2 g3)
                      refine hK.out _ _ ?_ (fun hHeld => ?_)
                      · (try dsimp only); (first | exact ⟨q3, q4, q5⟩ | exact ⟨c2, c3, c4⟩ | exact KEEPS.out _ _ ⟨q3, q4, q5⟩ | go_keep)
                      clear hK K
                      (try simp only [Act.put, List.setIfInBounds_toArray, List.set_cons_zero, List.set_cons_succ])
                      refine wpAnyH_take (i := 21) (oi := ?_) (v := ?_) ?_ (by kernel_rfl) (by kernel_rfl) (by kernel_rfl) (fun _ _ _ h => h) ?_ (by assumption) ?_
                      rotate_left 2
                      · simp only [List.getElem?_toArray, List.getElem?_cons_succ, List.getElem?_cons_zero]; with_reducible rfl
                      · refine Or.inl ⟨by rfl, ?_⟩; intro w hSw; (try dsimp only at hSw); go_simp; (try with_reducible rfl)
                      (try simp only [Act.put, List.setIfInBounds_toArray, List.set_cons_zero, List.set_cons_succ])
                      refine wpAnyH_take (i := 22) (oi := ?_) (v := ?_) ?_ (by kernel_rfl) (by kernel_rfl) (by kernel_rfl) (fun _ _ _ h => h) ?_ (by assumption) ?_
                      rotate_left 2
                      · simp only [List.getElem?_toArray, List.getElem?_cons_succ, List.getElem?_cons_zero]; with_reducible rfl
                      · refine Or.inl ⟨by rfl, ?_⟩; intro w hSw; (try dsimp only at hSw); go_simp; (try with_reducible rfl)
                      (try simp only [Act.put, List.setIfInBounds_toArray, List.set_cons_zero, List.set_cons_succ])
                      refine wpAnyH_ready (rs := [23]) (by kernel_rfl) (by simp) ?_
                      refine AllReadyH.cons (o := ?_) ?_ (fun K hK => ?_) ?_
                      rotate_left 1
                      · simp only [List.getElem?_toArray, List.getElem?_cons_succ, List.getElem?_cons_zero]; with_reducible rfl
                      · go_simp
                        refine hK.out _ _ ?_ (fun hHeld => ?_)
                        · (try dsimp only); (first | exact ⟨q3, q4, q5⟩ | exact ⟨c2, c3, c4⟩ | exact KEEPS.out _ _ ⟨q3, q4, q5⟩ | go_keep)
                        clear hK K
                        (try simp only [Act.put, List.setIfInBounds_toArray, List.set_cons_zero, List.set_cons_succ])
                        refine wpAnyH_done (by kernel_rfl) ?_ _
                        refine NoPanic.normal ?_
                        (go_wp2_with fail; go_meet; exact G1.out)
                      exact AllReadyH.nil
                    exact AllReadyH.nil
                  exact AllReadyH.nil
                exact AllReadyH.nil
              exact AllReadyH.nil
        case rest =>
          obtain ⟨V', hgg, hbb⟩ := hcut
          have HGG := Lib.hid hgg
          have HBB := Lib.hid hbb
          clear hgg hbb
          go_wp2_with fail
          go_roundw
          case rel => exact ⟨j + 1, V', by omega, by go_num, HGG.out, HBB.out⟩
          case measure => simp [intOf]; omega
      · go_wp2_with fail
        go_ret
        have hkn' : j = n := by omega
        subst hkn'
        exact ⟨V, rfl, HG.out, HB2.out⟩
end Go.Proofs.Ytoeaockleddngaa
