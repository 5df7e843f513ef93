import Derived.Test.YtoeaockleddngaaW2
namespace Go.Proofs.Ytoeaockleddngaa
open Go Go.RowKit
set_option maxRecDepth 100000
set_option linter.unusedVariables false

theorem info4 : (Try.prog.info? 4).map (fun i => (i.zero, i.size, i.bytes)) = some (some (.bool false), 1, 1) := by kernel_rfl
def ownV (s : Fo.Rs) (j : Nat) : Value := .int .i64 (s.own j)
def restV (s : Fo.Rs) (j : Nat) : Value := .bool (s.rest j)
theorem own_upd {wr : World} {b n : Nat} (s : Fo.Rs) (k : Nat) (v : Int) (r : Nat → Bool) (h : wr.rowIs b 3 n (ownV s)) : (wr.setCell ⟨b, k, none⟩ (.int .i64 v)).rowIs b 3 n (ownV ⟨Fo.upd s.own k v, r⟩) :=
  (h.set k _).congr fun j _ => by
    unfold ownV Fo.upd
    by_cases e : j = k
    · simp [e]
    · simp [e]
theorem rest_upd {wr : World} {b n : Nat} (s : Fo.Rs) (k : Nat) (v : Bool) (o : Nat → Int) (h : wr.rowIs b 4 n (restV s)) : (wr.setCell ⟨b, k, none⟩ (.bool v)).rowIs b 4 n (restV ⟨o, Fo.upd s.rest k v⟩) :=
  (h.set k _).congr fun j _ => by
    unfold restV Fo.upd
    by_cases e : j = k
    · simp [e]
    · simp [e]

theorem rest_any (ka sa : Option Addr) (n kc pb pc sn sc : Nat) (K : Nat → Nat) (par : Nat → Int) (S : Nat → Bool) (w : World) (hn : n ≤ 65536) (hsn : sn ≤ 65536) (hK : ∀ j, K j ≤ 255)
    (hpar : Fo.Par K n par) (hk : Arr w ka n fun j => .int .u8 (K j)) (hp : w.rowIs pb 3 n fun j => .int .i64 (par j)) (hs : Arr w sa sn fun j => .bool (S j)) :
    Calls Try.prog 23 #[.slice ka n kc, .slice (some ⟨pb, 0, none⟩) n pc, .slice sa sn sc] w fun e w' => ∃ b s, e = .returned (.slice (some ⟨b, 0, none⟩) n n) ∧ s = Fo.rs K par (fun j => decide (j < sn) && S j) n ∧ w.heap.size ≤ b ∧ w'.rowIs b 4 n (restV s) ∧ Below w.heap.size w w' := by
  have HK := Lib.hid hk
  have HP := Lib.hid hp
  have HS := Lib.hid hs
  have HK2 := Lib.hid hK
  have HQ := Lib.hid hpar
  clear hk hp hK hs hpar
  have hmk := run_make_row' (P := Try.prog) 33 3 (.int .i64 0) 8 Try.underlying33 info3 rfl .i64 .i64 n (by omega) (by omega)
  have hmk2 := run_make_row' (P := Try.prog) 25 4 (.bool false) 1 Try.underlying25 info4 rfl .i64 .i64 n (by omega) (by omega)
  go_enter Try.func23, Try.ntmps23
  go_wp2
  clear hmk hmk2
  go_loopw [10] (fun iv wr => ∃ (k : Nat) (s : Fo.Rs), k ≤ n ∧ iv = .int .i64 k ∧ s = Fo.rs K par (fun j => decide (j < sn) && S j) k ∧ wr.rowIs w.heap.size 3 n (ownV s) ∧
      wr.rowIs (w.heap.size + 1) 4 n (restV s) ∧ Below w.heap.size w wr)
    (fun iv _ => n - (intOf iv).toNat)
  case atStart =>
    refine ⟨0, _, by omega, rfl, rfl, ?_, ?_, ?_⟩
    · exact (World.rowIs_made _ _ _ _).alloc _
    · have := World.rowIs_made (w.alloc (.cells (madeCells #[.int .i64 0] n) 3)) (.bool false) n 4
      simpa using this.congr (g := restV (Fo.rs K par (fun j => decide (j < sn) && S j) 0)) (fun _ _ => rfl)
    · go_grown
  case round =>
    obtain ⟨k, s, hkn, rfl, hs, hown, hrest, hbel⟩ := hrel
    have HSS := Lib.hid hs
    have HO := Lib.hid hown
    have HR := Lib.hid hrest
    have HB := Lib.hid hbel
    clear hs hown hrest hbel
    by_cases hlt : k < n
    · have hpc : wr.cell? ⟨pb, k, none⟩ = some (.int .i64 (par k)) := (HB.out.cell (p := ⟨pb, k, none⟩) HP.out.lt).trans (HP.out.cell hlt)
      have hcell := HO.out.cell hlt
      have hfr := HO.out.frozen k
      unfold ownV at hcell
      have hstep : ∀ s' : Fo.Rs, s' = Fo.rsStep K par (fun j => decide (j < sn) && S j) s k → Hid (s' = Fo.rs K par (fun j => decide (j < sn) && S j) (k + 1)) := by
        intro s' hs'
        show s' = Fo.rsStep _ _ _ (Fo.rs K par (fun j => decide (j < sn) && S j) k) k
        rw [← HSS.out]; exact hs'
      have HST := Lib.hid hstep
      clear hstep
      rcases HQ.out k hlt with h1 | h1 | ⟨p, h1, h2, h3, h4⟩
      · have HS' := HST.out ⟨Fo.upd s.own k (k : Int), s.rest⟩ (by unfold Fo.rsStep; rw [if_pos h1])
        rw [h1] at hpc
        clear HST h1
        go_wp2
        go_roundw
        case rel =>
          exact ⟨k + 1, ⟨Fo.upd s.own k (k : Int), s.rest⟩, by omega, by go_num, HS'.out, own_upd s k _ _ HO.out, HR.out.setOther (by simp) _, HB.out.setCell (p := ⟨w.heap.size, k, none⟩) (Nat.le_refl _) _⟩
        case measure => simp [intOf]; omega
      · have HS' := HST.out ⟨Fo.upd s.own k (-1), s.rest⟩ (by unfold Fo.rsStep; rw [if_neg (by omega), if_pos (by omega)])
        rw [h1] at hpc
        clear HST h1
        go_wp2
        go_roundw
        case rel =>
          exact ⟨k + 1, ⟨Fo.upd s.own k (-1), s.rest⟩, by omega, by go_num, HS'.out, own_upd s k _ _ HO.out, HR.out.setOther (by simp) _, HB.out.setCell (p := ⟨w.heap.size, k, none⟩) (Nat.le_refl _) _⟩
        case measure => simp [intOf]; omega
      · rw [h2] at hpc
        obtain ⟨r, hr1, hr2, hr3⟩ := Fo.ow_range (S := fun j => decide (j < sn) && S j) HQ.out p (by omega) h4
        have hop : s.own p = (r : Int) := by rw [HSS.out, Fo.rs_own p k h1]; exact hr2
        have hoc := HO.out.cell (i := p) (by omega)
        unfold ownV at hoc
        rw [hop] at hoc
        have hrc := HR.out.cell (i := r) (by omega)
        have hrf := HR.out.frozen r
        unfold restV at hrc
        obtain ⟨kb, ko, rfl, hkc⟩ := HK.out p (by omega)
        have hkc' : wr.cell? ⟨kb, ko + p, none⟩ = some (.int .u8 (K p)) := (HB.out.cell (p := ⟨kb, ko + p, none⟩) (World.block_lt_of_cell? w _ hkc)).trans hkc
        have hkr := HK2.out p
        have hkb : kb < w.heap.size := World.block_lt_of_cell? w _ hkc
        have htn : (par k).toNat = p := by omega
        have hss : Fo.rsStep K par (fun j => decide (j < sn) && S j) s k = if K p % 3 = 2 ∧ (decide (k < sn) && S k) = true then ⟨Fo.upd s.own k (r : Int), Fo.upd s.rest r true⟩ else ⟨Fo.upd s.own k (r : Int), s.rest⟩ := by
          unfold Fo.rsStep
          rw [if_neg (by omega), if_neg (by omega), htn, hop]
          simp only [Int.toNat_natCast]
        have HSTP := Lib.hid hss
        clear hss hop hr2 hr3 htn h2 h3 h4 hkc
        have hbs : ∀ W, W = wr.setCell ⟨w.heap.size, k, none⟩ (.int .i64 (r : Int)) → Arr W sa sn fun j => .bool (S j) := fun W hW => by
          rw [hW]; exact HS.out.below (HB.out.setCell (p := ⟨w.heap.size, k, none⟩) (Nat.le_refl _) _) (Nat.le_refl _)
        have HBS := Lib.hid hbs
        have own3 := Lib.hid (fun rr => own_upd s k (r : Int) rr HO.out)
        have rest3 := Lib.hid (HR.out.setOther (a := ⟨w.heap.size, k, none⟩) (by simp) (.int .i64 (r : Int)))
        have bel3 := Lib.hid (HB.out.setCell (p := ⟨w.heap.size, k, none⟩) (Nat.le_refl _) (.int .i64 (r : Int)))
        clear hbs
        by_cases hz : K p % 3 = 2
        · have hz' : ((K p : Int) % 3 == 2) = true := by simp; omega
          cases hf : (decide (k < sn) && S k) with
          | false =>
            have HS' := HST.out ⟨Fo.upd s.own k (r : Int), s.rest⟩ (by rw [HSTP.out, if_neg (by rw [hf]; simp)])
            have hf' := Lib.hid hf
            clear hf hz HST HSTP
            go_wp2_with (first
              | (go_at_call 24; refine (flag_any _ sn _ S k _ (by omega) (by omega) (HBS.out _ rfl)).mono ?_; rw [hf'.out]; rintro e w1 ⟨rfl, rfl⟩))
            go_roundw
            case rel => exact ⟨k + 1, _, by omega, by go_num, HS'.out, own3.out _, rest3.out, bel3.out⟩
            case measure => simp [intOf]; omega
          | true =>
            have HS' := HST.out ⟨Fo.upd s.own k (r : Int), Fo.upd s.rest r true⟩ (by rw [HSTP.out, if_pos ⟨hz, hf⟩])
            have hf' := Lib.hid hf
            clear hf hz HST HSTP
            go_wp2_with (first
              | (go_at_call 24; refine (flag_any _ sn _ S k _ (by omega) (by omega) (HBS.out _ rfl)).mono ?_; rw [hf'.out]; rintro e w1 ⟨rfl, rfl⟩))
            go_roundw
            case rel => exact ⟨k + 1, _, by omega, by go_num, HS'.out, (own3.out _).setOther (by simp) _, rest_upd ⟨_, _⟩ r true _ rest3.out, bel3.out.setCell (p := ⟨w.heap.size + 1, r, none⟩) (by simp) _⟩
            case measure => simp [intOf]; omega
        · have hz' : ((K p : Int) % 3 == 2) = false := by simp; omega
          have HS' := HST.out ⟨Fo.upd s.own k (r : Int), s.rest⟩ (by rw [HSTP.out, if_neg (by intro h; exact hz h.1)])
          clear hz HST HSTP
          go_wp2
          go_roundw
          case rel => exact ⟨k + 1, _, by omega, by go_num, HS'.out, own3.out _, rest3.out, bel3.out⟩
          case measure => simp [intOf]; omega
    · go_wp2_with fail
      go_ret
      have hkn' : k = n := by omega
      subst hkn'
      exact ⟨_, s, rfl, HSS.out, by omega, HR.out, HB.out⟩
end Go.Proofs.Ytoeaockleddngaa
