/- zzExprModel: the forward pass answers what the search from the root answers. -/
import Derived.Test.YtoeaockleddngaaE1
import Derived.Test.YtoeaockleddngaaWB
namespace Go.Proofs.Ytoeaockleddngaa
open Go Go.RowKit
set_option maxRecDepth 100000
set_option linter.unusedVariables false

def liveV (K : Nat → Nat) (par : Nat → Int) (slot : Nat → Nat) (k j : Nat) : Value := .bool (Ex.lives K par slot k j)
theorem live_same {K : Nat → Nat} {par : Nat → Int} {slot : Nat → Nat} {wr : World} {b n k : Nat} (h : wr.rowIs b 4 n (liveV K par slot k)) (hc : ¬ (0 < k ∧ 0 ≤ par k ∧ Ex.lives K par slot k (par k).toNat = true ∧ Ex.lv K slot (par k).toNat k = true)) :
    wr.rowIs b 4 n (liveV K par slot (k + 1)) :=
  h.congr fun j _ => by unfold liveV; rw [Ex.lives_succ, if_neg hc]
theorem live_set {K : Nat → Nat} {par : Nat → Int} {slot : Nat → Nat} {wr : World} {b n k : Nat} (h : wr.rowIs b 4 n (liveV K par slot k)) (hc : 0 < k ∧ 0 ≤ par k ∧ Ex.lives K par slot k (par k).toNat = true ∧ Ex.lv K slot (par k).toNat k = true) :
    (wr.setCell ⟨b, k, none⟩ (.bool true)).rowIs b 4 n (liveV K par slot (k + 1)) :=
  (h.set k _).congr fun j _ => by
    unfold liveV
    rw [Ex.lives_succ, if_pos hc]
    unfold Fo.upd
    by_cases e : j = k <;> simp [e]
/-- What the forward pass answers. -/
def ModelE (b : Bool) (W : World) (e : Ending) (w' : World) : Prop := e = .returned (.bool b) ∧ Below W.heap.size W w'

set_option maxHeartbeats 1000000 in
theorem emodel_any (ka sa : Option Addr) (n kc pb pc qb qc sn sc : Nat) (K : Nat → Nat) (par : Nat → Int) (slot : Nat → Nat) (S : Nat → Bool) (w : World) (hn : n ≤ 65536) (hsn : sn ≤ 65536) (hK : ∀ j, K j ≤ 255)
    (hpar : Ex.Par K n par slot) (hk : Arr w ka n fun j => .int .u8 (K j)) (hp : w.rowIs pb 3 n fun j => .int .i64 (par j)) (hq : w.rowIs qb 3 n fun j => .int .i64 (slot j : Int)) (hs : Arr w sa sn fun j => .bool (S j)) :
    Calls Try.prog 34 #[.slice ka n kc, .slice (some ⟨pb, 0, none⟩) n pc, .slice (some ⟨qb, 0, none⟩) n qc, .slice sa sn sc] w (ModelE (Ex.er K par slot (fOf sn S) n 0) w) := by
  by_cases hn0 : n = 0
  · subst hn0
    clear hk hp hq hs
    have he : Ex.er K par slot (fOf sn S) 0 0 = false := rfl
    rw [he]
    clear he
    go_enter Try.func34, Try.ntmps34
    go_wp2
    go_ret
    exact ⟨rfl, Below.refl _ _⟩
  · have hpos : 0 < n := by omega
    have hne : ((n : Int) == 0) = false := by simp; omega
    have HK := Lib.hid hk
    have HP := Lib.hid hp
    have HQ := Lib.hid hq
    have HS := Lib.hid hs
    have HK2 := Lib.hid hK
    have HPAR := Lib.hid hpar
    clear hk hp hK hs hpar hq hn0
    have hmk := run_make_row' (P := Try.prog) 25 4 (.bool false) 1 Try.underlying25 info4 rfl .i64 .i64 n (by omega) (by omega)
    obtain ⟨RES, HRES⟩ : ∃ r, Hid (r = Ex.er K par slot (fOf sn S) n 0) := ⟨_, Lib.hid rfl⟩
    rw [← HRES.out]
    have HROW0 := Lib.hid (World.rowIs_made w (.bool false) n 4)
    have c0 := HROW0.out.cell hpos
    have f0 := HROW0.out.frozen 0
    go_enter Try.func34, Try.ntmps34
    go_wp2
    clear hmk c0 f0
    go_loopw [11] (fun iv wr => ∃ k : Nat, 0 < k ∧ k ≤ n ∧ iv = .int .i64 k ∧ wr.rowIs w.heap.size 4 n (liveV K par slot k) ∧ ¬ Ex.Found K par slot (fOf sn S) k ∧ Below w.heap.size w wr)
      (fun iv _ => n - (intOf iv).toNat)
    case atStart =>
      refine ⟨1, by omega, by omega, rfl, ?_, ?_, ?_⟩
      · have hsz : ((madeCells #[Value.bool false] n).setIfInBounds 0 (.bool true)).size = n := by rw [Array.size_setIfInBounds, size_madeCells]
        have h := World.rowIs_alloc w ((madeCells #[Value.bool false] n).setIfInBounds 0 (.bool true)) 4 (liveV K par slot 1) (fun j hj => by
          rw [hsz] at hj
          unfold liveV
          rw [Ex.lives_succ, if_neg (by omega)]
          by_cases e : j = 0
          · subst e; simp [madeCells, hj, Ex.lives]
          · have e' : ¬ 0 = j := fun h => e h.symm
            have e2 : (j == 0) = false := by simp [e]
            have e3 : j % 1 = 0 := Nat.mod_one j
            simp [madeCells, e', hj, Ex.lives, e2, e3])
        rw [hsz] at h
        exact h
      · rintro ⟨j, p, h1, h2, h3⟩
        have : j = 0 := by omega
        subst this
        rcases HPAR.out.node 0 hpos with ⟨_, h4⟩ | ⟨h4, _⟩ | ⟨q, h4, _⟩ <;> omega
      · go_grown
    case round =>
      obtain ⟨k, hk0, hkn, rfl, hrow, hnf, hbel⟩ := hrel
      have HR := Lib.hid hrow
      have HN := Lib.hid hnf
      have HB := Lib.hid hbel
      clear hrow hnf hbel
      by_cases hlt : k < n
      · have hpc : wr.cell? ⟨pb, k, none⟩ = some (.int .i64 (par k)) := (HB.out.cell (p := ⟨pb, k, none⟩) HP.out.lt).trans (HP.out.cell hlt)
        have hqc : wr.cell? ⟨qb, k, none⟩ = some (.int .i64 (slot k : Int)) := (HB.out.cell (p := ⟨qb, k, none⟩) HQ.out.lt).trans (HQ.out.cell hlt)
        have hcell := HR.out.cell hlt
        have hfr := HR.out.frozen k
        unfold liveV at hcell
        have hlr := HR.out.lt
        have hpbl := HP.out.lt
        have hqbl := HQ.out.lt
        have hNS : (∀ p : Nat, par k = (p : Int) → ¬ (Ex.live K par slot p = true ∧ K p % 5 = 2 ∧ fOf sn S k = true)) → ¬ Ex.Found K par slot (fOf sn S) (k + 1) := by
          rintro h ⟨j, p, h1, h2, h3⟩
          by_cases e : j = k
          · subst e; exact h p h2 h3
          · exact HN.out ⟨j, p, by omega, h2, h3⟩
        have HNS := Lib.hid hNS
        clear hNS
        rcases HPAR.out.node k hlt with ⟨h1, _⟩ | ⟨_, h1⟩ | ⟨p, h1, h2, h3, _⟩
        · omega
        · have HR' := Lib.hid (live_same HR.out (by omega))
          have HN' := Lib.hid (HNS.out fun p hp => by omega)
          rw [h1] at hpc
          clear h1
          go_wp2
          go_roundw
          case rel => exact ⟨k + 1, by omega, by omega, by go_num, HR'.out, HN'.out, HB.out⟩
          case measure => simp [intOf]; omega
        · rw [h2] at hpc
          have htn : (par k).toNat = p := by omega
          have hge : 0 ≤ par k := by omega
          have hlp : Ex.lives K par slot k p = Ex.live K par slot p := Ex.lives_set p k h1
          have hcp := HR.out.cell (i := p) (by omega)
          unfold liveV at hcp
          rw [hlp] at hcp
          obtain ⟨kb, ko, rfl, hkc⟩ := HK.out p (by omega)
          have hkc' : wr.cell? ⟨kb, ko + p, none⟩ = some (.int .u8 (K p)) := (HB.out.cell (p := ⟨kb, ko + p, none⟩) (World.block_lt_of_cell? w _ hkc)).trans hkc
          have hkr := HK2.out p
          have hkb : kb < w.heap.size := World.block_lt_of_cell? w _ hkc
          have HCOND : Hid ((Ex.live K par slot p = true ∧ Ex.lv K slot p k = true) ↔ (0 < k ∧ 0 ≤ par k ∧ Ex.lives K par slot k (par k).toNat = true ∧ Ex.lv K slot (par k).toNat k = true)) := by
            rw [htn, hlp]; exact Lib.hid ⟨fun h => ⟨hk0, hge, h.1, h.2⟩, fun h => ⟨h.2.2.1, h.2.2.2⟩⟩
          have HPK := Lib.hid h2
          have HFL : Hid (Calls Try.prog 24 #[.slice sa sn sc, .int .i64 k] wr fun e w' => e = .returned (.bool (fOf sn S k)) ∧ wr = w') := Lib.hid (flag_any sa sn sc S k wr (by omega) (by omega) (HS.out.below HB.out (Nat.le_refl _)))
          clear hkc htn hge hlp h2
          obtain ⟨lp, hlpv⟩ : ∃ lp, Ex.live K par slot p = lp := ⟨_, rfl⟩
          rw [hlpv] at hcp
          have HLP := Lib.hid hlpv
          clear hlpv
          cases lp with
          | false =>
            have HR' := Lib.hid (live_same HR.out (fun h => by have := (HCOND.out.2 h).1; rw [HLP.out] at this; cases this))
            have HN' := Lib.hid (HNS.out fun p' hp' h => by
              have : p' = p := by have := HPK.out; omega
              subst this
              rw [HLP.out] at h; cases h.1)
            go_wp2
            go_roundw
            case rel => exact ⟨k + 1, by omega, by omega, by go_num, HR'.out, HN'.out, HB.out⟩
            case measure => simp [intOf]; omega
          | true =>
            have hset : Ex.lv K slot p k = true → (wr.setCell ⟨w.heap.size, k, none⟩ (.bool true)).rowIs w.heap.size 4 n (liveV K par slot (k + 1)) := fun h => live_set HR.out (HCOND.out.1 ⟨HLP.out, h⟩)
            have hkeep : Ex.lv K slot p k = false → wr.rowIs w.heap.size 4 n (liveV K par slot (k + 1)) := fun h => live_same HR.out (fun h2 => by rw [(HCOND.out.2 h2).2] at h; cases h)
            have HSET := Lib.hid hset
            have HKEEP := Lib.hid hkeep
            have HBS := Lib.hid (HB.out.setCell (p := ⟨w.heap.size, k, none⟩) (Nat.le_refl _) (.bool true))
            have hnf2 : ¬ K p % 5 = 2 → ¬ Ex.Found K par slot (fOf sn S) (k + 1) := fun hne2 => HNS.out fun p' hp' h => by
              have : p' = p := by have := HPK.out; omega
              subst this
              exact hne2 h.2.1
            have HNF2 := Lib.hid hnf2
            clear hset hkeep hnf2
            have hlv : Ex.lv K slot p k = (K p % 5 == 1 || K p % 5 == 2 || (K p % 5 == 3 && slot k == 0)) := rfl
            have HLV := Lib.hid hlv
            clear hlv
            have hcases : K p % 5 = 1 ∨ K p % 5 = 2 ∨ K p % 5 = 3 ∨ K p % 5 = 4 := by omega
            rcases hcases with hm | hm | hm | hm
            · have t2 : ((K p : Int) % 5 == 2) = false := by simp; omega
              have t1 : ((K p : Int) % 5 == 1) = true := by simp; omega
              have HR' := Lib.hid (HSET.out (by rw [HLV.out, hm]; rfl))
              have HN' := Lib.hid (HNF2.out (by omega))
              clear hm h3
              go_wp2
              go_roundw
              case rel => exact ⟨k + 1, by omega, by omega, by go_num, HR'.out, HN'.out, HBS.out⟩
              case measure => simp [intOf]; omega
            · have t2 : ((K p : Int) % 5 == 2) = true := by simp; omega
              have t1 : ((K p : Int) % 5 == 1) = false := by simp; omega
              have HM := Lib.hid hm
              clear hm h3
              cases hf : fOf sn S k with
              | true =>
                have HF := Lib.hid hf
                clear hf
                go_wp2_with (first | (go_at_call 24; refine HFL.out.mono ?_; rw [HF.out]; rintro ee w1 ⟨rfl, rfl⟩))
                go_ret
                have hr : RES = true := by
                  rw [HRES.out, Ex.er_found HPAR.out]
                  exact ⟨k, p, hlt, HPK.out, HLP.out, HM.out, HF.out⟩
                rw [hr]
                exact ⟨rfl, HB.out⟩
              | false =>
                have HF := Lib.hid hf
                clear hf
                have HR' := Lib.hid (HSET.out (by rw [HLV.out, HM.out]; rfl))
                have HN' := Lib.hid (HNS.out fun p' hp' h => by rw [HF.out] at h; cases h.2.2)
                go_wp2_with (first | (go_at_call 24; refine HFL.out.mono ?_; rw [HF.out]; rintro ee w1 ⟨rfl, rfl⟩))
                go_roundw
                case rel => exact ⟨k + 1, by omega, by omega, by go_num, HR'.out, HN'.out, HBS.out⟩
                case measure => simp [intOf]; omega
            · have t2 : ((K p : Int) % 5 == 2) = false := by simp; omega
              have t1 : ((K p : Int) % 5 == 1) = false := by simp; omega
              have t3 : ((K p : Int) % 5 == 3) = true := by simp; omega
              have HN' := Lib.hid (HNF2.out (by omega))
              by_cases hs0 : slot k = 0
              · have s0 : ((slot k : Int) == 0) = true := by simp; omega
                have HR' := Lib.hid (HSET.out (by rw [HLV.out, hm, hs0]; rfl))
                clear hm h3 hs0
                go_wp2
                go_roundw
                case rel => exact ⟨k + 1, by omega, by omega, by go_num, HR'.out, HN'.out, HBS.out⟩
                case measure => simp [intOf]; omega
              · have s0 : ((slot k : Int) == 0) = false := by simp; omega
                have HR' := Lib.hid (HKEEP.out (by rw [HLV.out, hm]; simp; exact hs0))
                clear hm h3 hs0
                go_wp2
                go_roundw
                case rel => exact ⟨k + 1, by omega, by omega, by go_num, HR'.out, HN'.out, HB.out⟩
                case measure => simp [intOf]; omega
            · have t2 : ((K p : Int) % 5 == 2) = false := by simp; omega
              have t1 : ((K p : Int) % 5 == 1) = false := by simp; omega
              have t3 : ((K p : Int) % 5 == 3) = false := by simp; omega
              have HN' := Lib.hid (HNF2.out (by omega))
              have HR' := Lib.hid (HKEEP.out (by rw [HLV.out, hm]; rfl))
              clear hm h3
              go_wp2
              go_roundw
              case rel => exact ⟨k + 1, by omega, by omega, by go_num, HR'.out, HN'.out, HB.out⟩
              case measure => simp [intOf]; omega
      · go_wp2_with fail
        go_ret
        have hkn' : k = n := by omega
        subst hkn'
        have hr : RES = false := by
          cases e : RES with
          | false => rfl
          | true =>
            rw [HRES.out, Ex.er_found HPAR.out] at e
            exact absurd e HN.out
        rw [hr]
        exact ⟨rfl, HB.out⟩
end Go.Proofs.Ytoeaockleddngaa
