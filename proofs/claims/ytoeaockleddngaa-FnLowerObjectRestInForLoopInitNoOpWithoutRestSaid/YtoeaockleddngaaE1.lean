/- zzExprShape: the tree's shape as the code reckons it. -/
import Derived.Test.YtoeaockleddngaaEx
import Derived.Test.YtoeaockleddngaaW3
import Derived.Deep.Cut
import Derived.Deep.DeepCutAuto
namespace Go.Proofs.Ytoeaockleddngaa
open Go Go.RowKit
set_option maxRecDepth 100000
set_option linter.unusedVariables false

def eparV (s : Ex.Sh) (j : Nat) : Value := .int .i64 (s.par j)
def eslotV (s : Ex.Sh) (j : Nat) : Value := .int .i64 (s.slot j : Int)
def ecntV (s : Ex.Sh) (j : Nat) : Value := .int .i64 (s.cnt j : Int)
theorem epar_upd {wr : World} {b n : Nat} (s : Ex.Sh) (k : Nat) (v : Int) (sl ct : Nat → Nat) (h : wr.rowIs b 3 n (eparV s)) : (wr.setCell ⟨b, k, none⟩ (.int .i64 v)).rowIs b 3 n (eparV ⟨Fo.upd s.par k v, sl, ct⟩) :=
  (h.set k _).congr fun j _ => by
    unfold eparV Fo.upd
    by_cases e : j = k <;> simp [e]
theorem eslot_upd {wr : World} {b n : Nat} (s : Ex.Sh) (k v : Nat) (p : Nat → Int) (ct : Nat → Nat) (h : wr.rowIs b 3 n (eslotV s)) : (wr.setCell ⟨b, k, none⟩ (.int .i64 (v : Int))).rowIs b 3 n (eslotV ⟨p, Fo.upd s.slot k v, ct⟩) :=
  (h.set k _).congr fun j _ => by
    unfold eslotV Fo.upd
    by_cases e : j = k <;> simp [e]
theorem ecnt_upd {wr : World} {b n : Nat} (s : Ex.Sh) (k v : Nat) (p : Nat → Int) (sl : Nat → Nat) (h : wr.rowIs b 3 n (ecntV s)) : (wr.setCell ⟨b, k, none⟩ (.int .i64 (v : Int))).rowIs b 3 n (ecntV ⟨p, sl, Fo.upd s.cnt k v⟩) :=
  (h.set k _).congr fun j _ => by
    unfold ecntV Fo.upd
    by_cases e : j = k <;> simp [e]

theorem epk_wrap (q : Int) (k P : Nat) (hk : k ≤ 65536) (h0 : 0 < k) (hP : P = (q % 4294967296).toNat % k) : wrap64 (q % 4294967296 % (k : Int)) = (P : Int) := by
  have h1 : 0 ≤ q % 4294967296 := Int.emod_nonneg _ (by decide)
  obtain ⟨m, hm⟩ : ∃ m : Nat, q % 4294967296 = m := ⟨(q % 4294967296).toNat, by omega⟩
  rw [hm] at hP ⊢
  simp only [Int.toNat_natCast] at hP
  have hlt := Nat.mod_lt m h0
  rw [← Int.natCast_emod, ← hP]
  rw [← hP] at hlt
  unfold wrap64
  omega
set_option maxHeartbeats 1000000 in
theorem eshape_any (ka pa : Option Addr) (n kc pn pc : Nat) (K : Nat → Nat) (Q : Nat → Int) (w : World) (hn : n ≤ 65536) (hpn : pn ≤ 65536) (hK : ∀ j, K j ≤ 255) (hQ : ∀ j, -2147483648 ≤ Q j ∧ Q j ≤ 2147483647)
    (hk : Arr w ka n fun j => .int .u8 (K j)) (hp : Arr w pa pn fun j => .int .i32 (Q j)) :
    Calls Try.prog 32 #[.slice ka n kc, .slice pa pn pc] w fun e w' => e = .returned (.tuple #[.slice (some ⟨w.heap.size, 0, none⟩) n n, .slice (some ⟨w.heap.size + 1, 0, none⟩) n n]) ∧
      w'.rowIs w.heap.size 3 n (eparV (Ex.sh K (fun j => if j < pn then Q j else 0) n)) ∧ w'.rowIs (w.heap.size + 1) 3 n (eslotV (Ex.sh K (fun j => if j < pn then Q j else 0) n)) ∧ Below w.heap.size w w' := by
  have HK := Lib.hid hk
  have HP := Lib.hid hp
  have HK2 := Lib.hid hK
  have HQ := Lib.hid hQ
  clear hk hp hK hQ
  have hmk := run_make_row' (P := Try.prog) 33 3 (.int .i64 0) 8 Try.underlying33 info3 rfl .i64 .i64 n (by omega) (by omega)
  go_enter Try.func32, Try.ntmps32
  go_wp2
  clear hmk
  go_loopw [10] (fun iv wr => ∃ (k : Nat) (s : Ex.Sh), k ≤ n ∧ iv = .int .i64 k ∧ s = Ex.sh K (fun j => if j < pn then Q j else 0) k ∧ wr.rowIs w.heap.size 3 n (eparV s) ∧ wr.rowIs (w.heap.size + 1) 3 n (eslotV s) ∧ wr.rowIs (w.heap.size + 1 + 1) 3 n (ecntV s) ∧ Below w.heap.size w wr)
    (fun iv _ => n - (intOf iv).toNat)
  case atStart =>
    refine ⟨0, _, by omega, rfl, rfl, ?_, ?_, ?_, ?_⟩
    · exact ((World.rowIs_made _ _ _ _).alloc _).alloc _
    · have := (World.rowIs_made (w.alloc (.cells (madeCells #[.int .i64 0] n) 3)) (.int .i64 0) n 3).alloc (.cells (madeCells #[.int .i64 0] n) 3)
      simpa using this.congr (g := eslotV (Ex.sh K (fun j => if j < pn then Q j else 0) 0)) (fun _ _ => rfl)
    · have := World.rowIs_made ((w.alloc (.cells (madeCells #[.int .i64 0] n) 3)).alloc (.cells (madeCells #[.int .i64 0] n) 3)) (.int .i64 0) n 3
      simpa using this.congr (g := ecntV (Ex.sh K (fun j => if j < pn then Q j else 0) 0)) (fun _ _ => rfl)
    · go_grown
  case round =>
    obtain ⟨k, s, hkn, rfl, hs, hpr, hsl, hct, hbel⟩ := hrel
    have HS := Lib.hid hs
    have HR := Lib.hid hpr
    have HL := Lib.hid hsl
    have HC := Lib.hid hct
    have HB := Lib.hid hbel
    clear hs hpr hsl hct hbel
    by_cases hlt : k < n
    · obtain ⟨q, hq⟩ : ∃ q : Int, Hid (q = if k < pn then Q k else 0) := ⟨_, rfl⟩
      have hq0 : -2147483648 ≤ q ∧ q ≤ 2147483647 := by
        rw [hq.out]; split
        · exact HQ.out k
        · omega
      obtain ⟨q1, q2⟩ := hq0
      have hcell := HR.out.cell hlt
      have hfr := HR.out.frozen k
      unfold eparV at hcell
      have HST : Hid (∀ s' : Ex.Sh, s' = Ex.shStep K (fun j => if j < pn then Q j else 0) s k → Hid (s' = Ex.sh K (fun j => if j < pn then Q j else 0) (k + 1))) := by
        refine Lib.hid fun s' hs' => ?_
        show s' = Ex.shStep _ _ (Ex.sh K (fun j => if j < pn then Q j else 0) k) k
        rw [← HS.out]; exact hs'
      by_cases hk0 : k = 0
      · have HS' : Hid ((⟨Fo.upd s.par k (-1), s.slot, s.cnt⟩ : Ex.Sh) = Ex.sh K (fun j => if j < pn then Q j else 0) (k + 1)) := HST.out _ (by unfold Ex.shStep; rw [if_pos hk0])
        have hk0' : ((k : Int) == 0) = true := by simp; omega
        clear HST hk0
        go_wp2
        go_roundw
        case rel =>
          exact ⟨k + 1, ⟨Fo.upd s.par k (-1), s.slot, s.cnt⟩, by omega, by go_num, HS'.out, epar_upd s k (-1) _ _ HR.out, HL.out.setOther (by first | (simp; done) | (simp; omega)) _, HC.out.setOther (by first | (simp; done) | (simp; omega)) _, HB.out.setCell (p := ⟨w.heap.size, k, none⟩) (Nat.le_refl _) _⟩
        case measure => simp [intOf]; omega
      · have hk0' : ((k : Int) == 0) = false := by simp; omega
        obtain ⟨P, hP⟩ : ∃ P : Nat, P = (q % 4294967296).toNat % k := ⟨_, rfl⟩
        have hPlt : P < k := by have := Nat.mod_lt (q % 4294967296).toNat (show 0 < k by omega); omega
        have hcp := HR.out.cell (i := P) (by omega)
        obtain ⟨kb, ko, rfl, hkc⟩ := HK.out P (by omega)
        have hkc' : wr.cell? ⟨kb, ko + P, none⟩ = some (.int .u8 (K P)) := (HB.out.cell (p := ⟨kb, ko + P, none⟩) (World.block_lt_of_cell? w _ hkc)).trans hkc
        have hkbl : kb < w.heap.size := World.block_lt_of_cell? w _ hkc
        have hkr := HK2.out P
        have hcc := HC.out.cell (i := P) (by omega)
        have hcf := HC.out.frozen P
        have hsc := HL.out.cell hlt
        have hsf := HL.out.frozen k
        have hlr := HR.out.lt
        have hll := HL.out.lt
        have hlc := HC.out.lt
        unfold eparV at hcp
        unfold ecntV at hcc
        unfold eslotV at hsc
        have hss : Ex.shStep K (fun j => if j < pn then Q j else 0) s k = if s.par P = -2 ∨ K P % 5 = 0 ∨ (3 ≤ K P % 5 ∧ 2 ≤ s.cnt P) then ⟨Fo.upd s.par k (-2), s.slot, s.cnt⟩ else ⟨Fo.upd s.par k (P : Int), Fo.upd s.slot k (s.cnt P), Fo.upd s.cnt P (s.cnt P + 1)⟩ := by
          unfold Ex.shStep
          rw [if_neg hk0]
          have e : Ex.pk (fun j => if j < pn then Q j else 0) k = P := by
            unfold Ex.pk
            simp only []
            rw [← hq.out, ← hP]
          rw [e]
        have HP0 := Lib.hid hP
        have hcle : s.cnt P ≤ k := by rw [HS.out, (Ex.good K _ k).cnt]; exact Ex.ch_len _ _ _
        obtain ⟨pv, hpv⟩ : ∃ pv : Int, pv = s.par P := ⟨_, rfl⟩
        obtain ⟨kv, hkv⟩ : ∃ kv : Nat, kv = K P := ⟨_, rfl⟩
        obtain ⟨cv, hcv⟩ : ∃ cv : Nat, cv = s.cnt P := ⟨_, rfl⟩
        rw [← hpv] at hcp hss
        rw [← hkv] at hkc' hkr hss
        rw [← hcv] at hcc hcle hss
        have HSS := Lib.hid hss
        clear hkc hpv hkv hcv hP hss hk0
        go_upto_region 11 with (first
          | (go_at_call 36; refine (at_any _ _ _ Q _ _ (by omega) (by omega) _ hq (HP.out.below HB.out (Nat.le_refl _))).mono ?_; rintro e w1 ⟨rfl, rfl⟩))
        have HW : Hid (wrap64 (q % 4294967296 % (k : Int)) = (P : Int)) := Lib.hid (epk_wrap q k P (by omega) (by omega) HP0.out)
        rw [HW.out]
        have hcase : (((pv == -2) = true) ∨ ((pv == -2) = false ∧ ((kv : Int) % 5 == 0) = true) ∨ ((pv == -2) = false ∧ ((kv : Int) % 5 == 0) = false ∧ 3 ≤ (kv : Int) % 5 ∧ 2 ≤ (cv : Int))) ∨
            (((pv == -2) = false ∧ ((kv : Int) % 5 == 0) = false ∧ 3 ≤ (kv : Int) % 5 ∧ (cv : Int) < 2) ∨ ((pv == -2) = false ∧ ((kv : Int) % 5 == 0) = false ∧ (kv : Int) % 5 < 3)) := by
          simp only [beq_iff_eq, beq_eq_false_iff_ne, ne_eq]
          omega
        rcases hcase with hc | hc
        · have HS' : Hid ((⟨Fo.upd s.par k (-2), s.slot, s.cnt⟩ : Ex.Sh) = Ex.sh K (fun j => if j < pn then Q j else 0) (k + 1)) := HST.out _ (by
            rw [HSS.out, if_pos]
            simp only [beq_iff_eq, beq_eq_false_iff_ne, ne_eq] at hc
            omega)
          clear HST HSS
          rcases hc with h1 | ⟨h1, h2⟩ | ⟨h1, h2, h3, h4⟩
          case inr.inr =>
            have h4' : 2 ≤ cv := by omega
            have h5 : decide (2 ≤ cv) = true := by simpa using h4'
            have h6 : decide (2 ≤ (cv : Int)) = true := decide_eq_true (by omega)
            have h7 : decide (3 ≤ (kv : Int) % 5) = true := by simpa using h3
            go_wp2
            go_roundw
            case rel =>
              exact ⟨k + 1, ⟨Fo.upd s.par k (-2), s.slot, s.cnt⟩, by omega, by go_num, HS'.out, epar_upd s k (-2) _ _ HR.out, HL.out.setOther (by first | (simp; done) | (simp; omega)) _, HC.out.setOther (by first | (simp; done) | (simp; omega)) _, HB.out.setCell (p := ⟨w.heap.size, k, none⟩) (Nat.le_refl _) _⟩
            case measure => simp [intOf]; omega
          all_goals
            go_wp2
            go_roundw
            all_goals first
              | exact ⟨k + 1, ⟨Fo.upd s.par k (-2), s.slot, s.cnt⟩, by omega, by go_num, HS'.out, epar_upd s k (-2) _ _ HR.out, HL.out.setOther (by first | (simp; done) | (simp; omega)) _, HC.out.setOther (by first | (simp; done) | (simp; omega)) _, HB.out.setCell (p := ⟨w.heap.size, k, none⟩) (Nat.le_refl _) _⟩
              | (simp [intOf]; omega)
        · have HS' : Hid ((⟨Fo.upd s.par k (P : Int), Fo.upd s.slot k cv, Fo.upd s.cnt P (cv + 1)⟩ : Ex.Sh) = Ex.sh K (fun j => if j < pn then Q j else 0) (k + 1)) := HST.out _ (by
            rw [HSS.out, if_neg]
            simp only [beq_eq_false_iff_ne, ne_eq] at hc
            omega)
          clear HST HSS
          rcases hc with ⟨h1, h2, h3, h4⟩ | ⟨h1, h2, h3⟩
          · have h4' : ¬ 2 ≤ cv := by omega
            have h5 : decide (2 ≤ cv) = false := by simpa using h4'
            have h6 : decide (2 ≤ (cv : Int)) = false := decide_eq_false (by omega)
            have h7 : decide (3 ≤ (kv : Int) % 5) = true := by simpa using h3
            go_wp2
            go_roundw
            case rel =>
              exact ⟨k + 1, ⟨Fo.upd s.par k (P : Int), Fo.upd s.slot k cv, Fo.upd s.cnt P (cv + 1)⟩, by omega, by go_num, HS'.out, ((epar_upd s k (P : Int) _ _ HR.out).setOther (by first | (simp; done) | (simp; omega)) _).setOther (by first | (simp; done) | (simp; omega)) _, (eslot_upd s k cv _ _ (HL.out.setOther (by first | (simp; done) | (simp; omega)) _)).setOther (by first | (simp; done) | (simp; omega)) _, ecnt_upd ⟨s.par, s.slot, s.cnt⟩ P (cv + 1) _ _ ((HC.out.setOther (by first | (simp; done) | (simp; omega)) _).setOther (by first | (simp; done) | (simp; omega)) _),
                ((HB.out.setCell (p := ⟨w.heap.size, k, none⟩) (Nat.le_refl _) _).setCell (p := ⟨w.heap.size + 1, k, none⟩) (by simp) _).setCell (p := ⟨w.heap.size + 1 + 1, P, none⟩) (by simp; omega) _⟩
            case measure => simp [intOf]; omega
          · have h7 : decide (3 ≤ (kv : Int) % 5) = false := by simpa using h3
            go_wp2
            go_roundw
            case rel =>
              exact ⟨k + 1, ⟨Fo.upd s.par k (P : Int), Fo.upd s.slot k cv, Fo.upd s.cnt P (cv + 1)⟩, by omega, by go_num, HS'.out, ((epar_upd s k (P : Int) _ _ HR.out).setOther (by first | (simp; done) | (simp; omega)) _).setOther (by first | (simp; done) | (simp; omega)) _, (eslot_upd s k cv _ _ (HL.out.setOther (by first | (simp; done) | (simp; omega)) _)).setOther (by first | (simp; done) | (simp; omega)) _, ecnt_upd ⟨s.par, s.slot, s.cnt⟩ P (cv + 1) _ _ ((HC.out.setOther (by first | (simp; done) | (simp; omega)) _).setOther (by first | (simp; done) | (simp; omega)) _),
                ((HB.out.setCell (p := ⟨w.heap.size, k, none⟩) (Nat.le_refl _) _).setCell (p := ⟨w.heap.size + 1, k, none⟩) (by simp) _).setCell (p := ⟨w.heap.size + 1 + 1, P, none⟩) (by simp; omega) _⟩
            case measure => simp [intOf]; omega
    · go_wp2_with fail
      exact bodyPost_ret (v := .tuple #[.slice (some ⟨w.heap.size, 0, none⟩) n n, .slice (some ⟨w.heap.size + 1, 0, none⟩) n n]) (by simp [results, Try.results32, go_sem]) rfl (by
        have hkn' : k = n := by omega
        subst hkn'
        have e := HS.out
        subst e
        exact ⟨rfl, HR.out, HL.out, HB.out⟩)
end Go.Proofs.Ytoeaockleddngaa
