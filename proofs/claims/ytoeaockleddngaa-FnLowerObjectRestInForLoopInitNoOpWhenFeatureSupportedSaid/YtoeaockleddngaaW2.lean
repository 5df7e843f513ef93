import Derived.Test.YtoeaockleddngaaW1
import Derived.Deep.Cut
import Derived.Deep.DeepCutAuto
namespace Go.Proofs.Ytoeaockleddngaa
open Go Go.RowKit
set_option maxRecDepth 100000
set_option linter.unusedVariables false

theorem info3 : (Try.prog.info? 3).map (fun i => (i.zero, i.size, i.bytes)) = some (some (.int .i64 0), 1, 8) := by kernel_rfl
def ints (l : List Nat) : List Value := l.map fun r : Nat => .int .i64 (r : Int)
def parV (s : Fo.Sh) (j : Nat) : Value := .int .i64 (s.par j)

theorem wrap_sum (m k st P : Nat) (hk : k ≤ 65536) (hst : st < k) (hP : P = st + m % (k - st)) : wrap64 ((st : Int) + wrap64 ((m : Int) % ((k : Int) - (st : Int)))) = (P : Int) := by
  have hlt := Nat.mod_lt m (show 0 < k - st by omega)
  have e : (k : Int) - (st : Int) = ((k - st : Nat) : Int) := by omega
  rw [e, ← Int.natCast_emod]
  generalize m % (k - st) = r at *
  unfold wrap64
  omega

theorem row_upd {wr : World} {pb n : Nat} (s : Fo.Sh) (k : Nat) (v : Int) (roots : List Nat) (start : Nat) (h : wr.rowIs pb 3 n (parV s)) : (wr.setCell ⟨pb, k, none⟩ (.int .i64 v)).rowIs pb 3 n (parV ⟨Fo.upd s.par k v, roots, start⟩) :=
  (h.set k _).congr fun j _ => by
    unfold parV Fo.upd
    by_cases e : j = k
    · simp [e]
    · simp [e]
theorem ints_snoc (l : List Nat) (k : Nat) : ints (l ++ [k]) = ints l ++ [.int .i64 (k : Int)] := by simp [ints]
theorem one_pos : 0 < 1 := by decide

theorem shape_any (ka pa : Option Addr) (n kc pn pc : Nat) (K : Nat → Nat) (Q : Nat → Int) (w : World) (hn : n ≤ 65536) (hpn : pn ≤ 65536) (hK : ∀ j, K j ≤ 255) (hQ : ∀ j, -2147483648 ≤ Q j ∧ Q j ≤ 2147483647)
    (hk : Arr w ka n fun j => .int .u8 (K j)) (hp : Arr w pa pn fun j => .int .i32 (Q j)) :
    Calls Try.prog 21 #[.slice ka n kc, .slice pa pn pc] w fun e w' => ∃ b rv s, e = .returned (.tuple #[.slice (some ⟨b, 0, none⟩) n n, rv]) ∧ s = Fo.sh K (fun j => if j < pn then Q j else 0) n ∧ w.heap.size ≤ b ∧ w'.rowIs b 3 n (parV s) ∧
      w'.ownsRow w.heap.size 3 1 rv s.roots.length (ints s.roots) ∧ rv.ownBlock ≠ some b ∧ Below w.heap.size w w' := by
  obtain ⟨i0, hi, hz0, hz1, hz2⟩ := info_parts info3
  have HK := Lib.hid hk
  have HP := Lib.hid hp
  have HK2 := Lib.hid hK
  have HQ := Lib.hid hQ
  clear hk hp hK hQ
  have hmk := run_make_row' (P := Try.prog) 33 3 (.int .i64 0) 8 Try.underlying33 info3 rfl .i64 .i64 n (by omega) (by omega)
  go_enter Try.func21, Try.ntmps21
  go_wp2
  clear hmk
  go_loopw [8, 9, 10] (fun rv sv iv wr => ∃ (k : Nat) (s : Fo.Sh), k ≤ n ∧ iv = .int .i64 k ∧ s = Fo.sh K (fun j => if j < pn then Q j else 0) k ∧ sv = .int .i64 (s.start : Int) ∧ wr.rowIs w.heap.size 3 n (parV s) ∧
      wr.ownsRow w.heap.size 3 1 rv s.roots.length (ints s.roots) ∧ rv.ownBlock ≠ some w.heap.size ∧ Below w.heap.size w wr ∧ w.heap.size < wr.heap.size)
    (fun _ _ iv _ => n - (intOf iv).toNat)
  case atStart =>
    refine ⟨0, _, by omega, rfl, rfl, rfl, ?_, ?_, ?_, ?_, ?_⟩
    · exact World.rowIs_made _ _ _ _
    · exact World.ownsRow_nil (w.alloc (.cells (madeCells #[.int .i64 0] n) 3)) w.heap.size 3 1
    · simp [Value.ownBlock]
    · go_grown
    · simp
  case round =>
    obtain ⟨k, s, hkn, rfl, hs, rfl, hrow, hown, hne, hbel, hsz⟩ := hrel
    have HS := Lib.hid hs
    have HR := Lib.hid hrow
    have HO := Lib.hid hown
    have HN := Lib.hid hne
    have HB := Lib.hid hbel
    clear hs hrow hown hne hbel
    by_cases hlt : k < n
    · obtain ⟨q, hq⟩ : ∃ q : Int, Hid (q = if k < pn then Q k else 0) := ⟨_, rfl⟩
      have hq0 : -2147483648 ≤ q ∧ q ≤ 2147483647 := by
        rw [hq.out]; split
        · exact HQ.out k
        · omega
      obtain ⟨q1, q2⟩ := hq0
      have hcell := HR.out.cell hlt
      have hfr := HR.out.frozen k
      unfold parV at hcell
      have hstep : ∀ s' : Fo.Sh, s' = Fo.shStep K (fun j => if j < pn then Q j else 0) s k → Hid (s' = Fo.sh K (fun j => if j < pn then Q j else 0) (k + 1)) := by
        intro s' hs'
        show s' = Fo.shStep _ _ (Fo.sh K (fun j => if j < pn then Q j else 0) k) k
        rw [← HS.out]; exact hs'
      have HST := Lib.hid hstep
      clear hstep
      by_cases hc : k = 0 ∨ q < 0
      · have HS' : Hid ((⟨Fo.upd s.par k (-1), s.roots ++ [k], k⟩ : Fo.Sh) = Fo.sh K (fun j => if j < pn then Q j else 0) (k + 1)) := HST.out _ (by
          unfold Fo.shStep
          rw [if_pos (by rcases hc with h | h; exact .inl h; exact .inr (by show (if k < pn then Q k else 0) < 0; rw [← hq.out]; exact h))])
        have hlen : s.roots.length ≤ k := by rw [HS.out]; exact (Fo.good K _ k).len
        clear HST
        rcases (by
          by_cases h : k = 0
          · exact .inl (by simp; omega)
          · exact .inr ⟨by simp; omega, hc.resolve_left h⟩ : (((k : Int) == 0) = true) ∨ (((k : Int) == 0) = false ∧ q < 0)) with hk0' | ⟨hk0', hqd⟩
        all_goals
          clear hc
          go_wp2_with (first
            | (go_at_call 36; refine (at_any _ _ _ Q _ _ (by omega) (by omega) _ hq (HP.out.below HB.out (Nat.le_refl _))).mono ?_; rintro e w1 ⟨rfl, rfl⟩)
            | (at_builtin; refine Hid.out ?_))
          unfold Hid
          have hb2 := HB.out.setCell (p := ⟨w.heap.size, k, none⟩) (Nat.le_refl _) (.int .i64 (-1))
          have hr2 := row_upd s k (-1) (s.roots ++ [k]) k HR.out
          have ho2 := own_setOther (a := ⟨w.heap.size, k, none⟩) HO.out HN.out (.int .i64 (-1))
          have hsz2 : (wr.setCell ⟨w.heap.size, k, none⟩ (.int .i64 (-1))).heap.size = wr.heap.size := by simp [World.setCell]
          refine wpList_append_where _ rfl (.tmp 35) (.tmp 37) 33 rfl w.heap.size 3 i0 (.int .i64 0) 1 8 Try.underlying33 hi hz0 hz1 hz2 rfl one_pos u8 s.roots.length (ints s.roots) rfl (ho2.alloc _) ⟨wr.heap.size, 0, none⟩ 1 1 [.int .i64 (k : Int)] rfl rfl one_pos ?_ ?_ ?_ ?_ ?_ ?_
          · have := cells_new (wr.setCell ⟨w.heap.size, k, none⟩ (.int .i64 (-1))) [.int .i64 (k : Int)] 3
            rw [hsz2] at this
            exact this
          · intro u hu; simp at hu; rcases hu with rfl; rfl
          · unfold maxLen; omega
          · omega
          · simp [hsz2]; omega
          intro v3 w3 hown3 hgr3 hwh3
          have K3 := Lib.hid hown3
          have hrow3 := rowIs_grown (hr2.alloc (.cells #[.int .i64 (k : Int)] 3)) hgr3 (fun e => HN.out e.symm)
          have hbel3 := (hb2.alloc (by omega) (.cells #[.int .i64 (k : Int)] 3)).grown hgr3 (by simp [hsz2]; omega) (fun g hg => (HO.out.lt g hg).1)
          have hne3 : v3.ownBlock ≠ some w.heap.size := by
            obtain ⟨g, h1, h2⟩ := hwh3
            rw [h1]
            intro e
            rcases h2 with h2 | h2
            · exact HN.out (h2.trans e)
            · injection e with e; subst e; simp [hsz2] at h2; omega
          clear hwh3
          have R3 := Lib.hid hrow3
          have B3 := Lib.hid hbel3
          have N3 := Lib.hid hne3
          have Z3 : w.heap.size < w3.heap.size := by have := hgr3.size; simp [hsz2] at this; omega
          clear hown3 hgr3 hrow3 hbel3 hne3 hb2 hr2 ho2 hsz2 hcell hfr
          go_wp2
          go_roundw
          case rel =>
            refine ⟨k + 1, ⟨Fo.upd s.par k (-1), s.roots ++ [k], k⟩, by omega, by go_num, HS'.out, rfl, R3.out, ?_, N3.out, B3.out, Z3⟩
            show w3.ownsRow _ _ _ _ (s.roots ++ [k]).length (ints (s.roots ++ [k]))
            rw [ints_snoc, List.length_append]
            exact K3.out
          case measure => simp [intOf]; omega
      · have hk0 : ¬ k = 0 := fun h => hc (.inl h)
        have hqn : ¬ q < 0 := fun h => hc (.inr h)
        have hk0' : ((k : Int) == 0) = false := by simp; omega
        have hst : s.start < k := by rw [HS.out]; exact (Fo.good K _ k).start (by omega)
        obtain ⟨m, rfl⟩ : ∃ m : Nat, q = m := ⟨q.toNat, by omega⟩
        obtain ⟨P, hP⟩ : ∃ P : Nat, P = s.start + m % (k - s.start) := ⟨_, rfl⟩
        have hPlt : P < k := by have := Nat.mod_lt m (show 0 < k - s.start by omega); omega
        have hcp := HR.out.cell (i := P) (by omega)
        obtain ⟨kb, ko, rfl, hkc⟩ := HK.out P (by omega)
        have hkc' : wr.cell? ⟨kb, ko + P, none⟩ = some (.int .u8 (K P)) := (HB.out.cell (p := ⟨kb, ko + P, none⟩) (World.block_lt_of_cell? w _ hkc)).trans hkc
        have hkr := HK2.out P
        unfold parV at hcp
        have hss : Fo.shStep K (fun j => if j < pn then Q j else 0) s k = if s.par P = -2 ∨ K P % 3 = 0 then ⟨Fo.upd s.par k (-2), s.roots, s.start⟩ else ⟨Fo.upd s.par k (P : Int), s.roots, s.start⟩ := by
          unfold Fo.shStep
          rw [if_neg (by intro h; rcases h with h | h; exact hk0 h; exact hqn (by rw [hq.out]; exact h))]
          simp only []
          rw [← hq.out]
          simp only [Int.toNat_natCast]
          rw [← hP]
        have HP0 := Lib.hid hP
        obtain ⟨pv, hpv⟩ : ∃ pv : Int, pv = s.par P := ⟨_, rfl⟩
        obtain ⟨kv, hkv⟩ : ∃ kv : Nat, kv = K P := ⟨_, rfl⟩
        rw [← hpv] at hcp hss
        rw [← hkv] at hkc' hkr hss
        have HSS := Lib.hid hss
        clear hkc hpv hkv hP hss hc
        by_cases hcase : pv = -2 ∨ kv % 3 = 0
        · have HS' : Hid ((⟨Fo.upd s.par k (-2), s.roots, s.start⟩ : Fo.Sh) = Fo.sh K (fun j => if j < pn then Q j else 0) (k + 1)) := HST.out _ (by rw [HSS.out, if_pos hcase])
          clear HST HSS
          rcases (by
            by_cases h : pv = -2
            · exact .inl (by simp [h])
            · exact .inr ⟨by simpa using h, by have := hcase.resolve_left h; simp; omega⟩ : ((pv == -2) = true) ∨ ((pv == -2) = false ∧ ((kv : Int) % 3 == 0) = true)) with hd' | ⟨hd', hz'⟩
          all_goals
            clear hcase
            go_upto_region 13 with (first
              | (go_at_call 36; refine (at_any _ _ _ Q _ _ (by omega) (by omega) _ hq (HP.out.below HB.out (Nat.le_refl _))).mono ?_; rintro e w1 ⟨rfl, rfl⟩))
            go_cut [12] (fun p wx => wx = wr ∧ p = .int .i64 (P : Int))
            case first =>
              go_wp2
              go_meet
              exact ⟨rfl, congrArg (Value.int .i64) (wrap_sum m k s.start P (by omega) hst HP0.out)⟩
            case rest =>
              obtain ⟨rfl, rfl⟩ := hcut
              go_wp2
              go_roundw
              case rel =>
                exact ⟨k + 1, ⟨Fo.upd s.par k (-2), s.roots, s.start⟩, by omega, by go_num, HS'.out, rfl, row_upd s k (-2) s.roots s.start HR.out, own_setOther (a := ⟨w.heap.size, k, none⟩) HO.out HN.out _, HN.out, HB.out.setCell (p := ⟨w.heap.size, k, none⟩) (Nat.le_refl _) _, by simpa [World.setCell] using hsz⟩
              case measure => simp [intOf]; omega
        · have HS' : Hid ((⟨Fo.upd s.par k (P : Int), s.roots, s.start⟩ : Fo.Sh) = Fo.sh K (fun j => if j < pn then Q j else 0) (k + 1)) := HST.out _ (by rw [HSS.out, if_neg hcase])
          clear HST HSS
          have hd' : (pv == -2) = false := by simp; exact fun h => hcase (.inl h)
          have hz' : ((kv : Int) % 3 == 0) = false := by
            have : ¬ kv % 3 = 0 := fun h => hcase (.inr h)
            simp; omega
          clear hcase
          go_upto_region 13 with (first
            | (go_at_call 36; refine (at_any _ _ _ Q _ _ (by omega) (by omega) _ hq (HP.out.below HB.out (Nat.le_refl _))).mono ?_; rintro e w1 ⟨rfl, rfl⟩))
          go_cut [12] (fun p wx => wx = wr ∧ p = .int .i64 (P : Int))
          case first =>
            go_wp2
            go_meet
            exact ⟨rfl, congrArg (Value.int .i64) (wrap_sum m k s.start P (by omega) hst HP0.out)⟩
          case rest =>
            obtain ⟨rfl, rfl⟩ := hcut
            go_wp2
            go_roundw
            case rel =>
              exact ⟨k + 1, ⟨Fo.upd s.par k (P : Int), s.roots, s.start⟩, by omega, by go_num, HS'.out, rfl, row_upd s k (P : Int) s.roots s.start HR.out, own_setOther (a := ⟨w.heap.size, k, none⟩) HO.out HN.out _, HN.out, HB.out.setCell (p := ⟨w.heap.size, k, none⟩) (Nat.le_refl _) _, by simpa [World.setCell] using hsz⟩
            case measure => simp [intOf]; omega
    · go_wp2_with fail
      go_ret2
      have hkn' : k = n := by omega
      subst hkn'
      exact ⟨_, _, s, rfl, HS.out, Nat.le_refl _, HR.out, HO.out, HN.out, HB.out⟩
end Go.Proofs.Ytoeaockleddngaa
