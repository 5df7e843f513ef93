/- exprHasObjectRest on a tree that the code has built: it answers what the search answers. -/
import Derived.Test.YtoeaockleddngaaE5
import Derived.Deep.Cut
import Derived.Deep.DeepCutAuto
namespace Go.Proofs.Ytoeaockleddngaa
open Go Go.RowKit
set_option maxRecDepth 100000
set_option linter.unusedVariables false
namespace En
theorem as239_hit (W : World) (v : Value) : (Instr.typeAssert (.iface 239 v) 47 239 true).run Try.prog W = .ok (.tuple #[v, .bool true]) W := run_assert_hit (P := Try.prog) W v 47 239 (by kernel_rfl)
theorem as232_hit (W : World) (v : Value) : (Instr.typeAssert (.iface 232 v) 47 232 true).run Try.prog W = .ok (.tuple #[v, .bool true]) W := run_assert_hit (P := Try.prog) W v 47 232 (by kernel_rfl)
theorem as235_hit (W : World) (v : Value) : (Instr.typeAssert (.iface 235 v) 47 235 true).run Try.prog W = .ok (.tuple #[v, .bool true]) W := run_assert_hit (P := Try.prog) W v 47 235 (by kernel_rfl)
theorem as239_232 (W : World) (v : Value) : (Instr.typeAssert (.iface 232 v) 47 239 true).run Try.prog W = .ok (.tuple #[.pointer none, .bool false]) W := run_assert_miss (P := Try.prog) W v 47 239 232 (by kernel_rfl) (by kernel_rfl) (by kernel_rfl)
theorem as239_235 (W : World) (v : Value) : (Instr.typeAssert (.iface 235 v) 47 239 true).run Try.prog W = .ok (.tuple #[.pointer none, .bool false]) W := run_assert_miss (P := Try.prog) W v 47 239 235 (by kernel_rfl) (by kernel_rfl) (by kernel_rfl)
theorem as232_235 (W : World) (v : Value) : (Instr.typeAssert (.iface 235 v) 47 232 true).run Try.prog W = .ok (.tuple #[.pointer none, .bool false]) W := run_assert_miss (P := Try.prog) W v 47 232 235 (by kernel_rfl) (by kernel_rfl) (by kernel_rfl)
theorem as239_53 (W : World) (v : Value) : (Instr.typeAssert (.iface 53 v) 47 239 true).run Try.prog W = .ok (.tuple #[.pointer none, .bool false]) W := run_assert_miss (P := Try.prog) W v 47 239 53 (by kernel_rfl) (by kernel_rfl) (by kernel_rfl)
theorem as232_53 (W : World) (v : Value) : (Instr.typeAssert (.iface 53 v) 47 232 true).run Try.prog W = .ok (.tuple #[.pointer none, .bool false]) W := run_assert_miss (P := Try.prog) W v 47 232 53 (by kernel_rfl) (by kernel_rfl) (by kernel_rfl)
theorem as235_53 (W : World) (v : Value) : (Instr.typeAssert (.iface 53 v) 47 235 true).run Try.prog W = .ok (.tuple #[.pointer none, .bool false]) W := run_assert_miss (P := Try.prog) W v 47 235 53 (by kernel_rfl) (by kernel_rfl) (by kernel_rfl)
theorem as239_nil (W : World) : (Instr.typeAssert .nilIface 47 239 true).run Try.prog W = .ok (.tuple #[.pointer none, .bool false]) W := run_assert_nil (P := Try.prog) W 47 239 (by kernel_rfl) (by kernel_rfl)
theorem as232_nil (W : World) : (Instr.typeAssert .nilIface 47 232 true).run Try.prog W = .ok (.tuple #[.pointer none, .bool false]) W := run_assert_nil (P := Try.prog) W 47 232 (by kernel_rfl) (by kernel_rfl)
theorem as235_nil (W : World) : (Instr.typeAssert .nilIface 47 235 true).run Try.prog W = .ok (.tuple #[.pointer none, .bool false]) W := run_assert_nil (P := Try.prog) W 47 235 (by kernel_rfl) (by kernel_rfl)

theorem has_nil (w : World) : Calls Try.prog 41 #[.agg #[.nilIface, .int .i32 0]] w fun e w' => e = .returned (.bool false) ∧ Below w.heap.size w w' := by
  have h1 := as239_nil
  have h2 := as232_nil
  have h3 := as235_nil
  go_enter Try.func41, Try.ntmps41
  go_wp2
  go_ret
  exact ⟨rfl, by go_grown⟩

section
variable {K : Nat → Nat} {par : Nat → Int} {slot : Nat → Nat} {S : Nat → Bool} {n : Nat}
def bears (K : Nat → Nat) (par : Nat → Int) (slot : Nat → Nat) (S : Nat → Bool) (n i c : Nat) : Bool := (K i % 5 == 2 && S c) || (Ex.lv K slot i c && Ex.er K par slot S n c)
theorem er_true (hp : Ex.Par K n par slot) {i t : Nat} (ht : t < (ch par n i).length) (h : bears K par slot S n i (nth par n i t) = true) : Ex.er K par slot S n i = true := by
  obtain ⟨h1, h2⟩ := nth_spec par n i t ht
  rw [Ex.er_iff hp]
  refine ⟨_, h1, h2, ?_⟩
  simpa [bears] using h
theorem er_false (hp : Ex.Par K n par slot) {i : Nat} (h : ∀ t, t < (ch par n i).length → bears K par slot S n i (nth par n i t) = false) : Ex.er K par slot S n i = false := by
  cases e : Ex.er K par slot S n i with
  | false => rfl
  | true =>
    obtain ⟨c, hc, h1, h2⟩ := (Ex.er_iff hp i).1 e
    obtain ⟨t, ht, e2⟩ := nth_of par n i c hc h1
    have := h t ht
    rw [e2] at this
    have h3 : bears K par slot S n i c = true := by simpa [bears] using h2
    rw [h3] at this; cases this
theorem ch_head {i c : Nat} : ∀ k, (ch par k i)[0]? = some c → ch par c i = [] ∧ c < k ∧ par c = (i : Int)
  | 0, h => by simp [ch] at h
  | k + 1, h => by
    rw [ch_succ] at h
    by_cases e : par k = (i : Int)
    · rw [if_pos e] at h
      by_cases e2 : ch par k i = []
      · rw [e2] at h
        have : k = c := by simpa using h
        subst this
        exact ⟨e2, by omega, e⟩
      · have hl : 0 < (ch par k i).length := by cases h3 : ch par k i <;> simp_all
        rw [List.getElem?_append_left hl] at h
        obtain ⟨h1, h2, h3⟩ := ch_head k h
        exact ⟨h1, by omega, h3⟩
    · rw [if_neg e] at h
      obtain ⟨h1, h2, h3⟩ := ch_head k h
      exact ⟨h1, by omega, h3⟩
theorem mem_ch {k i c : Nat} (h : c < k) (hp : par c = (i : Int)) : c ∈ ch par k i := by unfold ch; simp [h, hp]
/-- An assignment bears a rest where its first operand does. -/
theorem er_assign (hp : Ex.Par K n par slot) {i c : Nat} (hk : K i % 5 = 3) (hc : (ch par n i)[0]? = some c) : Ex.er K par slot S n i = Ex.er K par slot S n c := by
  obtain ⟨h1, h2, h3⟩ := ch_head n hc
  have hs : slot c = 0 := by
    have : slot c = (ch par c i).length := hp.slot c i h2 h3
    rw [this, h1]; rfl
  rw [Bool.eq_iff_iff, Ex.er_iff hp]
  constructor
  · rintro ⟨c', h4, h5, h6 | ⟨h6, h7⟩⟩
    · omega
    · have hs' : slot c' = 0 := by
        unfold Ex.lv at h6
        rw [hk] at h6
        simpa using h6
      have h8 : (ch par c' i).length = 0 := by
        have : slot c' = (ch par c' i).length := hp.slot c' i h4 h5
        omega
      have h9 : ch par c' i = [] := List.eq_nil_of_length_eq_zero h8
      have : c' = c := by
        rcases Nat.lt_trichotomy c' c with h | h | h
        · have := mem_ch h h5; rw [h1] at this; cases this
        · exact h
        · have := mem_ch h h3; rw [h9] at this; cases this
      subst this; exact h7
  · intro h
    refine ⟨c, h2, h3, .inr ⟨?_, h⟩⟩
    unfold Ex.lv
    rw [hk, hs]; rfl
theorem er_none (hp : Ex.Par K n par slot) {i : Nat} (h : (ch par n i).length = 0) : Ex.er K par slot S n i = false := er_false hp fun t ht => by omega
theorem er_other (hp : Ex.Par K n par slot) {i : Nat} (hk : K i % 5 = 4 ∨ K i % 5 = 0) : Ex.er K par slot S n i = false := er_false hp fun t ht => by
  unfold bears Ex.lv
  rcases hk with hk | hk <;> rw [hk] <;> rfl

set_option maxHeartbeats 1000000 in
theorem has_any {w0 : Nat} {V : Nat → Value} (hpar : Ex.Par K n par slot) (hn : n ≤ 65536) : ∀ f i, n - i ≤ f → i < n → ∀ w, Grow K par S n w0 w n V →
    Calls Try.prog 41 #[.agg #[nodeV (K i) (w0 + 4 + i), .int .i32 0]] w fun e w' => e = .returned (.bool (Ex.er K par slot S n i)) ∧ Below w.heap.size w w' := by
  intro f
  induction f with
  | zero => intro i hf hi; omega
  | succ f ih =>
    intro i hf hi w hg
    have HQ := Lib.hid hpar
    have HG := Lib.hid hg
    have IH := Lib.hid ih
    clear hpar hg ih
    have a1 := as239_hit
    have a2 := as232_hit
    have a3 := as235_hit
    have a4 := as239_232
    have a5 := as239_235
    have a6 := as232_235
    have a7 := as239_53
    have a8 := as232_53
    have a9 := as235_53
    have hsz := HG.out.size
    have hb0 : w0 + 4 + i < w.heap.size := by omega
    have hcase : K i % 5 = 0 ∨ K i % 5 = 1 ∨ K i % 5 = 2 ∨ K i % 5 = 3 ∨ K i % 5 = 4 := by omega
    rcases hcase with h0 | h1 | h2 | h3 | h4
    · have e : nodeV (K i) (w0 + 4 + i) = .iface 53 (ptr (w0 + 4 + i)) := by unfold nodeV; rw [if_neg (by omega), if_neg (by omega), if_pos h0]
      have hr := er_other (S := S) HQ.out (i := i) (.inr h0)
      rw [e, hr]
      clear e hr h0
      go_enter Try.func41, Try.ntmps41
      go_wp2_with fail
      go_ret
      exact ⟨rfl, by go_grown⟩
    · have hnd := HG.out.node i hi
      rw [cells_v (.inl h1)] at hnd
      have hc := hnd.cell 0
      simp only [List.getElem?_cons_zero] at hc
      have e : nodeV (K i) (w0 + 4 + i) = .iface 232 (ptr (w0 + 4 + i)) := by unfold nodeV; rw [if_pos h1]
      have hbr : Hid (∀ c, bears K par slot S n i c = Ex.er K par slot S n c) := Lib.hid fun c => by unfold bears Ex.lv; rw [h1]; simp
      obtain ⟨a, cap, ev, hrow⟩ := row_form (w := w) (HG.out.rowA hi h1)
      have hlen := ch_len par n i
      obtain ⟨L, HL⟩ : ∃ L, Hid (L = (ch par n i).length) := ⟨_, Lib.hid rfl⟩
      rw [← HL.out] at ev hrow hlen
      rw [ev] at hc
      rw [e]
      have HROW := Lib.hid hrow
      clear hrow ev e h1 hnd
      unfold ptr
      go_enter Try.func41, Try.ntmps41
      go_wp2_with fail
      go_loopw [35] (fun iv wx => ∃ t : Nat, t ≤ L ∧ iv = .int .i64 t ∧ Below w.heap.size w wx ∧ ∀ s, s < t → bears K par slot S n i (nth par n i s) = false)
        (fun iv _ => L - (intOf iv).toNat)
      case atStart => exact ⟨0, by omega, rfl, by go_grown, fun s hs => by omega⟩
      case round =>
        obtain ⟨t, htl, rfl, hbel, hbef⟩ := hrel
        have HB := Lib.hid hbel
        have HBF := Lib.hid hbef
        clear hbel hbef
        by_cases hlt : t < L
        · obtain ⟨g, rfl, hgl, c1, c2⟩ := HROW.out t hlt
          obtain ⟨wx, rfl⟩ : ∃ wx : World, wx = wr := ⟨_, rfl⟩
          have hh := fun (x : Nat) => HB.out.cell (p := ⟨g, x, none⟩) hgl
          rw [← hh] at c1 c2
          have hns := nth_spec par n i t (by rw [← HL.out]; exact hlt)
          obtain ⟨c, HC⟩ : ∃ c, Hid (c = nth par n i t) := ⟨_, Lib.hid rfl⟩
          rw [← HC.out] at hns c1
          have hci := (Ex.child_lt HQ.out hns.1 hns.2).1
          have hcn := hns.1
          have hcf : n - c ≤ f := by omega
          have GW : Hid (∀ o, Grow K par S n w0 (wx.alloc o) n V) := Lib.hid fun o => HG.out.later (HB.out.alloc HB.out.size o)
          obtain ⟨ty, nv, hnv⟩ := nodeV_form (K c) (w0 + 4 + c)
          have IHC : Hid (∀ W, Grow K par S n w0 W n V → Calls Try.prog 41 #[.agg #[.iface ty nv, .int .i32 0]] W fun e w' => e = .returned (.bool (Ex.er K par slot S n c)) ∧ Below W.heap.size W w') := by
            rw [← hnv]; exact Lib.hid (IH.out c hcf hcn)
          rw [hnv] at c1
          clear hh hns hnv
          cases hv : Ex.er K par slot S n c with
          | true =>
            have HV := Lib.hid hv
            clear hv
            go_wp2_with (first
              | (go_at_call 41; refine (IHC.out _ (GW.out _)).mono ?_; rw [HV.out]; rintro ee w1 ⟨rfl, hw1⟩; have HW := Lib.hid hw1; clear hw1))
            go_ret
            have := er_true HQ.out (by rw [← HL.out]; exact hlt) (by rw [hbr.out, ← HC.out]; exact HV.out)
            rw [this]
            exact ⟨rfl, below_call HB.out HW.out⟩
          | false =>
            have HV := Lib.hid hv
            clear hv
            go_wp2_with (first
              | (go_at_call 41; refine (IHC.out _ (GW.out _)).mono ?_; rw [HV.out]; rintro ee w1 ⟨rfl, hw1⟩; have HW := Lib.hid hw1; clear hw1))
            go_roundw
            case rel =>
              refine ⟨t + 1, by omega, by go_num, below_call HB.out HW.out, fun s hs => ?_⟩
              by_cases hst : s = t
              · rw [hst, hbr.out, ← HC.out]; exact HV.out
              · exact HBF.out s (by omega)
            case measure => simp [intOf]; omega
        · go_wp2_with fail
          go_ret
          have hr := er_false (S := S) HQ.out (i := i) (fun s hs => HBF.out s (by rw [← HL.out] at hs; omega))
          rw [hr]
          exact ⟨rfl, HB.out⟩
    · have hnd := HG.out.node i hi
      rw [cells_v (.inr h2)] at hnd
      have hc := hnd.cell 0
      simp only [List.getElem?_cons_zero] at hc
      have e : nodeV (K i) (w0 + 4 + i) = .iface 235 (ptr (w0 + 4 + i)) := by unfold nodeV; rw [if_neg (by omega), if_pos h2]
      have hbr : Hid (∀ c, bears K par slot S n i c = (S c || Ex.er K par slot S n c)) := Lib.hid fun c => by unfold bears Ex.lv; rw [h2]; simp
      obtain ⟨a, cap, ev, hrow⟩ := row_form (w := w) (HG.out.rowO hi h2)
      have hlen := ch_len par n i
      obtain ⟨L, HL⟩ : ∃ L, Hid (L = (ch par n i).length) := ⟨_, Lib.hid rfl⟩
      rw [← HL.out] at ev hrow hlen
      rw [ev] at hc
      rw [e]
      have HROW := Lib.hid hrow
      clear hrow ev e h2 hnd
      unfold ptr
      go_enter Try.func41, Try.ntmps41
      go_wp2_with fail
      go_loopw [50] (fun iv wx => ∃ t : Nat, t ≤ L ∧ iv = .int .i64 t ∧ Below w.heap.size w wx ∧ ∀ s, s < t → bears K par slot S n i (nth par n i s) = false)
        (fun iv _ => L - (intOf iv).toNat)
      case atStart => exact ⟨0, by omega, rfl, by go_grown, fun s hs => by omega⟩
      case round =>
        obtain ⟨t, htl, rfl, hbel, hbef⟩ := hrel
        have HB := Lib.hid hbel
        have HBF := Lib.hid hbef
        clear hbel hbef
        by_cases hlt : t < L
        · obtain ⟨g, rfl, hgl, hcs⟩ := HROW.out t hlt
          obtain ⟨wx, rfl⟩ : ∃ wx : World, wx = wr := ⟨_, rfl⟩
          have hh := fun (x : Nat) => HB.out.cell (p := ⟨g, x, none⟩) hgl
          have d0 := (hh (t * 12 + 0)).trans (hcs 0 _ rfl)
          have d1 := (hh (t * 12 + 1)).trans (hcs 1 _ rfl)
          have d2 := (hh (t * 12 + 2)).trans (hcs 2 _ rfl)
          have d3 := (hh (t * 12 + 3)).trans (hcs 3 _ rfl)
          have d4 := (hh (t * 12 + 4)).trans (hcs 4 _ rfl)
          have d5 := (hh (t * 12 + 5)).trans (hcs 5 _ rfl)
          have d6 := (hh (t * 12 + 6)).trans (hcs 6 _ rfl)
          have d7 := (hh (t * 12 + 7)).trans (hcs 7 _ rfl)
          have d8 := (hh (t * 12 + 8)).trans (hcs 8 _ rfl)
          have d9 := (hh (t * 12 + 9)).trans (hcs 9 _ rfl)
          have d10 := (hh (t * 12 + 10)).trans (hcs 10 _ rfl)
          have d11 := (hh (t * 12 + 11)).trans (hcs 11 _ rfl)
          simp only [Nat.add_zero] at d0
          have hns := nth_spec par n i t (by rw [← HL.out]; exact hlt)
          obtain ⟨c, HC⟩ : ∃ c, Hid (c = nth par n i t) := ⟨_, Lib.hid rfl⟩
          rw [← HC.out] at hns d3 d10
          have hci := (Ex.child_lt HQ.out hns.1 hns.2).1
          have hcn := hns.1
          have hcf : n - c ≤ f := by omega
          have GW : Hid (∀ o, Grow K par S n w0 (wx.alloc o) n V) := Lib.hid fun o => HG.out.later (HB.out.alloc HB.out.size o)
          obtain ⟨ty, nv, hnv⟩ := nodeV_form (K c) (w0 + 4 + c)
          have IHC : Hid (∀ W, Grow K par S n w0 W n V → Calls Try.prog 41 #[.agg #[.iface ty nv, .int .i32 0]] W fun e w' => e = .returned (.bool (Ex.er K par slot S n c)) ∧ Below W.heap.size W w') := by
            rw [← hnv]; exact Lib.hid (IH.out c hcf hcn)
          rw [hnv] at d3
          clear hh hns hnv hcs
          cases hs : S c with
          | true =>
            have HS := Lib.hid hs
            rw [hs] at d10
            simp only [if_true] at d10
            clear hs
            go_wp2_with fail
            go_ret
            have := er_true HQ.out (by rw [← HL.out]; exact hlt) (by rw [hbr.out, ← HC.out, HS.out]; rfl)
            rw [this]
            exact ⟨rfl, HB.out.alloc HB.out.size _⟩
          | false =>
            have HS := Lib.hid hs
            rw [hs] at d10
            simp only [Bool.false_eq_true, if_false] at d10
            clear hs
            cases hv : Ex.er K par slot S n c with
            | true =>
              have HV := Lib.hid hv
              clear hv
              go_wp2_with (first
                | (go_at_call 41; refine (IHC.out _ (GW.out _)).mono ?_; rw [HV.out]; rintro ee w1 ⟨rfl, hw1⟩; have HW := Lib.hid hw1; clear hw1))
              go_ret
              have := er_true HQ.out (by rw [← HL.out]; exact hlt) (by rw [hbr.out, ← HC.out, HS.out]; exact HV.out)
              rw [this]
              exact ⟨rfl, below_call HB.out HW.out⟩
            | false =>
              have HV := Lib.hid hv
              clear hv
              go_wp2_with (first
                | (go_at_call 41; refine (IHC.out _ (GW.out _)).mono ?_; rw [HV.out]; rintro ee w1 ⟨rfl, hw1⟩; have HW := Lib.hid hw1; clear hw1))
              go_roundw
              case rel =>
                refine ⟨t + 1, by omega, by go_num, below_call HB.out HW.out, fun s hs => ?_⟩
                by_cases hst : s = t
                · rw [hst, hbr.out, ← HC.out, HS.out]; exact HV.out
                · exact HBF.out s (by omega)
              case measure => simp [intOf]; omega
        · go_wp2_with fail
          go_ret
          have hr := er_false (S := S) HQ.out (i := i) (fun s hs => HBF.out s (by rw [← HL.out] at hs; omega))
          rw [hr]
          exact ⟨rfl, HB.out⟩
    · have hnd := HG.out.node i hi
      rw [cells_b (by omega)] at hnd
      have hc0 := hnd.cell 0
      have hc1 := hnd.cell 1
      have hc4 := hnd.cell 4
      simp only [List.getElem?_cons_zero, List.getElem?_cons_succ] at hc0 hc1 hc4
      have ho : opOf (K i) = 37 := by unfold opOf; rw [if_pos h3]
      rw [ho] at hc4
      have e : nodeV (K i) (w0 + 4 + i) = .iface 239 (ptr (w0 + 4 + i)) := by unfold nodeV; rw [if_neg (by omega), if_neg (by omega), if_neg (by omega)]
      rw [e]
      have GW : Hid (∀ o, Grow K par S n w0 (w.alloc o) n V) := Lib.hid fun o => HG.out.later ((Below.refl _ _).alloc (Nat.le_refl _) o)
      cases hk : (ch par n i)[0]? with
      | none =>
        have hl : (ch par n i).length = 0 := by
          have := List.getElem?_eq_none_iff.1 hk; omega
        have hr := er_none (S := S) HQ.out hl
        rw [hr]
        unfold kid at hc0
        rw [hk] at hc0
        simp only at hc0
        clear hr hl hk e ho hnd h3
        unfold ptr
        go_enter Try.func41, Try.ntmps41
        go_wp2_with (first
          | (go_at_call 41; refine (has_nil _).mono ?_; rintro ee w1 ⟨rfl, hw1⟩; have HW := Lib.hid hw1; clear hw1))
        go_ret
        exact ⟨rfl, below_call (Below.refl _ _) HW.out⟩
      | some c =>
        have hr := er_assign (S := S) HQ.out h3 hk
        obtain ⟨_, hcn, hcp⟩ := ch_head n hk
        have hci := (Ex.child_lt HQ.out hcn hcp).1
        have hcf : n - c ≤ f := by omega
        rw [hr]
        unfold kid at hc0
        rw [hk] at hc0
        simp only at hc0
        obtain ⟨ty, nv, hnv⟩ := nodeV_form (K c) (w0 + 4 + c)
        have IHC : Hid (∀ W, Grow K par S n w0 W n V → Calls Try.prog 41 #[.agg #[.iface ty nv, .int .i32 0]] W fun e w' => e = .returned (.bool (Ex.er K par slot S n c)) ∧ Below W.heap.size W w') := by
          rw [← hnv]; exact Lib.hid (IH.out c hcf hcn)
        rw [hnv] at hc0
        clear hr hk e ho hnd h3 hnv hcp
        unfold ptr
        cases hv : Ex.er K par slot S n c
        all_goals
          have HV := Lib.hid hv
          clear hv
          go_enter Try.func41, Try.ntmps41
          go_wp2_with (first
            | (go_at_call 41; refine (IHC.out _ (GW.out _)).mono ?_; rw [HV.out]; rintro ee w1 ⟨rfl, hw1⟩; have HW := Lib.hid hw1; clear hw1))
          go_ret
          exact ⟨rfl, below_call (Below.refl _ _) HW.out⟩
    · have hnd := HG.out.node i hi
      rw [cells_b (by omega)] at hnd
      have hc4 := hnd.cell 4
      simp only [List.getElem?_cons_zero, List.getElem?_cons_succ] at hc4
      have ho : opOf (K i) = 11 := by unfold opOf; rw [if_neg (by omega)]
      rw [ho] at hc4
      have e : nodeV (K i) (w0 + 4 + i) = .iface 239 (ptr (w0 + 4 + i)) := by unfold nodeV; rw [if_neg (by omega), if_neg (by omega), if_neg (by omega)]
      have hr := er_other (S := S) HQ.out (i := i) (.inl h4)
      rw [e, hr]
      clear e hr ho hnd h4
      unfold ptr
      go_enter Try.func41, Try.ntmps41
      go_wp2_with fail
      go_ret
      exact ⟨rfl, by go_grown⟩
end
end En
end Go.Proofs.Ytoeaockleddngaa
