/- bindingHasObjectRest on the nodes of the forest. -/
import Derived.Test.YtoeaockleddngaaW6
namespace Go.Proofs.Ytoeaockleddngaa
open Go Go.RowKit
set_option maxRecDepth 100000
set_option linter.unusedVariables false

theorem assert93_hit (W : World) (v : Value) : (Instr.typeAssert (.iface 93 v) 41 93 true).run Try.prog W = .ok (.tuple #[v, .bool true]) W := run_assert_hit (P := Try.prog) W v 41 93 (by kernel_rfl)
theorem assert93_97 (W : World) (v : Value) : (Instr.typeAssert (.iface 97 v) 41 93 true).run Try.prog W = .ok (.tuple #[.pointer none, .bool false]) W := run_assert_miss (P := Try.prog) W v 41 93 97 (by kernel_rfl) (by kernel_rfl) (by kernel_rfl)
theorem assert93_101 (W : World) (v : Value) : (Instr.typeAssert (.iface 101 v) 41 93 true).run Try.prog W = .ok (.tuple #[.pointer none, .bool false]) W := run_assert_miss (P := Try.prog) W v 41 93 101 (by kernel_rfl) (by kernel_rfl) (by kernel_rfl)
theorem assert97_hit (W : World) (v : Value) : (Instr.typeAssert (.iface 97 v) 41 97 true).run Try.prog W = .ok (.tuple #[v, .bool true]) W := run_assert_hit (P := Try.prog) W v 41 97 (by kernel_rfl)
theorem assert97_101 (W : World) (v : Value) : (Instr.typeAssert (.iface 101 v) 41 97 true).run Try.prog W = .ok (.tuple #[.pointer none, .bool false]) W := run_assert_miss (P := Try.prog) W v 41 97 101 (by kernel_rfl) (by kernel_rfl) (by kernel_rfl)

section
variable {K : Nat → Nat} {par : Nat → Int} {S : Nat → Bool} {n w0 : Nat} {w w' : World} {k : Nat} {V : Nat → Value}
theorem Grow.later (h : Grow K par S n w0 w k V) (hb : Below w.heap.size w w') : Grow K par S n w0 w' k V := by
  have hs := h.size
  have hs2 := hb.size
  exact ⟨rowIs_below h.bs hb (Nat.le_refl _), rowIs_below h.arrs hb (Nat.le_refl _), rowIs_below h.objs hb (Nat.le_refl _), fun i hi => (h.node i hi).below hb (h.node i hi).lt, fun i hi h1 => ownsRow_below (h.a i hi h1) hb, fun i hi h1 => ownsRow_below (h.o i hi h1) hb, h.apart, by omega⟩
/-- The t-th child of node i. -/
def nth (par : Nat → Int) (k i t : Nat) : Nat := (ch par k i)[t]?.getD 0
theorem nth_get (par : Nat → Int) (k i t : Nat) (h : t < (ch par k i).length) : (ch par k i)[t]? = some (nth par k i t) := by
  unfold nth; rw [List.getElem?_eq_getElem h]; rfl
theorem nth_spec (par : Nat → Int) (k i t : Nat) (h : t < (ch par k i).length) : nth par k i t < k ∧ par (nth par k i t) = (i : Int) := by
  have := List.mem_of_getElem? (nth_get par k i t h)
  unfold ch at this
  simpa using this
theorem nth_of (par : Nat → Int) (k i c : Nat) (h : c < k) (hp : par c = (i : Int)) : ∃ t, t < (ch par k i).length ∧ nth par k i t = c := by
  have hm : c ∈ ch par k i := by unfold ch; simp [h, hp]
  obtain ⟨t, ht, e⟩ := List.getElem_of_mem hm
  exact ⟨t, ht, by unfold nth; rw [List.getElem?_eq_getElem ht, e]; rfl⟩
/-- Whether a child bears a rest for its parent. -/
def bears (K : Nat → Nat) (par : Nat → Int) (S : Nat → Bool) (n i c : Nat) : Bool := (K i % 3 == 2 && S c) || Fo.hr K par S n c
theorem hr_true (hp : Fo.Par K n par) {i t : Nat} (ht : t < (ch par n i).length) (h : bears K par S n i (nth par n i t) = true) : Fo.hr K par S n i = true := by
  obtain ⟨h1, h2⟩ := nth_spec par n i t ht
  rw [Fo.hr_iff hp]
  refine ⟨_, h1, h2, ?_⟩
  unfold bears at h
  simpa using h
theorem hr_false (hp : Fo.Par K n par) {i : Nat} (h : ∀ t, t < (ch par n i).length → bears K par S n i (nth par n i t) = false) : Fo.hr K par S n i = false := by
  cases e : Fo.hr K par S n i with
  | false => rfl
  | true =>
    rw [Fo.hr_iff hp] at e
    obtain ⟨c, h1, h2, h3⟩ := e
    obtain ⟨t, ht, rfl⟩ := nth_of par n i c h1 h2
    have := h t ht
    unfold bears at this
    simp at this
    rcases h3 with h3 | h3
    · have := this.1 h3.1; rw [h3.2] at this; cases this
    · rw [this.2] at h3; cases h3
theorem ch_none (hp : Fo.Par K n par) {i : Nat} (h : K i % 3 = 0) : (ch par n i).length = 0 := by
  by_cases e : (ch par n i).length = 0
  · exact e
  · obtain ⟨h1, h2⟩ := nth_spec par n i 0 (by omega)
    exact absurd h (Fo.child_lt hp h1 h2).2
theorem add_at (g j : Nat) : (⟨g, 0, none⟩ : Addr).add j = ⟨g, j, none⟩ := by unfold Addr.add; split <;> simp_all
/-- The row of an array node's items: nil, or a block. -/
theorem Grow.rowA (h : Grow K par S n w0 w k V) {i : Nat} (hi : i < n) (h1 : K i % 3 = 1) :
    (V i = nilS ∧ (ch par k i).length = 0) ∨ ∃ g cap, V i = .slice (some ⟨g, 0, none⟩) (ch par k i).length cap ∧ g < w.heap.size ∧ ∀ t, t < (ch par k i).length → w.cell? ⟨g, t * 5, none⟩ = some (nodeV (K (nth par k i t)) (w0 + 3 + nth par k i t)) ∧ w.cell? ⟨g, t * 5 + 1, none⟩ = some (.int .i32 0) ∧ w.cell? ⟨g, t * 5 + 2, none⟩ = some .nilIface ∧ w.cell? ⟨g, t * 5 + 3, none⟩ = some (.int .i32 0) ∧ w.cell? ⟨g, t * 5 + 4, none⟩ = some (.int .i32 0) := by
  by_cases hz : (ch par k i).length = 0
  · have ha := h.a i hi h1
    rcases ha.2 with ⟨e, _⟩ | ⟨g, cap, cur, e, hbg, hg, hnc, hcm, hcs, htake⟩
    · exact .inl ⟨e, hz⟩
    · exact .inr ⟨g, cap, e, (Array.getElem?_eq_some_iff.1 hg).1, fun t ht => by omega⟩
  · have ha := h.a i hi h1
    obtain ⟨g, cap, e, _⟩ := own_form ha (by omega)
    refine .inr ⟨g, cap, e, (ha.lt g (by rw [e]; rfl)).2, fun t ht => ?_⟩
    rw [e] at ha
    have hc := ha.cells (g := g) rfl
    have hf := flat_get (ch par k i) (itemA K w0) 5 (fun _ => rfl) t
    have hx : ∀ j u, j < 5 → (itemA K w0 (nth par k i t))[j]? = some u → w.cell? ⟨g, t * 5 + j, none⟩ = some u := fun j u hj hu => by
      have := hc (t * 5 + j) u ((hf j _ (nth_get par k i t ht) hj).trans hu)
      rw [add_at] at this; exact this
    exact ⟨hx 0 _ (by decide) rfl, hx 1 _ (by decide) rfl, hx 2 _ (by decide) rfl, hx 3 _ (by decide) rfl, hx 4 _ (by decide) rfl⟩
/-- The row of an object node's properties. -/
theorem Grow.rowO (h : Grow K par S n w0 w k V) {i : Nat} (hi : i < n) (h1 : K i % 3 = 2) :
    (V i = nilS ∧ (ch par k i).length = 0) ∨ ∃ g cap, V i = .slice (some ⟨g, 0, none⟩) (ch par k i).length cap ∧ g < w.heap.size ∧ ∀ t, t < (ch par k i).length → ∀ j u, (itemO K S w0 (nth par k i t))[j]? = some u → w.cell? ⟨g, t * 11 + j, none⟩ = some u := by
  by_cases hz : (ch par k i).length = 0
  · have ha := h.o i hi h1
    rcases ha.2 with ⟨e, _⟩ | ⟨g, cap, cur, e, hbg, hg, hnc, hcm, hcs, htake⟩
    · exact .inl ⟨e, hz⟩
    · exact .inr ⟨g, cap, e, (Array.getElem?_eq_some_iff.1 hg).1, fun t ht => by omega⟩
  · have ha := h.o i hi h1
    obtain ⟨g, cap, e, _⟩ := own_form ha (by omega)
    refine .inr ⟨g, cap, e, (ha.lt g (by rw [e]; rfl)).2, fun t ht j u hu => ?_⟩
    rw [e] at ha
    have hc := ha.cells (g := g) rfl
    have hj : j < 11 := (List.getElem?_eq_some_iff.1 hu).1
    have := hc (t * 11 + j) u ((flat_get (ch par k i) (itemO K S w0) 11 (fun _ => rfl) t j _ (nth_get par k i t ht) hj).trans hu)
    rw [add_at] at this; exact this
end

theorem below_call {w wx w1 : World} {o : Obj} (h : Below w.heap.size w wx) (h1 : Below (wx.alloc o).heap.size (wx.alloc o) w1) : Below w.heap.size w w1 := by
  have hs := h.size
  exact h.trans (((Below.refl _ _).alloc hs o).trans (h1.mono (by simp; omega)))
theorem nodeV_form (k b : Nat) : ∃ t v, nodeV k b = .iface t v := by
  unfold nodeV; split
  · exact ⟨_, _, rfl⟩
  · split <;> exact ⟨_, _, rfl⟩
/-- The row of a node: where it has an entry it lies at a block. -/
theorem row_form {w : World} {v : Value} {L : Nat} {P : Nat → Nat → Prop} (h : (v = nilS ∧ L = 0) ∨ ∃ g cap, v = .slice (some ⟨g, 0, none⟩) L cap ∧ g < w.heap.size ∧ ∀ t, t < L → P g t) :
    ∃ a cap, v = .slice a L cap ∧ ∀ t, t < L → ∃ g, a = some ⟨g, 0, none⟩ ∧ g < w.heap.size ∧ P g t := by
  rcases h with ⟨e, hl⟩ | ⟨g, cap, e, hg, hc⟩
  · subst hl; exact ⟨none, 0, e, fun t ht => by omega⟩
  · exact ⟨_, cap, e, fun t ht => ⟨g, rfl, hg, hc t ht⟩⟩

theorem has_any {K : Nat → Nat} {par : Nat → Int} {S : Nat → Bool} {n w0 : Nat} {V : Nat → Value} (hpar : Fo.Par K n par) (hn : n ≤ 65536) : ∀ f i, n - i ≤ f → i < n → ∀ w, Grow K par S n w0 w n V →
    Calls Try.prog 38 #[.agg #[nodeV (K i) (w0 + 3 + i), .int .i32 0]] w fun e w' => e = .returned (.bool (Fo.hr K par S n i)) ∧ Below w.heap.size w w' := by
  intro f
  induction f with
  | zero => intro i hf hi; omega
  | succ f ih =>
    intro i hf hi w hg
    have HQ := Lib.hid hpar
    have HG := Lib.hid hg
    have IH := Lib.hid ih
    clear hpar hg ih
    have a1 := assert93_hit
    have a2 := assert93_97
    have a3 := assert93_101
    have a4 := assert97_hit
    have a5 := assert97_101
    have hsz := HG.out.size
    have hb0 : w0 + 3 + i < w.heap.size := by omega
    by_cases h0 : K i % 3 = 0
    · have e : nodeV (K i) (w0 + 3 + i) = .iface 101 (ptr (w0 + 3 + i)) := by unfold nodeV; rw [if_neg (by omega), if_neg (by omega)]
      have hr := hr_false (S := S) HQ.out (i := i) (fun t ht => by rw [ch_none HQ.out h0] at ht; omega)
      rw [e, hr]
      clear e hr h0
      go_enter Try.func38, Try.ntmps38
      go_wp2_with fail
      go_ret
      exact ⟨rfl, by go_grown⟩
    · have hc : w.cell? ⟨w0 + 3 + i, 0, none⟩ = some (V i) := (HG.out.node i hi).head h0
      by_cases h1 : K i % 3 = 1
      · have e : nodeV (K i) (w0 + 3 + i) = .iface 93 (ptr (w0 + 3 + i)) := by unfold nodeV; rw [if_pos h1]
        have hbr : Hid (∀ c, bears K par S n i c = Fo.hr K par S n c) := Lib.hid fun c => by unfold bears; rw [show (K i % 3 == 2) = false by simp; omega]; simp
        obtain ⟨a, cap, ev, hrow⟩ := row_form (w := w) (HG.out.rowA hi h1)
        have hlen := ch_len par n i
        obtain ⟨L, HL⟩ : ∃ L, Hid (L = (ch par n i).length) := ⟨_, Lib.hid rfl⟩
        rw [← HL.out] at ev hrow hlen
        rw [ev] at hc
        rw [e]
        have HROW := Lib.hid hrow
        clear hrow ev e h0 h1
        unfold ptr
        go_enter Try.func38, Try.ntmps38
        go_wp2_with fail
        go_loopw [19] (fun iv wx => ∃ t : Nat, t ≤ L ∧ iv = .int .i64 t ∧ Below w.heap.size w wx ∧ ∀ s, s < t → bears K par S n i (nth par n i s) = false)
          (fun iv _ => L - (intOf iv).toNat)
        case atStart => exact ⟨0, by omega, rfl, by go_grown, fun s hs => by omega⟩
        case round =>
          obtain ⟨t, htl, rfl, hbel, hbef⟩ := hrel
          have HB := Lib.hid hbel
          have HBF := Lib.hid hbef
          clear hbel hbef
          by_cases hlt : t < L
          · obtain ⟨g, rfl, hgl, c1, c2, c3, c4, c5⟩ := HROW.out t hlt
            obtain ⟨wx, rfl⟩ : ∃ wx : World, wx = wr := ⟨_, rfl⟩
            have hh := fun (x : Nat) => HB.out.cell (p := ⟨g, x, none⟩) hgl
            rw [← hh] at c1 c2 c3 c4 c5
            have hns := nth_spec par n i t (by rw [← HL.out]; exact hlt)
            obtain ⟨c, HC⟩ : ∃ c, Hid (c = nth par n i t) := ⟨_, Lib.hid rfl⟩
            rw [← HC.out] at hns c1
            have hci := (Fo.child_lt HQ.out hns.1 hns.2).1
            have hcn := hns.1
            have hcf : n - c ≤ f := by omega
            have GW : Hid (∀ o, Grow K par S n w0 (wx.alloc o) n V) := Lib.hid fun o => HG.out.later (HB.out.alloc HB.out.size o)
            obtain ⟨ty, nv, hnv⟩ := nodeV_form (K c) (w0 + 3 + c)
            have IHC : Hid (∀ W, Grow K par S n w0 W n V → Calls Try.prog 38 #[.agg #[.iface ty nv, .int .i32 0]] W fun e w' => e = .returned (.bool (Fo.hr K par S n c)) ∧ Below W.heap.size W w') := by
              rw [← hnv]; exact Lib.hid (IH.out c hcf hcn)
            rw [hnv] at c1
            clear hh hns hnv
            cases hv : Fo.hr K par S n c with
            | true =>
              have HV := Lib.hid hv
              clear hv
              go_wp2_with (first
                | (go_at_call 38; refine (IHC.out _ (GW.out _)).mono ?_; rw [HV.out]; rintro ee w1 ⟨rfl, hw1⟩; have HW := Lib.hid hw1; clear hw1))
              go_ret
              have hb := HBF.out
              have := hr_true HQ.out (by rw [← HL.out]; exact hlt) (by rw [hbr.out, ← HC.out]; exact HV.out)
              rw [this]
              exact ⟨rfl, below_call HB.out HW.out⟩
            | false =>
              have HV := Lib.hid hv
              clear hv
              go_wp2_with (first
                | (go_at_call 38; refine (IHC.out _ (GW.out _)).mono ?_; rw [HV.out]; rintro ee w1 ⟨rfl, hw1⟩; have HW := Lib.hid hw1; clear hw1))
              go_roundw
              case rel =>
                refine ⟨t + 1, by omega, by go_num, below_call HB.out HW.out, fun s hs => ?_⟩
                by_cases hst : s = t
                · rw [hst, hbr.out, ← HC.out]; exact HV.out
                · exact HBF.out s (by omega)
              case measure => simp [intOf]; omega
          · go_wp2_with fail
            go_ret
            have hr := hr_false (S := S) HQ.out (i := i) (fun s hs => HBF.out s (by rw [← HL.out] at hs; omega))
            rw [hr]
            exact ⟨rfl, HB.out⟩
      · have e : nodeV (K i) (w0 + 3 + i) = .iface 97 (ptr (w0 + 3 + i)) := by unfold nodeV; rw [if_neg h1, if_pos (by omega)]
        have hbr : Hid (∀ c, bears K par S n i c = (S c || Fo.hr K par S n c)) := Lib.hid fun c => by unfold bears; rw [show (K i % 3 == 2) = true by simp; omega]; simp
        obtain ⟨a, cap, ev, hrow⟩ := row_form (w := w) (HG.out.rowO hi (by omega))
        have hlen := ch_len par n i
        obtain ⟨L, HL⟩ : ∃ L, Hid (L = (ch par n i).length) := ⟨_, Lib.hid rfl⟩
        rw [← HL.out] at ev hrow hlen
        rw [ev] at hc
        rw [e]
        have HROW := Lib.hid hrow
        clear hrow ev e h0 h1
        unfold ptr
        go_enter Try.func38, Try.ntmps38
        go_wp2_with fail
        go_loopw [35] (fun iv wx => ∃ t : Nat, t ≤ L ∧ iv = .int .i64 t ∧ Below w.heap.size w wx ∧ ∀ s, s < t → bears K par S n i (nth par n i s) = false)
          (fun iv _ => L - (intOf iv).toNat)
        case atStart => exact ⟨0, by omega, rfl, by go_grown, fun s hs => by omega⟩
        case round =>
          obtain ⟨t, htl, rfl, hbel, hbef⟩ := hrel
          have HB := Lib.hid hbel
          have HBF := Lib.hid hbef
          clear hbel hbef
          by_cases hlt : t < L
          · obtain ⟨g, rfl, hgl, hcs⟩ := HROW.out t hlt
            obtain ⟨wx, rfl⟩ : ∃ wx : World, wx = wr := ⟨_, rfl⟩
            have hh := fun (x : Nat) => HB.out.cell (p := ⟨g, x, none⟩) hgl
            have d0 := (hh (t * 11 + 0)).trans (hcs 0 _ rfl)
            have d1 := (hh (t * 11 + 1)).trans (hcs 1 _ rfl)
            have d2 := (hh (t * 11 + 2)).trans (hcs 2 _ rfl)
            have d3 := (hh (t * 11 + 3)).trans (hcs 3 _ rfl)
            have d4 := (hh (t * 11 + 4)).trans (hcs 4 _ rfl)
            have d5 := (hh (t * 11 + 5)).trans (hcs 5 _ rfl)
            have d6 := (hh (t * 11 + 6)).trans (hcs 6 _ rfl)
            have d7 := (hh (t * 11 + 7)).trans (hcs 7 _ rfl)
            have d8 := (hh (t * 11 + 8)).trans (hcs 8 _ rfl)
            have d9 := (hh (t * 11 + 9)).trans (hcs 9 _ rfl)
            have d10 := (hh (t * 11 + 10)).trans (hcs 10 _ rfl)
            simp only [Nat.add_zero] at d0
            have hns := nth_spec par n i t (by rw [← HL.out]; exact hlt)
            obtain ⟨c, HC⟩ : ∃ c, Hid (c = nth par n i t) := ⟨_, Lib.hid rfl⟩
            rw [← HC.out] at hns d2 d9
            have hci := (Fo.child_lt HQ.out hns.1 hns.2).1
            have hcn := hns.1
            have hcf : n - c ≤ f := by omega
            have GW : Hid (∀ o, Grow K par S n w0 (wx.alloc o) n V) := Lib.hid fun o => HG.out.later (HB.out.alloc HB.out.size o)
            obtain ⟨ty, nv, hnv⟩ := nodeV_form (K c) (w0 + 3 + c)
            have IHC : Hid (∀ W, Grow K par S n w0 W n V → Calls Try.prog 38 #[.agg #[.iface ty nv, .int .i32 0]] W fun e w' => e = .returned (.bool (Fo.hr K par S n c)) ∧ Below W.heap.size W w') := by
              rw [← hnv]; exact Lib.hid (IH.out c hcf hcn)
            rw [hnv] at d2
            clear hh hns hnv hcs
            cases hs : S c with
            | true =>
              have HS := Lib.hid hs
              rw [hs] at d9
              clear hs
              go_wp2_with fail
              go_ret
              have := hr_true HQ.out (by rw [← HL.out]; exact hlt) (by rw [hbr.out, ← HC.out, HS.out]; rfl)
              rw [this]
              exact ⟨rfl, HB.out.alloc HB.out.size _⟩
            | false =>
              have HS := Lib.hid hs
              rw [hs] at d9
              clear hs
              cases hv : Fo.hr K par S n c with
              | true =>
                have HV := Lib.hid hv
                clear hv
                go_wp2_with (first
                  | (go_at_call 38; refine (IHC.out _ (GW.out _)).mono ?_; rw [HV.out]; rintro ee w1 ⟨rfl, hw1⟩; have HW := Lib.hid hw1; clear hw1))
                go_ret
                have hb := HBF.out
                have := hr_true HQ.out (by rw [← HL.out]; exact hlt) (by rw [hbr.out, ← HC.out, HS.out]; exact HV.out)
                rw [this]
                exact ⟨rfl, below_call HB.out HW.out⟩
              | false =>
                have HV := Lib.hid hv
                clear hv
                go_wp2_with (first
                  | (go_at_call 38; refine (IHC.out _ (GW.out _)).mono ?_; rw [HV.out]; rintro ee w1 ⟨rfl, hw1⟩; have HW := Lib.hid hw1; clear hw1))
                go_roundw
                case rel =>
                  refine ⟨t + 1, by omega, by go_num, below_call HB.out HW.out, fun s hs => ?_⟩
                  by_cases hst : s = t
                  · rw [hst, hbr.out, ← HC.out, HS.out]; exact HV.out
                  · exact HBF.out s (by omega)
                case measure => simp [intOf]; omega
          · go_wp2_with fail
            go_ret
            have hr := hr_false (S := S) HQ.out (i := i) (fun s hs => HBF.out s (by rw [← HL.out] at hs; omega))
            rw [hr]
            exact ⟨rfl, HB.out⟩
end Go.Proofs.Ytoeaockleddngaa
