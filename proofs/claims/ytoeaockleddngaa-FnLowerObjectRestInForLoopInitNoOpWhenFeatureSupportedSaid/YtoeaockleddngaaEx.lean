/-
  Plain words on expression trees: the shape that a list of parents gives, the search for an object rest, the forward pass. No program stands here.
-/
import Derived.Test.YtoeaockleddngaaFo
namespace Go.Proofs.Ytoeaockleddngaa.Ex
open Go.Proofs.Ytoeaockleddngaa.Fo (upd upd_same upd_other)

structure Sh where
  par : Nat → Int
  slot : Nat → Nat
  cnt : Nat → Nat
/-- The parent that the text picks for node i. -/
def pk (Q : Nat → Int) (i : Nat) : Nat := (Q i % 4294967296).toNat % i
def shStep (K : Nat → Nat) (Q : Nat → Int) (s : Sh) (i : Nat) : Sh :=
  if i = 0 then ⟨upd s.par i (-1), s.slot, s.cnt⟩
  else if s.par (pk Q i) = -2 ∨ K (pk Q i) % 5 = 0 ∨ (3 ≤ K (pk Q i) % 5 ∧ 2 ≤ s.cnt (pk Q i)) then ⟨upd s.par i (-2), s.slot, s.cnt⟩
  else ⟨upd s.par i (pk Q i : Int), upd s.slot i (s.cnt (pk Q i)), upd s.cnt (pk Q i) (s.cnt (pk Q i) + 1)⟩
def sh (K : Nat → Nat) (Q : Nat → Int) : Nat → Sh
  | 0 => ⟨fun _ => 0, fun _ => 0, fun _ => 0⟩
  | i + 1 => shStep K Q (sh K Q i) i

/-- The children of node i among the first k nodes. -/
def ch (par : Nat → Int) (k i : Nat) : List Nat := (List.range k).filter fun c => par c == (i : Int)
theorem ch_succ (par : Nat → Int) (k i : Nat) : ch par (k + 1) i = if par k = (i : Int) then ch par k i ++ [k] else ch par k i := by
  unfold ch
  rw [List.range_succ, List.filter_append]
  by_cases h : par k = (i : Int)
  · rw [if_pos h]; simp [h]
  · rw [if_neg h]; simp [h]
theorem ch_len (par : Nat → Int) (k i : Nat) : (ch par k i).length ≤ k := by
  unfold ch
  exact Nat.le_trans (List.length_filter_le _ _) (by simp)
theorem ch_congr (par par' : Nat → Int) (k i : Nat) (h : ∀ c, c < k → par c = par' c) : ch par k i = ch par' k i := by
  unfold ch
  refine List.filter_congr fun c hc => ?_
  rw [h c (by simpa using hc)]

/-- What the walks lean on: a node is the root (number 0), dropped, or hangs under an earlier one that is not dropped and takes children; a binary node's children are its first two, and the slot of a node is the number of its elder siblings. -/
structure Par (K : Nat → Nat) (n : Nat) (par : Nat → Int) (slot : Nat → Nat) : Prop where
  node : ∀ j, j < n → (j = 0 ∧ par j = -1) ∨ (0 < j ∧ par j = -2) ∨ ∃ p : Nat, p < j ∧ par j = p ∧ K p % 5 ≠ 0 ∧ par p ≠ -2
  slot : ∀ j p : Nat, j < n → par j = p → slot j = (ch par j p).length
  two : ∀ p k, k ≤ n → 3 ≤ K p % 5 → (ch par k p).length ≤ 2

structure Good (K : Nat → Nat) (n : Nat) (s : Sh) : Prop where
  par : Par K n s.par s.slot
  unset : ∀ j, n ≤ j → s.par j = 0
  cnt : ∀ p, s.cnt p = (ch s.par n p).length

theorem good (K : Nat → Nat) (Q : Nat → Int) : ∀ n, Good K n (sh K Q n)
  | 0 => ⟨⟨fun _ h => by omega, fun _ _ h => by omega, fun p k hk _ => by have : k = 0 := by omega
                                                                          subst this; simp [ch]⟩, fun _ _ => rfl, fun p => by simp [ch, sh]⟩
  | n + 1 => by
    have h := good K Q n
    show Good K (n + 1) (shStep K Q (sh K Q n) n)
    have hold : ∀ v : Int, ∀ j, j < n → upd (sh K Q n).par n v j = (sh K Q n).par j := fun v j hj => upd_other _ _ _ _ (by omega)
    have hch : ∀ v : Int, ∀ k i, k ≤ n → ch (upd (sh K Q n).par n v) k i = ch (sh K Q n).par k i := fun v k i hk => ch_congr _ _ _ _ fun c hc => hold v c (by omega)
    have hun : ∀ v : Int, ∀ j, n + 1 ≤ j → upd (sh K Q n).par n v j = 0 := fun v j hj => by rw [upd_other _ _ _ _ (by omega)]; exact h.unset j (by omega)
    have hnode : ∀ v : Int, ∀ j, j < n → (j = 0 ∧ upd (sh K Q n).par n v j = -1) ∨ (0 < j ∧ upd (sh K Q n).par n v j = -2) ∨ ∃ p : Nat, p < j ∧ upd (sh K Q n).par n v j = p ∧ K p % 5 ≠ 0 ∧ upd (sh K Q n).par n v p ≠ -2 := by
      intro v j hj
      rw [hold v j hj]
      rcases h.par.node j hj with h1 | h1 | ⟨p, h1, h2, h3, h4⟩
      · exact .inl h1
      · exact .inr (.inl h1)
      · exact .inr (.inr ⟨p, h1, h2, h3, by rw [hold v p (by omega)]; exact h4⟩)
    -- a node that gets no parent
    have hfree : ∀ v : Int, v < 0 → ((n = 0 ∧ v = -1) ∨ (0 < n ∧ v = -2)) → Good K (n + 1) ⟨upd (sh K Q n).par n v, (sh K Q n).slot, (sh K Q n).cnt⟩ := by
      intro v hv hv2
      have hsame : ∀ i, ch (upd (sh K Q n).par n v) (n + 1) i = ch (sh K Q n).par n i := fun i => by
        rw [ch_succ, if_neg (by rw [upd_same]; omega), hch v n i (Nat.le_refl _)]
      refine ⟨⟨fun j hj => ?_, fun j p hj hp => ?_, fun p k hk hK => ?_⟩, hun v, fun p => ?_⟩
      · by_cases e : j = n
        · subst e
          rcases hv2 with ⟨e0, rfl⟩ | ⟨e0, rfl⟩
          · exact .inl ⟨e0, upd_same _ _ _⟩
          · exact .inr (.inl ⟨e0, upd_same _ _ _⟩)
        · exact hnode v j (by omega)
      · by_cases e : j = n
        · subst e
          simp only [upd_same] at hp; omega
        · simp only [hold v j (by omega)] at hp
          simp only [hch v j p (by omega)]
          exact h.par.slot j p (by omega) hp
      · by_cases e : k = n + 1
        · subst e; simp only [hsame]; exact h.par.two p n (Nat.le_refl _) hK
        · simp only [hch v k p (by omega)]; exact h.par.two p k (by omega) hK
      · simp only [hsame]; exact h.cnt p
    unfold shStep
    split
    · rename_i e; exact hfree (-1) (by omega) (.inl ⟨e, rfl⟩)
    · rename_i hn0
      split
      · exact hfree (-2) (by omega) (.inr ⟨by omega, rfl⟩)
      · rename_i hc
        have hlt : pk Q n < n := Nat.mod_lt _ (by omega)
        obtain ⟨P, hP⟩ : ∃ P, P = pk Q n := ⟨_, rfl⟩
        rw [← hP] at hc hlt ⊢
        have hslt : ∀ v j, j < n → upd (sh K Q n).slot n v j = (sh K Q n).slot j := fun v j hj => upd_other _ _ _ _ (by omega)
        have hnew : ∀ i, ch (upd (sh K Q n).par n (P : Int)) (n + 1) i = if (P : Int) = (i : Int) then ch (sh K Q n).par n i ++ [n] else ch (sh K Q n).par n i := fun i => by
          rw [ch_succ, upd_same, hch _ n i (Nat.le_refl _)]
        refine ⟨⟨fun j hj => ?_, fun j p hj hp => ?_, fun p k hk hK => ?_⟩, hun _, fun p => ?_⟩
        · by_cases e : j = n
          · subst e
            refine .inr (.inr ⟨P, hlt, upd_same _ _ _, fun e => hc (.inr (.inl e)), fun e => hc (.inl ?_)⟩)
            rw [← e]; exact (hold _ _ hlt).symm
          · exact hnode _ j (by omega)
        · by_cases e : j = n
          · subst e
            simp only [upd_same] at hp ⊢
            have : P = p := by omega
            subst this
            rw [hch _ j P (Nat.le_refl _)]
            exact h.cnt P
          · simp only [hold _ j (by omega)] at hp
            simp only [hslt _ j (by omega), hch _ j p (by omega)]
            exact h.par.slot j p (by omega) hp
        · by_cases e : k = n + 1
          · subst e
            simp only [hnew]
            split
            · rename_i e2
              have : P = p := by omega
              subst this
              have h1 : ¬ 2 ≤ (sh K Q n).cnt P := fun h2 => hc (.inr (.inr ⟨hK, h2⟩))
              rw [h.cnt] at h1
              simp only [List.length_append, List.length_cons, List.length_nil]; omega
            · exact h.par.two p n (Nat.le_refl _) hK
          · simp only [hch _ k p (by omega)]; exact h.par.two p k (by omega) hK
        · simp only [hnew]
          by_cases e : p = P
          · subst e
            rw [if_pos rfl, upd_same, h.cnt]; simp
          · rw [if_neg (by omega), upd_other _ _ _ _ e, h.cnt]

/-- Once set, a node's parent stays. -/
theorem sh_stable (K : Nat → Nat) (Q : Nat → Int) (j : Nat) : ∀ n, j < n → (sh K Q n).par j = (sh K Q (j + 1)).par j
  | 0, h => by omega
  | n + 1, h => by
    by_cases e : j = n
    · subst e; rfl
    · rw [← sh_stable K Q j n (by omega)]
      show (shStep K Q (sh K Q n) n).par j = _
      unfold shStep
      split
      · exact upd_other _ _ _ _ e
      · split <;> exact upd_other _ _ _ _ e

/-! ### The search and the forward pass -/
/-- The search goes from node i on to its child c. -/
def lv (K : Nat → Nat) (slot : Nat → Nat) (i c : Nat) : Bool := K i % 5 == 1 || K i % 5 == 2 || (K i % 5 == 3 && slot c == 0)
def erAt (K : Nat → Nat) (par : Nat → Int) (slot : Nat → Nat) (S : Nat → Bool) (n : Nat) : Nat → Nat → Bool
  | 0, _ => false
  | f + 1, i => (List.range n).any fun c => par c == (i : Int) && ((K i % 5 == 2 && S c) || (lv K slot i c && erAt K par slot S n f c))
def er (K : Nat → Nat) (par : Nat → Int) (slot : Nat → Nat) (S : Nat → Bool) (n i : Nat) : Bool := erAt K par slot S n (n - i) i
/-- Which nodes the pass has marked behind the first i ones. -/
def lives (K : Nat → Nat) (par : Nat → Int) (slot : Nat → Nat) : Nat → Nat → Bool
  | 0 => fun j => j == 0
  | i + 1 => if 0 < i ∧ 0 ≤ par i ∧ lives K par slot i (par i).toNat = true ∧ lv K slot (par i).toNat i = true then upd (lives K par slot i) i true else lives K par slot i
def live (K : Nat → Nat) (par : Nat → Int) (slot : Nat → Nat) (j : Nat) : Bool := lives K par slot (j + 1) j

section
variable {K : Nat → Nat} {par : Nat → Int} {slot : Nat → Nat} {S : Nat → Bool} {n : Nat}
theorem lives_succ (i : Nat) : lives K par slot (i + 1) = if 0 < i ∧ 0 ≤ par i ∧ lives K par slot i (par i).toNat = true ∧ lv K slot (par i).toNat i = true then upd (lives K par slot i) i true else lives K par slot i := rfl
theorem lives_other (i j : Nat) (h : j ≠ i) : lives K par slot (i + 1) j = lives K par slot i j := by
  rw [lives_succ]; split
  · exact upd_other _ _ _ _ h
  · rfl
theorem lives_unset (j : Nat) (hj : 0 < j) : ∀ i, i ≤ j → lives K par slot i j = false
  | 0, _ => by simp [lives]; omega
  | i + 1, h => by rw [lives_other i j (by omega)]; exact lives_unset j hj i (by omega)
theorem lives_set (j : Nat) : ∀ i, j < i → lives K par slot i j = live K par slot j
  | 0, h => by omega
  | i + 1, h => by
    by_cases e : j = i
    · subst e; rfl
    · rw [lives_other i j e]; exact lives_set j i (by omega)
theorem live_zero : live K par slot 0 = true := by
  unfold live
  rw [lives_succ, if_neg (by omega)]; rfl
theorem live_iff (c p : Nat) (h : par c = (p : Int)) (hlt : p < c) : live K par slot c = true ↔ (live K par slot p = true ∧ lv K slot p c = true) := by
  have e : (par c).toNat = p := by omega
  have e2 : lives K par slot c p = live K par slot p := lives_set p c hlt
  have e3 : lives K par slot c c = false := lives_unset c (by omega) c (Nat.le_refl _)
  unfold live at e2 ⊢
  rw [lives_succ c, e, e2]
  split
  · rename_i hc; rw [upd_same]; exact ⟨fun _ => ⟨hc.2.2.1, hc.2.2.2⟩, fun _ => rfl⟩
  · rename_i hc
    rw [e3]
    exact ⟨(fun h => by cases h), fun h2 => absurd ⟨by omega, by omega, h2.1, h2.2⟩ hc⟩
theorem child_lt (hp : Par K n par slot) {c i : Nat} (hc : c < n) (h : par c = (i : Int)) : i < c ∧ K i % 5 ≠ 0 := by
  rcases hp.node c hc with ⟨_, h1⟩ | ⟨_, h1⟩ | ⟨p, h1, h2, h3, _⟩
  · omega
  · omega
  · have : p = i := by omega
    subst this; exact ⟨h1, h3⟩
theorem erAt_iff (f i : Nat) : erAt K par slot S n (f + 1) i = true ↔ ∃ c, c < n ∧ par c = (i : Int) ∧ ((K i % 5 = 2 ∧ S c = true) ∨ (lv K slot i c = true ∧ erAt K par slot S n f c = true)) := by
  simp only [erAt, List.any_eq_true, List.mem_range, Bool.and_eq_true, Bool.or_eq_true, beq_iff_eq]
theorem erAt_fuel (hp : Par K n par slot) : ∀ f i, n - i ≤ f → (erAt K par slot S n f i = true ↔ erAt K par slot S n (n - i) i = true)
  | 0, i, h => by rw [show n - i = 0 by omega]
  | f + 1, i, h => by
    rcases hni : n - i with _ | g
    · rw [erAt_iff]
      refine ⟨fun ⟨c, hc, h1, _⟩ => ?_, fun h => by simp [erAt] at h⟩
      have := (child_lt hp hc h1).1
      omega
    · rw [erAt_iff, erAt_iff]
      refine exists_congr fun c => and_congr_right fun hc => and_congr_right fun h1 => or_congr_right (and_congr_right fun _ => ?_)
      have hlt := (child_lt hp hc h1).1
      rw [erAt_fuel hp f c (by omega)]
      by_cases e : g = f + 1
      · omega
      · have : g < f + 1 := by omega
        rw [erAt_fuel hp g c (by omega)]
theorem er_iff (hp : Par K n par slot) (i : Nat) : er K par slot S n i = true ↔ ∃ c, c < n ∧ par c = (i : Int) ∧ ((K i % 5 = 2 ∧ S c = true) ∨ (lv K slot i c = true ∧ er K par slot S n c = true)) := by
  unfold er
  rcases hni : n - i with _ | g
  · refine ⟨fun h => by simp [erAt] at h, fun ⟨c, hc, h1, _⟩ => ?_⟩
    have := (child_lt hp hc h1).1
    omega
  · rw [erAt_iff]
    refine exists_congr fun c => and_congr_right fun hc => and_congr_right fun h1 => or_congr_right (and_congr_right fun _ => ?_)
    have hlt := (child_lt hp hc h1).1
    exact erAt_fuel hp g c (by omega)
/-- A marked object of which a child is spread. -/
def Found (K : Nat → Nat) (par : Nat → Int) (slot : Nat → Nat) (S : Nat → Bool) (m : Nat) : Prop := ∃ j p : Nat, j < m ∧ par j = (p : Int) ∧ live K par slot p = true ∧ K p % 5 = 2 ∧ S j = true
/-- The search from the root finds what the pass finds. -/
theorem er_found (hp : Par K n par slot) : er K par slot S n 0 = true ↔ Found K par slot S n := by
  have down : ∀ f p, n - p ≤ f → er K par slot S n p = true → live K par slot p = true → Found K par slot S n := by
    intro f
    induction f with
    | zero =>
      intro p h1 h2 _
      obtain ⟨c, hc, hc1, _⟩ := (er_iff hp p).1 h2
      have := (child_lt hp hc hc1).1
      omega
    | succ f ih =>
      intro p h1 h2 h3
      obtain ⟨c, hc, hc1, hc2⟩ := (er_iff hp p).1 h2
      have hlt := (child_lt hp hc hc1).1
      rcases hc2 with ⟨h4, h5⟩ | ⟨h4, h5⟩
      · exact ⟨c, p, hc, hc1, h3, h4, h5⟩
      · exact ih c (by omega) h5 ((live_iff c p hc1 hlt).2 ⟨h3, h4⟩)
  have up : ∀ p, p < n → er K par slot S n p = true → live K par slot p = true → er K par slot S n 0 = true := by
    intro p
    induction p using Nat.strongRecOn with
    | _ p ih =>
      intro hpn h1 h2
      by_cases e : p = 0
      · subst e; exact h1
      · rcases hp.node p hpn with ⟨h3, _⟩ | ⟨h3, h4⟩ | ⟨q, h3, h4, h5, h6⟩
        · exact absurd h3 e
        · unfold live at h2
          rw [lives_succ, if_neg (by omega), lives_unset p (by omega) p (Nat.le_refl _)] at h2
          cases h2
        · have := (live_iff p q h4 h3).1 h2
          exact ih q h3 (by omega) ((er_iff hp q).2 ⟨p, hpn, h4, .inr ⟨this.2, h1⟩⟩) this.1
  constructor
  · intro h; exact down n 0 (by omega) h live_zero
  · rintro ⟨j, p, h1, h2, h3, h4, h5⟩
    have hlt := (child_lt hp h1 h2).1
    exact up p (by omega) ((er_iff hp p).2 ⟨j, h1, h2, .inl ⟨h4, h5⟩⟩) h3
end
end Go.Proofs.Ytoeaockleddngaa.Ex
