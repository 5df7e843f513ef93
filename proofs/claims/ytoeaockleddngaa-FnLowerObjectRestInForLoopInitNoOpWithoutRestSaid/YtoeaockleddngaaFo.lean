/-
  Plain words on binding forests: the shape that a list of parents gives, the rest flags of its trees. No program stands here.
-/
namespace Go.Proofs.Ytoeaockleddngaa.Fo

/-- A function with one value changed. -/
def upd {α : Type} (f : Nat → α) (i : Nat) (v : α) : Nat → α := fun j => if j = i then v else f j
theorem upd_same {α : Type} (f : Nat → α) (i : Nat) (v : α) : upd f i v i = v := by simp [upd]
theorem upd_other {α : Type} (f : Nat → α) (i j : Nat) (v : α) (h : j ≠ i) : upd f i v j = f j := by simp [upd, h]

/-- The state of the walk over the parents: each node's parent (-1: a root; -2: dropped), the roots so far, where the present tree begins. -/
structure Sh where
  par : Nat → Int
  roots : List Nat
  start : Nat

/-- One node. 'K': the kinds; 'Q': the parents as they came in. -/
def shStep (K : Nat → Nat) (Q : Nat → Int) (s : Sh) (i : Nat) : Sh :=
  if i = 0 ∨ Q i < 0 then ⟨upd s.par i (-1), s.roots ++ [i], i⟩
  else if s.par (s.start + (Q i).toNat % (i - s.start)) = -2 ∨ K (s.start + (Q i).toNat % (i - s.start)) % 3 = 0 then ⟨upd s.par i (-2), s.roots, s.start⟩
  else ⟨upd s.par i ((s.start + (Q i).toNat % (i - s.start) : Nat) : Int), s.roots, s.start⟩
def sh (K : Nat → Nat) (Q : Nat → Int) : Nat → Sh
  | 0 => ⟨fun _ => 0, [], 0⟩
  | i + 1 => shStep K Q (sh K Q i) i

/-- What the shape of n nodes is good for. -/
structure Good (K : Nat → Nat) (n : Nat) (s : Sh) : Prop where
  start : 0 < n → s.start < n
  unset : ∀ j, n ≤ j → s.par j = 0
  par : ∀ j, j < n → s.par j = -1 ∨ s.par j = -2 ∨ ∃ p : Nat, p < j ∧ s.par j = p ∧ K p % 3 ≠ 0 ∧ s.par p ≠ -2
  roots : ∀ r ∈ s.roots, r < n ∧ s.par r = -1
  len : s.roots.length ≤ n

theorem good (K : Nat → Nat) (Q : Nat → Int) : ∀ n, Good K n (sh K Q n)
  | 0 => ⟨by omega, fun _ _ => rfl, fun _ h => by omega, fun r h => by simp [sh] at h, by simp [sh]⟩
  | n + 1 => by
    have h := good K Q n
    have hold : ∀ v : Int, ∀ j, j < n → upd (sh K Q n).par n v j = (sh K Q n).par j := fun v j hj => upd_other _ _ _ _ (by omega)
    have hpar : ∀ v : Int, ∀ j, j < n → upd (sh K Q n).par n v j = -1 ∨ upd (sh K Q n).par n v j = -2 ∨ ∃ p : Nat, p < j ∧ upd (sh K Q n).par n v j = p ∧ K p % 3 ≠ 0 ∧ upd (sh K Q n).par n v p ≠ -2 := by
      intro v j hj
      rw [hold v j hj]
      rcases h.par j hj with h1 | h1 | ⟨p, h1, h2, h3, h4⟩
      · exact .inl h1
      · exact .inr (.inl h1)
      · exact .inr (.inr ⟨p, h1, h2, h3, by rw [hold v p (by omega)]; exact h4⟩)
    have hun : ∀ v : Int, ∀ j, n + 1 ≤ j → upd (sh K Q n).par n v j = 0 := fun v j hj => by rw [upd_other _ _ _ _ (by omega)]; exact h.unset j (by omega)
    have hr : ∀ v : Int, ∀ r ∈ (sh K Q n).roots, r < n + 1 ∧ upd (sh K Q n).par n v r = -1 := fun v r hr => by
      have := h.roots r hr
      exact ⟨by omega, by rw [hold v r this.1]; exact this.2⟩
    show Good K (n + 1) (shStep K Q (sh K Q n) n)
    unfold shStep
    split
    · refine ⟨fun _ => by simp, hun _, fun j hj => ?_, fun r hr' => ?_, by have := h.len; simp; omega⟩
      · by_cases e : j = n
        · subst e; exact .inl (upd_same _ _ _)
        · exact hpar _ j (by omega)
      · simp only [List.mem_append, List.mem_singleton] at hr'
        rcases hr' with h1 | rfl
        · exact hr _ r h1
        · exact ⟨by omega, upd_same _ _ _⟩
    · rename_i hc
      have hn : 0 < n := by omega
      have hs := h.start hn
      split
      · refine ⟨fun _ => by simp; omega, hun _, fun j hj => ?_, hr _, by have := h.len; simp; omega⟩
        by_cases e : j = n
        · subst e; exact .inr (.inl (upd_same _ _ _))
        · exact hpar _ j (by omega)
      · rename_i hc2
        have hlt : (sh K Q n).start + (Q n).toNat % (n - (sh K Q n).start) < n := by
          have := Nat.mod_lt (Q n).toNat (show 0 < n - (sh K Q n).start by omega)
          omega
        refine ⟨fun _ => by simp; omega, hun _, fun j hj => ?_, hr _, by have := h.len; simp; omega⟩
        by_cases e : j = n
        · subst e
          refine .inr (.inr ⟨_, hlt, upd_same _ _ _, ?_, ?_⟩)
          · exact fun e => hc2 (.inr e)
          · intro e2
            have e3 := hold ((sh K Q j).start + (Q j).toNat % (j - (sh K Q j).start) : Nat) _ hlt
            exact hc2 (.inl (e3.symm.trans e2))
        · exact hpar _ j (by omega)

/-- Once set, a node's parent stays. -/
theorem sh_stable (K : Nat → Nat) (Q : Nat → Int) (j : Nat) : ∀ n, j < n → (sh K Q n).par j = (sh K Q (j + 1)).par j
  | 0, h => by omega
  | n + 1, h => by
    by_cases e : j = n
    · subst e; rfl
    · rw [← sh_stable K Q j n (by omega)]
      show (shStep K Q (sh K Q n) n).par j = _
      unfold shStep
      split
      · exact upd_other _ _ _ _ e
      · split <;> exact upd_other _ _ _ _ e

/-! ### Which roots' trees bear a rest -/
structure Rs where
  own : Nat → Int
  rest : Nat → Bool
def rsStep (K : Nat → Nat) (par : Nat → Int) (S : Nat → Bool) (s : Rs) (i : Nat) : Rs :=
  if par i = -1 then ⟨upd s.own i (i : Int), s.rest⟩
  else if par i < 0 then ⟨upd s.own i (-1), s.rest⟩
  else if K (par i).toNat % 3 = 2 ∧ S i = true then ⟨upd s.own i (s.own (par i).toNat), upd s.rest (s.own (par i).toNat).toNat true⟩
  else ⟨upd s.own i (s.own (par i).toNat), s.rest⟩
def rs (K : Nat → Nat) (par : Nat → Int) (S : Nat → Bool) : Nat → Rs
  | 0 => ⟨fun _ => 0, fun _ => false⟩
  | i + 1 => rsStep K par S (rs K par S i) i

/-- A node of whatever parents as the shape has them. -/
def Par (K : Nat → Nat) (n : Nat) (par : Nat → Int) : Prop := ∀ j, j < n → par j = -1 ∨ par j = -2 ∨ ∃ p : Nat, p < j ∧ par j = p ∧ K p % 3 ≠ 0 ∧ par p ≠ -2

/-- Node i bears a rest: some child is a spread property of it (it is an object), or bears one. The first number bounds the depth. -/
def hrAt (K : Nat → Nat) (par : Nat → Int) (S : Nat → Bool) (n : Nat) : Nat → Nat → Bool
  | 0, _ => false
  | f + 1, i => (List.range n).any fun c => par c == (i : Int) && ((K i % 3 == 2 && S c) || hrAt K par S n f c)
def hr (K : Nat → Nat) (par : Nat → Int) (S : Nat → Bool) (n i : Nat) : Bool := hrAt K par S n (n - i) i

section
variable {K : Nat → Nat} {par : Nat → Int} {S : Nat → Bool} {n : Nat}

theorem hrAt_iff (f i : Nat) : hrAt K par S n (f + 1) i = true ↔ ∃ c, c < n ∧ par c = (i : Int) ∧ ((K i % 3 = 2 ∧ S c = true) ∨ hrAt K par S n f c = true) := by
  simp only [hrAt, List.any_eq_true, List.mem_range, Bool.and_eq_true, Bool.or_eq_true, beq_iff_eq]
theorem child_lt (hp : Par K n par) {c i : Nat} (hc : c < n) (h : par c = (i : Int)) : i < c ∧ K i % 3 ≠ 0 := by
  rcases hp c hc with h1 | h1 | ⟨p, h1, h2, h3, _⟩
  · omega
  · omega
  · have : p = i := by omega
    subst this; exact ⟨h1, h3⟩
theorem hrAt_fuel (hp : Par K n par) : ∀ f i, n - i ≤ f → (hrAt K par S n f i = true ↔ hrAt K par S n (n - i) i = true)
  | 0, i, h => by rw [show n - i = 0 by omega]
  | f + 1, i, h => by
    rcases hni : n - i with _ | g
    · rw [hrAt_iff]
      refine ⟨fun ⟨c, hc, h1, _⟩ => ?_, fun h => by simp [hrAt] at h⟩
      have := (child_lt hp hc h1).1
      omega
    · rw [hrAt_iff, hrAt_iff]
      refine exists_congr fun c => and_congr_right fun hc => and_congr_right fun h1 => or_congr_right ?_
      have hlt := (child_lt hp hc h1).1
      rw [hrAt_fuel hp f c (by omega)]
      by_cases e : g = f + 1
      · omega
      · have : g < f + 1 := by omega
        rw [hrAt_fuel hp g c (by omega)]
theorem hr_iff (hp : Par K n par) (i : Nat) : hr K par S n i = true ↔ ∃ c, c < n ∧ par c = (i : Int) ∧ ((K i % 3 = 2 ∧ S c = true) ∨ hr K par S n c = true) := by
  unfold hr
  rcases hni : n - i with _ | g
  · refine ⟨fun h => by simp [hrAt] at h, fun ⟨c, hc, h1, _⟩ => ?_⟩
    have := (child_lt hp hc h1).1
    omega
  · rw [hrAt_iff]
    refine exists_congr fun c => and_congr_right fun hc => and_congr_right fun h1 => or_congr_right ?_
    have hlt := (child_lt hp hc h1).1
    exact hrAt_fuel hp g c (by omega)

theorem rs_own_stable (j : Nat) : ∀ m, j < m → (rs K par S m).own j = (rs K par S (j + 1)).own j
  | 0, h => by omega
  | m + 1, h => by
    by_cases e : j = m
    · subst e; rfl
    · rw [← rs_own_stable j m (by omega)]
      show (rsStep K par S (rs K par S m) m).own j = _
      unfold rsStep
      split
      · exact upd_other _ _ _ _ e
      · split
        · exact upd_other _ _ _ _ e
        · split <;> exact upd_other _ _ _ _ e
/-- The root of a node's tree. -/
def ow (K : Nat → Nat) (par : Nat → Int) (S : Nat → Bool) (j : Nat) : Int := (rs K par S (j + 1)).own j
theorem rs_own (j m : Nat) (h : j < m) : (rs K par S m).own j = ow K par S j := rs_own_stable j m h
theorem ow_root (j : Nat) (h : par j = -1) : ow K par S j = j := by
  show (rsStep K par S (rs K par S j) j).own j = _
  unfold rsStep
  rw [if_pos h]; exact upd_same _ _ _
theorem ow_child (j p : Nat) (h : par j = (p : Int)) (hlt : p < j) : ow K par S j = ow K par S p := by
  show (rsStep K par S (rs K par S j) j).own j = _
  unfold rsStep
  rw [if_neg (by omega), if_neg (by omega)]
  have e : (par j).toNat = p := by omega
  rw [e]
  split
  · show upd _ _ _ _ = _; rw [upd_same]; exact rs_own p j hlt
  · show upd _ _ _ _ = _; rw [upd_same]; exact rs_own p j hlt
/-- A node that is not dropped has a root, no later than itself. -/
theorem ow_range (hp : Par K n par) : ∀ j, j < n → par j ≠ -2 → ∃ r : Nat, r ≤ j ∧ ow K par S j = r ∧ par r = -1 := by
  intro j
  induction j using Nat.strongRecOn with
  | _ j ih =>
    intro hj hd
    rcases hp j hj with h1 | h1 | ⟨p, h1, h2, h3, h4⟩
    · exact ⟨j, Nat.le_refl _, ow_root j h1, h1⟩
    · exact absurd h1 hd
    · obtain ⟨r, h5, h6, h7⟩ := ih p h1 (by omega) h4
      exact ⟨r, by omega, by rw [ow_child j p h2 h1]; exact h6, h7⟩
theorem rest_iff (hp : Par K n par) (r : Nat) : ∀ m, m ≤ n → ((rs K par S m).rest r = true ↔ ∃ j p : Nat, j < m ∧ par j = (p : Int) ∧ K p % 3 = 2 ∧ S j = true ∧ ow K par S j = r)
  | 0, _ => by simp [rs]
  | m + 1, hm => by
    have ih := rest_iff hp r m (by omega)
    show (rsStep K par S (rs K par S m) m).rest r = true ↔ _
    have hsame : (∀ p : Nat, par m = (p : Int) → ¬(K p % 3 = 2 ∧ S m = true)) → ((rs K par S m).rest r = true ↔ ∃ j p : Nat, j < m + 1 ∧ par j = (p : Int) ∧ K p % 3 = 2 ∧ S j = true ∧ ow K par S j = r) := by
      intro hno
      rw [ih]
      refine ⟨fun ⟨j, p, h1, h2⟩ => ⟨j, p, by omega, h2⟩, fun ⟨j, p, h1, h2, h3, h4, h5⟩ => ⟨j, p, ?_, h2, h3, h4, h5⟩⟩
      by_cases e : j = m
      · subst e; exact absurd ⟨h3, h4⟩ (hno p h2)
      · omega
    unfold rsStep
    split
    · rename_i h; exact hsame fun p h2 => by omega
    · split
      · rename_i h; exact hsame fun p h2 => by omega
      · rename_i h1 h2
        rcases hp m (by omega) with h3 | h3 | ⟨p, h3, h4, h5, h6⟩
        · omega
        · omega
        · have e : (par m).toNat = p := by omega
          rw [e]
          split
          · rename_i hc
            obtain ⟨q, hq1, hq2, hq3⟩ := ow_range (S := S) hp p (by omega) h6
            rw [rs_own p m h3, hq2]
            show upd _ _ _ _ = true ↔ _
            simp only [Int.toNat_natCast]
            by_cases er : r = q
            · subst er
              rw [upd_same]
              refine ⟨fun _ => ⟨m, p, by omega, h4, hc.1, hc.2, ?_⟩, fun _ => rfl⟩
              rw [ow_child m p h4 h3]; exact hq2
            · rw [upd_other _ _ _ _ er, ih]
              refine ⟨fun ⟨j, p, h1, h2⟩ => ⟨j, p, by omega, h2⟩, fun ⟨j, p', k1, k2, k3, k4, k5⟩ => ⟨j, p', ?_, k2, k3, k4, k5⟩⟩
              by_cases e : j = m
              · subst e
                rw [ow_child j p h4 h3, hq2] at k5
                exact absurd (by omega) er
              · omega
          · rename_i hc
            refine hsame fun p' hp' hcc => hc ?_
            have : p' = p := by omega
            subst this; exact hcc

/-- The rest flag of a root says whether its tree bears a rest. -/
theorem rest_root (hp : Par K n par) (r : Nat) (hr1 : r < n) (hr2 : par r = -1) : (rs K par S n).rest r = hr K par S n r := by
  have up : ∀ p, p < n → hr K par S n p = true → ow K par S p = r → par p ≠ -2 → hr K par S n r = true := by
    intro p
    induction p using Nat.strongRecOn with
    | _ p ih =>
      intro hpn h1 h2 h3
      rcases hp p hpn with h4 | h4 | ⟨q, h4, h5, h6, h7⟩
      · rw [ow_root p h4] at h2
        have : p = r := by omega
        subst this; exact h1
      · exact absurd h4 h3
      · refine ih q h4 (by omega) ?_ ?_ h7
        · rw [hr_iff hp]; exact ⟨p, hpn, h5, .inr h1⟩
        · rw [← ow_child p q h5 h4]; exact h2
  have down : ∀ f p, n - p ≤ f → p < n → hr K par S n p = true → ow K par S p = r → (rs K par S n).rest r = true := by
    intro f
    induction f with
    | zero => intro p h1 h2; omega
    | succ f ih =>
      intro p h1 h2 h3 h4
      obtain ⟨c, hc, hc1, hc2⟩ := (hr_iff hp p).1 h3
      have hlt := (child_lt hp hc hc1).1
      have e := ow_child (K := K) (S := S) c p hc1 hlt
      rcases hc2 with ⟨h5, h6⟩ | h5
      · exact (rest_iff hp r n (Nat.le_refl _)).2 ⟨c, p, hc, hc1, h5, h6, by rw [e]; exact h4⟩
      · exact ih c (by omega) hc h5 (by rw [e]; exact h4)
  rw [Bool.eq_iff_iff]
  constructor
  · intro h
    obtain ⟨j, p, h1, h2, h3, h4, h5⟩ := (rest_iff hp r n (Nat.le_refl _)).1 h
    have hlt := (child_lt hp h1 h2).1
    have hd : par p ≠ -2 := by
      rcases hp j h1 with k | k | ⟨q, k1, k2, k3, k4⟩
      · omega
      · omega
      · have : q = p := by omega
        subst this; exact k4
    refine up p (by omega) ?_ ?_ hd
    · rw [hr_iff hp]; exact ⟨j, h1, h2, .inl ⟨h3, h4⟩⟩
    · rw [← ow_child j p h2 hlt]; exact h5
  · intro h
    exact down n r (by omega) hr1 h (ow_root r hr2)
end
end Go.Proofs.Ytoeaockleddngaa.Fo
