import Derived.Test.YtoeaockleddngaaW4
namespace Go.Proofs.Ytoeaockleddngaa
open Go Go.RowKit
set_option maxRecDepth 100000
set_option linter.unusedVariables false

/-- The children of node i among the first k nodes. -/
def ch (par : Nat → Int) (k i : Nat) : List Nat := (List.range k).filter fun c => par c == (i : Int)
theorem ch_succ (par : Nat → Int) (k i : Nat) : ch par (k + 1) i = if par k = (i : Int) then ch par k i ++ [k] else ch par k i := by
  unfold ch
  rw [List.range_succ, List.filter_append]
  by_cases h : par k = (i : Int)
  · rw [if_pos h]; simp [h]
  · rw [if_neg h]; simp [h]
theorem ch_len (par : Nat → Int) (k i : Nat) : (ch par k i).length ≤ k := by
  unfold ch
  exact Nat.le_trans (List.length_filter_le _ _) (by simp)
def itemA (K : Nat → Nat) (w0 c : Nat) : List Value := [nodeV (K c) (w0 + 3 + c), .int .i32 0, .nilIface, .int .i32 0, .int .i32 0]
def itemO (K : Nat → Nat) (S : Nat → Bool) (w0 c : Nat) : List Value := [.nilIface, .int .i32 0, nodeV (K c) (w0 + 3 + c), .int .i32 0, .nilIface, .int .i32 0, .int .i32 0, .int .i32 0, .bool false, .bool (S c), .bool false]

theorem own_of_block {w w' : World} {B : Nat} {e : TypeId} {size n : Nat} {v : Value} {xs : List Value} (h : w.ownsRow B e size v n xs) (hb : ∀ g, v.ownBlock = some g → w'.heap[g]? = w.heap[g]?) : w'.ownsRow B e size v n xs := by
  refine ⟨h.1, ?_⟩
  rcases h.2 with hn | ⟨g, cap, cur, rfl, hbg, hgg, rest⟩
  · exact .inl hn
  · exact .inr ⟨g, cap, cur, rfl, hbg, by rw [hb g rfl]; exact hgg, rest⟩

/-- The forest while the first k nodes have been hung under their parents; V: the row of each node. -/
structure Grow (K : Nat → Nat) (par : Nat → Int) (S : Nat → Bool) (n w0 : Nat) (wr : World) (k : Nat) (V : Nat → Value) : Prop where
  bs : wr.rowIs w0 45 (n * 2) (bsV K w0 n)
  arrs : wr.rowIs (w0 + 1) 93 n (arrV K w0 n)
  objs : wr.rowIs (w0 + 2) 97 n (objV K w0 n)
  node : ∀ i, i < n → Blk wr (w0 + 3 + i) (nodeCells (K i) (V i)) (nodeTy (K i))
  a : ∀ i, i < n → K i % 3 = 1 → wr.ownsRow (w0 + 3 + n) 105 5 (V i) (ch par k i).length ((ch par k i).flatMap (itemA K w0))
  o : ∀ i, i < n → K i % 3 = 2 → wr.ownsRow (w0 + 3 + n) 107 11 (V i) (ch par k i).length ((ch par k i).flatMap (itemO K S w0))
  apart : ∀ i j, i < n → j < n → i ≠ j → K i % 3 ≠ 0 → K j % 3 ≠ 0 → (V i).ownBlock = none ∨ (V i).ownBlock ≠ (V j).ownBlock
  size : w0 + 3 + n ≤ wr.heap.size

section
variable {K : Nat → Nat} {par : Nat → Int} {S : Nat → Bool} {n w0 : Nat} {wr : World} {k : Nat} {V : Nat → Value}

theorem grow_start (h : Laid K n w0 wr n) : Grow K par S n w0 wr 0 fun _ => nilS := by
  refine ⟨h.bs, h.arrs, h.objs, h.node, ?_, ?_, ?_, Nat.le_of_eq h.size.symm⟩
  · intro i _ _; exact World.ownsRow_nil _ _ _ _
  · intro i _ _; exact World.ownsRow_nil _ _ _ _
  · intro i j _ _ _ _ _; exact .inl rfl
/-- A node that is not hung. -/
theorem Grow.skip (h : Grow K par S n w0 wr k V) (hp : par k < 0) : Grow K par S n w0 wr (k + 1) V := by
  have e : ∀ i, ch par (k + 1) i = ch par k i := fun i => by rw [ch_succ, if_neg (by omega)]
  exact ⟨h.bs, h.arrs, h.objs, h.node, fun i hi h1 => by rw [e]; exact h.a i hi h1, fun i hi h1 => by rw [e]; exact h.o i hi h1, h.apart, h.size⟩
theorem Grow.low (h : Grow K par S n w0 wr k V) (i : Nat) (hi : i < n) (hK : K i % 3 ≠ 0) (g : Nat) (hg : (V i).ownBlock = some g) : w0 + 3 + n ≤ g ∧ g < wr.heap.size := by
  have h3 : K i % 3 = 1 ∨ K i % 3 = 2 := by omega
  rcases h3 with h1 | h1
  · exact (h.a i hi h1).lt g hg
  · exact (h.o i hi h1).lt g hg

/-- A child has been appended to node p's row: in 'wa' the row lay at V p; 'w1' is what append left; then the row's new value is stored. -/
theorem Grow.step (h : Grow K par S n w0 wr k V) {p : Nat} (hpn : p < n) (hkp : par k = (p : Int)) (hKp : K p % 3 ≠ 0) {wa w1 : World} {o : Obj} (hwa : wa.heap = (wr.alloc o).heap)
    (hg : wa.grownBy w1 (V p).ownBlock) {v1 : Value} (hwh : ∃ g, v1.ownBlock = some g ∧ ((V p).ownBlock = some g ∨ wa.heap.size ≤ g))
    (ha : K p % 3 = 1 → w1.ownsRow (w0 + 3 + n) 105 5 v1 ((ch par k p).length + 1) ((ch par k p).flatMap (itemA K w0) ++ itemA K w0 k))
    (ho : K p % 3 = 2 → w1.ownsRow (w0 + 3 + n) 107 11 v1 ((ch par k p).length + 1) ((ch par k p).flatMap (itemO K S w0) ++ itemO K S w0 k)) :
    Grow K par S n w0 (w1.setCell ⟨w0 + 3 + p, 0, none⟩ v1) (k + 1) (Fo.upd V p v1) := by
  have hsz : wa.heap.size = wr.heap.size + 1 := by rw [hwa]; simp
  have hold : ∀ b, b < wr.heap.size → (V p).ownBlock ≠ some b → w1.heap[b]? = wr.heap[b]? := by
    intro b hb hne
    rw [hg.block b (by omega) (fun e => hne e.symm), hwa]
    exact Below.heap_alloc wr o b hb
  have hlow : ∀ b, b < w0 + 3 + n → (V p).ownBlock ≠ some b := fun b hb e => by have := (h.low p hpn hKp b e).1; omega
  have hsize := h.size
  have hT : ∀ b, b < wr.heap.size → (V p).ownBlock ≠ some b → b ≠ w0 + 3 + p → (w1.setCell ⟨w0 + 3 + p, 0, none⟩ v1).heap[b]? = wr.heap[b]? := by
    intro b hb hne hne2
    rw [Below.heap_setCell _ _ _ _ hne2]
    exact hold b hb hne
  obtain ⟨g1, hg1, hg2⟩ := hwh
  have hg1ge : w0 + 3 + n ≤ g1 := by
    rcases hg2 with e | e
    · exact (h.low p hpn hKp g1 e).1
    · omega
  have hne1 : ∀ i, i ≠ p → ch par (k + 1) i = ch par k i := fun i hi => by rw [ch_succ, if_neg (by omega)]
  have hch : ch par (k + 1) p = ch par k p ++ [k] := by rw [ch_succ, if_pos hkp]
  refine ⟨h.bs.of_block (hT _ h.bs.lt (hlow _ (by omega)) (by omega)), h.arrs.of_block (hT _ h.arrs.lt (hlow _ (by omega)) (by omega)), h.objs.of_block (hT _ h.objs.lt (hlow _ (by omega)) (by omega)), ?_, ?_, ?_, ?_, ?_⟩
  · intro i hi
    by_cases e : i = p
    · subst e
      rw [Fo.upd_same]
      have hb : Blk w1 (w0 + 3 + i) (nodeCells (K i) (V i)) (nodeTy (K i)) := by
        have := h.node i hi
        unfold Blk at this ⊢
        rw [hold _ (by omega) (hlow _ (by omega))]; exact this
      have := hb.setSame 0 v1
      have e2 : (nodeCells (K i) (V i)).set 0 v1 = nodeCells (K i) v1 := by
        unfold nodeCells
        have h3 : K i % 3 = 1 ∨ K i % 3 = 2 := by omega
        rcases h3 with h1 | h1
        · rw [if_pos h1, if_pos h1]; rfl
        · rw [if_neg (by omega), if_pos h1, if_neg (by omega), if_pos h1]; rfl
      rw [e2] at this
      exact this
    · rw [Fo.upd_other _ _ _ _ e]
      have := h.node i hi
      unfold Blk at this ⊢
      rw [hT _ (by omega) (hlow _ (by omega)) (by omega)]; exact this
  · intro i hi h1
    by_cases e : i = p
    · subst e
      rw [Fo.upd_same, hch, List.length_append, List.flatMap_append]
      have := own_setOther (a := ⟨w0 + 3 + i, 0, none⟩) (ha h1) (by rw [hg1]; simp; omega) v1
      simpa using this
    · rw [Fo.upd_other _ _ _ _ e, hne1 i e]
      refine own_of_block (h.a i hi h1) fun g hgi => ?_
      have hl := h.low i hi (by omega) g hgi
      refine hT g hl.2 (fun e2 => ?_) (by omega)
      rcases h.apart i p hi hpn e (by omega) hKp with h2 | h2
      · rw [hgi] at h2; cases h2
      · exact h2 (hgi.trans e2.symm)
  · intro i hi h1
    by_cases e : i = p
    · subst e
      rw [Fo.upd_same, hch, List.length_append, List.flatMap_append]
      have := own_setOther (a := ⟨w0 + 3 + i, 0, none⟩) (ho h1) (by rw [hg1]; simp; omega) v1
      simpa using this
    · rw [Fo.upd_other _ _ _ _ e, hne1 i e]
      refine own_of_block (h.o i hi h1) fun g hgi => ?_
      have hl := h.low i hi (by omega) g hgi
      refine hT g hl.2 (fun e2 => ?_) (by omega)
      rcases h.apart i p hi hpn e (by omega) hKp with h2 | h2
      · rw [hgi] at h2; cases h2
      · exact h2 (hgi.trans e2.symm)
  · have hnew : ∀ j, j < n → j ≠ p → K j % 3 ≠ 0 → (V j).ownBlock ≠ some g1 := by
      intro j hj hjp hKj e
      have hl := h.low j hj hKj g1 e
      rcases hg2 with e2 | e2
      · rcases h.apart j p hj hpn hjp hKj hKp with h2 | h2
        · rw [e] at h2; cases h2
        · exact h2 (e.trans e2.symm)
      · omega
    intro i j hi hj hij hKi hKj
    by_cases e : i = p
    · subst e
      rw [Fo.upd_same, Fo.upd_other _ _ _ _ (fun e => hij e.symm)]
      exact .inr (by rw [hg1]; exact fun e => hnew j hj (fun e => hij e.symm) hKj e.symm)
    · rw [Fo.upd_other _ _ _ _ e]
      by_cases e2 : j = p
      · subst e2
        rw [Fo.upd_same]
        exact .inr (by rw [hg1]; exact hnew i hi e hKi)
      · rw [Fo.upd_other _ _ _ _ e2]
        exact h.apart i j hi hj hij hKi hKj
  · have := hg.size
    rw [size_set]; omega
end
end Go.Proofs.Ytoeaockleddngaa
