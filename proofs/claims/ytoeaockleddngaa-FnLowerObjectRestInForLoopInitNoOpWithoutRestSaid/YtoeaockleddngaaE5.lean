/- Expression trees in memory, while their children are hung. -/
import Derived.Test.YtoeaockleddngaaE4
namespace Go.Proofs.Ytoeaockleddngaa
open Go Go.RowKit
set_option maxRecDepth 100000
set_option linter.unusedVariables false
namespace En
def itemE (K : Nat → Nat) (w0 c : Nat) : List Value := [nodeV (K c) (w0 + 4 + c), .int .i32 0]
def itemP (K : Nat → Nat) (S : Nat → Bool) (w0 c : Nat) : List Value := [.pointer none, .nilIface, .int .i32 0, nodeV (K c) (w0 + 4 + c), .int .i32 0, .nilIface, .int .i32 0, .slice none 0 0, .int .i32 0, .int .i32 0, .int .u8 (if S c then 5 else 0), .int .u8 0]
/-- The t-th child of a binary node, as its cell has it. -/
def kid (K : Nat → Nat) (par : Nat → Int) (w0 k i t : Nat) : Value := match (ch par k i)[t]? with | some c => nodeV (K c) (w0 + 4 + c) | none => .nilIface

structure Grow (K : Nat → Nat) (par : Nat → Int) (S : Nat → Bool) (n w0 : Nat) (wr : World) (k : Nat) (V : Nat → Value) : Prop where
  es : wr.rowIs w0 49 (n * 2) (esV K w0 n)
  qa : wr.rowIs (w0 + 1) 232 n (aV K w0 n)
  qo : wr.rowIs (w0 + 1 + 1) 235 n (oV K w0 n)
  qb : wr.rowIs (w0 + 1 + 1 + 1) 239 n (bV K w0 n)
  node : ∀ i, i < n → Blk wr (w0 + 4 + i) (cells (K i) (V i) (kid K par w0 k i 0) (kid K par w0 k i 1)) (ty (K i))
  a : ∀ i, i < n → K i % 5 = 1 → wr.ownsRow (w0 + 4 + n) 49 2 (V i) (ch par k i).length ((ch par k i).flatMap (itemE K w0))
  o : ∀ i, i < n → K i % 5 = 2 → wr.ownsRow (w0 + 4 + n) 248 12 (V i) (ch par k i).length ((ch par k i).flatMap (itemP K S w0))
  apart : ∀ i j, i < n → j < n → i ≠ j → (K i % 5 = 1 ∨ K i % 5 = 2) → (K j % 5 = 1 ∨ K j % 5 = 2) → (V i).ownBlock = none ∨ (V i).ownBlock ≠ (V j).ownBlock
  size : w0 + 4 + n ≤ wr.heap.size

theorem kid_nil (K : Nat → Nat) (par : Nat → Int) (w0 i t : Nat) : kid K par w0 0 i t = .nilIface := by simp [kid, ch]
theorem nodeV_one (k b : Nat) : (nodeV k b).oneCell' = true := by
  unfold nodeV; split
  · rfl
  · split
    · rfl
    · split <;> rfl
theorem nodeV_form (k b : Nat) : ∃ t v, nodeV k b = .iface t v := by
  unfold nodeV; split
  · exact ⟨_, _, rfl⟩
  · split
    · exact ⟨_, _, rfl⟩
    · split <;> exact ⟨_, _, rfl⟩
theorem cells_v {k : Nat} (hk : k % 5 = 1 ∨ k % 5 = 2) (v l r : Value) : cells k v l r = [v, .int .i32 0, .int .i32 0, .bool false, .bool false] := by unfold cells; rw [if_pos hk]
theorem cells_b {k : Nat} (hk : 3 ≤ k % 5) (v l r : Value) : cells k v l r = [l, .int .i32 0, r, .int .i32 0, .int .u8 (opOf k), .bool false] := by unfold cells; rw [if_neg (by omega), if_neg (by omega)]
theorem cells_lr {k : Nat} (hk : ¬ 3 ≤ k % 5) (v l r l' r' : Value) : cells k v l r = cells k v l' r' := by
  unfold cells
  by_cases h1 : k % 5 = 1 ∨ k % 5 = 2
  · rw [if_pos h1, if_pos h1]
  · rw [if_neg h1, if_neg h1, if_pos (by omega), if_pos (by omega)]

section
variable {K : Nat → Nat} {par : Nat → Int} {S : Nat → Bool} {n w0 : Nat} {wr : World} {k : Nat} {V : Nat → Value}
theorem grow_start (h : Laid K n w0 wr n) : Grow K par S n w0 wr 0 fun _ => nilS := by
  refine ⟨h.es, h.qa, h.qo, h.qb, fun i hi => ?_, ?_, ?_, ?_, Nat.le_of_eq h.size.symm⟩
  · rw [kid_nil, kid_nil]; exact h.node i hi
  · intro i _ _; exact World.ownsRow_nil _ _ _ _
  · intro i _ _; exact World.ownsRow_nil _ _ _ _
  · intro i j _ _ _ _ _; exact .inl rfl
theorem Grow.heap (h : Grow K par S n w0 wr k V) {W : World} (e : W.heap = wr.heap) : Grow K par S n w0 W k V := by
  refine ⟨h.es.of_block (by rw [e]), h.qa.of_block (by rw [e]), h.qo.of_block (by rw [e]), h.qb.of_block (by rw [e]), fun i hi => ?_, fun i hi h1 => own_of_block (h.a i hi h1) fun g _ => by rw [e], fun i hi h1 => own_of_block (h.o i hi h1) fun g _ => by rw [e], h.apart, by rw [e]; exact h.size⟩
  have := h.node i hi
  unfold Blk at this ⊢
  rw [e]; exact this
theorem Grow.later {w' : World} (h : Grow K par S n w0 wr k V) (hb : Below wr.heap.size wr w') : Grow K par S n w0 w' k V := by
  have hs := h.size
  have hs2 := hb.size
  exact ⟨rowIs_below h.es hb (Nat.le_refl _), rowIs_below h.qa hb (Nat.le_refl _), rowIs_below h.qo hb (Nat.le_refl _), rowIs_below h.qb hb (Nat.le_refl _), fun i hi => (h.node i hi).below hb (h.node i hi).lt, fun i hi h1 => ownsRow_below (h.a i hi h1) hb, fun i hi h1 => ownsRow_below (h.o i hi h1) hb, h.apart, by omega⟩
/-- A store below the tree. -/
theorem Grow.setLow (h : Grow K par S n w0 wr k V) {a : Addr} (ha : a.block < w0) (v : Value) : Grow K par S n w0 (wr.setCell a v) k V := by
  have hT : ∀ b, w0 ≤ b → (wr.setCell a v).heap[b]? = wr.heap[b]? := fun b hb => Below.heap_setCell _ _ _ _ (by omega)
  refine ⟨h.es.of_block (hT _ (by omega)), h.qa.of_block (hT _ (by omega)), h.qo.of_block (hT _ (by omega)), h.qb.of_block (hT _ (by omega)), fun i hi => ?_, fun i hi h1 => own_of_block (h.a i hi h1) fun g hg => hT g ?_, fun i hi h1 => own_of_block (h.o i hi h1) fun g hg => hT g ?_, h.apart, by rw [size_set]; exact h.size⟩
  · have := h.node i hi
    unfold Blk at this ⊢
    rw [hT _ (by omega)]; exact this
  · have := ((h.a i hi h1).lt g hg).1; omega
  · have := ((h.o i hi h1).lt g hg).1; omega
theorem kid_same {i : Nat} (h : par k ≠ (i : Int)) (t : Nat) : kid K par w0 (k + 1) i t = kid K par w0 k i t := by
  unfold kid; rw [ch_succ, if_neg h]
/-- A node that is not hung. -/
theorem Grow.skip (h : Grow K par S n w0 wr k V) (hp : par k < 0) : Grow K par S n w0 wr (k + 1) V := by
  have e : ∀ i, ch par (k + 1) i = ch par k i := fun i => by rw [ch_succ, if_neg (by omega)]
  refine ⟨h.es, h.qa, h.qo, h.qb, fun i hi => ?_, fun i hi h1 => by rw [e]; exact h.a i hi h1, fun i hi h1 => by rw [e]; exact h.o i hi h1, h.apart, h.size⟩
  rw [kid_same (by omega), kid_same (by omega)]; exact h.node i hi
theorem Grow.low (h : Grow K par S n w0 wr k V) (i : Nat) (hi : i < n) (hK : K i % 5 = 1 ∨ K i % 5 = 2) (g : Nat) (hg : (V i).ownBlock = some g) : w0 + 4 + n ≤ g ∧ g < wr.heap.size := by
  rcases hK with h1 | h1
  · exact (h.a i hi h1).lt g hg
  · exact (h.o i hi h1).lt g hg

/-- A child has been appended to node p's row. -/
theorem Grow.step (h : Grow K par S n w0 wr k V) {p : Nat} (hpn : p < n) (hkp : par k = (p : Int)) (hKp : K p % 5 = 1 ∨ K p % 5 = 2) {wa w1 : World} {o : Obj} (hwa : wa.heap = (wr.alloc o).heap)
    (hg : wa.grownBy w1 (V p).ownBlock) {v1 : Value} (hwh : ∃ g, v1.ownBlock = some g ∧ ((V p).ownBlock = some g ∨ wa.heap.size ≤ g))
    (ha : K p % 5 = 1 → w1.ownsRow (w0 + 4 + n) 49 2 v1 ((ch par k p).length + 1) ((ch par k p).flatMap (itemE K w0) ++ itemE K w0 k))
    (ho : K p % 5 = 2 → w1.ownsRow (w0 + 4 + n) 248 12 v1 ((ch par k p).length + 1) ((ch par k p).flatMap (itemP K S w0) ++ itemP K S w0 k)) :
    Grow K par S n w0 (w1.setCell ⟨w0 + 4 + p, 0, none⟩ v1) (k + 1) (Fo.upd V p v1) := by
  have hsz : wa.heap.size = wr.heap.size + 1 := by rw [hwa]; simp
  have hold : ∀ b, b < wr.heap.size → (V p).ownBlock ≠ some b → w1.heap[b]? = wr.heap[b]? := by
    intro b hb hne
    rw [hg.block b (by omega) (fun e => hne e.symm), hwa]
    exact Below.heap_alloc wr o b hb
  have hlow : ∀ b, b < w0 + 4 + n → (V p).ownBlock ≠ some b := fun b hb e => by have := (h.low p hpn hKp b e).1; omega
  have hsize := h.size
  have hT : ∀ b, b < wr.heap.size → (V p).ownBlock ≠ some b → b ≠ w0 + 4 + p → (w1.setCell ⟨w0 + 4 + p, 0, none⟩ v1).heap[b]? = wr.heap[b]? := by
    intro b hb hne hne2
    rw [Below.heap_setCell _ _ _ _ hne2]
    exact hold b hb hne
  obtain ⟨g1, hg1, hg2⟩ := hwh
  have hg1ge : w0 + 4 + n ≤ g1 := by
    rcases hg2 with e | e
    · exact (h.low p hpn hKp g1 e).1
    · omega
  have hne1 : ∀ i, i ≠ p → ch par (k + 1) i = ch par k i := fun i hi => by rw [ch_succ, if_neg (by omega)]
  have hch : ch par (k + 1) p = ch par k p ++ [k] := by rw [ch_succ, if_pos hkp]
  refine ⟨h.es.of_block (hT _ h.es.lt (hlow _ (by omega)) (by omega)), h.qa.of_block (hT _ h.qa.lt (hlow _ (by omega)) (by omega)), h.qo.of_block (hT _ h.qo.lt (hlow _ (by omega)) (by omega)), h.qb.of_block (hT _ h.qb.lt (hlow _ (by omega)) (by omega)), ?_, ?_, ?_, ?_, ?_⟩
  · intro i hi
    by_cases e : i = p
    · subst e
      rw [Fo.upd_same]
      have hb : Blk w1 (w0 + 4 + i) (cells (K i) (V i) (kid K par w0 k i 0) (kid K par w0 k i 1)) (ty (K i)) := by
        have := h.node i hi
        unfold Blk at this ⊢
        rw [hold _ (by omega) (hlow _ (by omega))]; exact this
      have := hb.setSame 0 v1
      rw [cells_v hKp] at this ⊢
      exact this
    · rw [Fo.upd_other _ _ _ _ e, kid_same (by omega), kid_same (by omega)]
      have := h.node i hi
      unfold Blk at this ⊢
      rw [hT _ (by omega) (hlow _ (by omega)) (by omega)]; exact this
  · intro i hi h1
    by_cases e : i = p
    · subst e
      rw [Fo.upd_same, hch, List.length_append, List.flatMap_append]
      have := own_setOther (a := ⟨w0 + 4 + i, 0, none⟩) (ha h1) (by rw [hg1]; simp; omega) v1
      simpa using this
    · rw [Fo.upd_other _ _ _ _ e, hne1 i e]
      refine own_of_block (h.a i hi h1) fun g hgi => ?_
      have hl := h.low i hi (.inl h1) g hgi
      refine hT g hl.2 (fun e2 => ?_) (by omega)
      rcases h.apart i p hi hpn e (.inl h1) hKp with h2 | h2
      · rw [hgi] at h2; cases h2
      · exact h2 (hgi.trans e2.symm)
  · intro i hi h1
    by_cases e : i = p
    · subst e
      rw [Fo.upd_same, hch, List.length_append, List.flatMap_append]
      have := own_setOther (a := ⟨w0 + 4 + i, 0, none⟩) (ho h1) (by rw [hg1]; simp; omega) v1
      simpa using this
    · rw [Fo.upd_other _ _ _ _ e, hne1 i e]
      refine own_of_block (h.o i hi h1) fun g hgi => ?_
      have hl := h.low i hi (.inr h1) g hgi
      refine hT g hl.2 (fun e2 => ?_) (by omega)
      rcases h.apart i p hi hpn e (.inr h1) hKp with h2 | h2
      · rw [hgi] at h2; cases h2
      · exact h2 (hgi.trans e2.symm)
  · have hnew : ∀ j, j < n → j ≠ p → (K j % 5 = 1 ∨ K j % 5 = 2) → (V j).ownBlock ≠ some g1 := by
      intro j hj hjp hKj e
      have hl := h.low j hj hKj g1 e
      rcases hg2 with e2 | e2
      · rcases h.apart j p hj hpn hjp hKj hKp with h2 | h2
        · rw [e] at h2; cases h2
        · exact h2 (e.trans e2.symm)
      · omega
    intro i j hi hj hij hKi hKj
    by_cases e : i = p
    · subst e
      rw [Fo.upd_same, Fo.upd_other _ _ _ _ (fun e => hij e.symm)]
      exact .inr (by rw [hg1]; exact fun e => hnew j hj (fun e => hij e.symm) hKj e.symm)
    · rw [Fo.upd_other _ _ _ _ e]
      by_cases e2 : j = p
      · subst e2
        rw [Fo.upd_same]
        exact .inr (by rw [hg1]; exact hnew i hi e hKi)
      · rw [Fo.upd_other _ _ _ _ e2]
        exact h.apart i j hi hj hij hKi hKj
  · have := hg.size
    rw [size_set]; omega

/-- A child has been stored as a binary node's operand. -/
theorem Grow.bin (h : Grow K par S n w0 wr k V) {p : Nat} (hpn : p < n) (hkp : par k = (p : Int)) (hKp : 3 ≤ K p % 5) (t : Nat) (ht : (ch par k p).length = t) (ht2 : t = 0 ∨ t = 1) :
    Grow K par S n w0 ((wr.setCell ⟨w0 + 4 + p, t * 2, none⟩ (nodeV (K k) (w0 + 4 + k))).setCell ⟨w0 + 4 + p, t * 2 + 1, none⟩ (.int .i32 0)) (k + 1) V := by
  have hsize := h.size
  have hT : ∀ b, b ≠ w0 + 4 + p → ((wr.setCell ⟨w0 + 4 + p, t * 2, none⟩ (nodeV (K k) (w0 + 4 + k))).setCell ⟨w0 + 4 + p, t * 2 + 1, none⟩ (.int .i32 0)).heap[b]? = wr.heap[b]? := fun b hb => by
    rw [Below.heap_setCell _ _ _ _ hb, Below.heap_setCell _ _ _ _ hb]
  have hne1 : ∀ i, i ≠ p → ch par (k + 1) i = ch par k i := fun i hi => by rw [ch_succ, if_neg (by omega)]
  have hch : ch par (k + 1) p = ch par k p ++ [k] := by rw [ch_succ, if_pos hkp]
  refine ⟨h.es.of_block (hT _ (by omega)), h.qa.of_block (hT _ (by omega)), h.qo.of_block (hT _ (by omega)), h.qb.of_block (hT _ (by omega)), ?_, ?_, ?_, h.apart, by rw [size_set, size_set]; exact hsize⟩
  · intro i hi
    by_cases e : i = p
    · subst e
      have h2 := ((h.node i hi).setSame (t * 2) (nodeV (K k) (w0 + 4 + k))).setSame (t * 2 + 1) (.int .i32 0)
      rw [cells_b hKp] at h2 ⊢
      have k0 : kid K par w0 (k + 1) i t = nodeV (K k) (w0 + 4 + k) := by unfold kid; rw [hch, List.getElem?_append_right (by omega), ht]; simp
      rcases ht2 with rfl | rfl
      · have k1 : kid K par w0 (k + 1) i 1 = kid K par w0 k i 1 := by
          unfold kid
          rw [List.getElem?_eq_none (by rw [hch, List.length_append, ht]; simp), List.getElem?_eq_none (by omega)]
        rw [k0, k1]
        exact h2
      · have k1 : kid K par w0 (k + 1) i 0 = kid K par w0 k i 0 := by
          unfold kid
          rw [hch, List.getElem?_append_left (by omega)]
        rw [k0, k1]
        exact h2
    · rw [kid_same (by omega), kid_same (by omega)]
      have := h.node i hi
      unfold Blk at this ⊢
      rw [hT _ (by omega)]; exact this
  · intro i hi h1
    have e : i ≠ p := fun e => by subst e; omega
    rw [hne1 i e]
    exact own_of_block (h.a i hi h1) fun g hgi => hT g (by have := (h.low i hi (.inl h1) g hgi).1; omega)
  · intro i hi h1
    have e : i ≠ p := fun e => by subst e; omega
    rw [hne1 i e]
    exact own_of_block (h.o i hi h1) fun g hgi => hT g (by have := (h.low i hi (.inr h1) g hgi).1; omega)

/-- What a step reads: the parent's row, the row of pointers (block q), the child. -/
structure Reads (K : Nat → Nat) (V : Nat → Value) (w0 q p j : Nat) (w : World) : Prop where
  c1 : w.cell? ⟨w0 + 4 + p, 0, none⟩ = some (V p)
  f1 : w.frozen? ⟨w0 + 4 + p, 0, none⟩ = false
  c2 : w.cell? ⟨q, p, none⟩ = some (.pointer (some ⟨w0 + 4 + p, 0, none⟩))
  c3 : w.cell? ⟨w0, j * 2, none⟩ = some (nodeV (K j) (w0 + 4 + j))
  c4 : w.cell? ⟨w0, j * 2 + 1, none⟩ = some (.int .i32 0)
theorem Grow.reads (h : Grow K par S n w0 wr k V) {p : Nat} (hp : p < n) (hk : k < n) (q : Nat) (hq : (q = w0 + 1 ∧ K p % 5 = 1) ∨ (q = w0 + 1 + 1 ∧ K p % 5 = 2)) : Reads K V w0 q p k wr := by
  have hK : K p % 5 = 1 ∨ K p % 5 = 2 := by omega
  refine ⟨?_, (h.node p hp).free 0, ?_, ?_, ?_⟩
  · have := h.node p hp
    rw [cells_v hK] at this
    exact this.cell 0
  · rcases hq with ⟨rfl, e⟩ | ⟨rfl, e⟩
    · rw [h.qa.cell hp]; unfold aV; rw [if_pos ⟨hp, e⟩]; rfl
    · rw [h.qo.cell hp]; unfold oV; rw [if_pos ⟨hp, e⟩]; rfl
  · rw [h.es.cell (by omega)]; unfold esV; rw [if_neg (by omega), if_pos (by omega), show k * 2 / 2 = k by omega]
  · rw [h.es.cell (by omega)]; unfold esV; rw [if_pos (by omega)]
theorem Grow.kept (h : Grow K par S n w0 wr k V) {p : Nat} (hp : p < n) (hK : K p % 5 = 1 ∨ K p % 5 = 2) {wa w1 : World} {o : Obj} (hwa : wa.heap = (wr.alloc o).heap) (hg : wa.grownBy w1 (V p).ownBlock) (b : Nat) (hb : b < w0 + 4 + n) :
    w1.heap[b]? = wr.heap[b]? := by
  have hsz : wa.heap.size = wr.heap.size + 1 := by rw [hwa]; simp
  have hsize := h.size
  rw [hg.block b (by omega) (fun e => by have := (h.low p hp hK b e.symm).1; omega), hwa]
  exact Below.heap_alloc wr o b (by omega)
theorem Grow.reads_after (h : Grow K par S n w0 wr k V) {p : Nat} (hp : p < n) (hk : k < n) (q : Nat) (hq : (q = w0 + 1 ∧ K p % 5 = 1) ∨ (q = w0 + 1 + 1 ∧ K p % 5 = 2)) {wa w1 : World} {o : Obj} (hwa : wa.heap = (wr.alloc o).heap) (hg : wa.grownBy w1 (V p).ownBlock) :
    Reads K V w0 q p k w1 := by
  have hr := h.reads hp hk q hq
  have hkk := fun b hb => h.kept hp (by omega) hwa hg b hb
  exact ⟨(cell_of_block (hkk _ (by simp; omega))).trans hr.c1, (frozen_of_block (hkk _ (by simp; omega))).trans hr.f1, (cell_of_block (hkk _ (by simp; omega))).trans hr.c2, (cell_of_block (hkk _ (by simp; omega))).trans hr.c3, (cell_of_block (hkk _ (by simp; omega))).trans hr.c4⟩
theorem Grow.below (h : Grow K par S n w0 wr k V) {w : World} {B : Nat} (hB : B ≤ w0) (hb : Below B w wr) {p : Nat} (hp : p < n) (hK : K p % 5 = 1 ∨ K p % 5 = 2) {wa w1 : World} {o : Obj} (hwa : wa.heap = (wr.alloc o).heap) (h1 : wa.os = wr.os) (h2 : wa.tape = wr.tape) (h3 : wa.output = wr.output) (hg : wa.grownBy w1 (V p).ownBlock) (v : Value) :
    Below B w (w1.setCell ⟨w0 + 4 + p, 0, none⟩ v) := by
  have hsz : wa.heap.size = wr.heap.size + 1 := by rw [hwa]; simp
  have hsz2 := hg.size
  have hbs := hb.size
  have h1w : Below B w w1 := ⟨hg.os.trans (h1.trans hb.os), hg.tape.trans (h2.trans hb.tape), hg.output.trans (h3.trans hb.output), by omega, fun b hb2 => (h.kept hp hK hwa hg b (by omega)).trans (hb.block b hb2)⟩
  exact h1w.setCell (p := ⟨w0 + 4 + p, 0, none⟩) (by simp; omega) v

/-! ### The rows, as the query reads them -/
theorem Grow.rowA (h : Grow K par S n w0 wr k V) {i : Nat} (hi : i < n) (h1 : K i % 5 = 1) :
    (V i = nilS ∧ (ch par k i).length = 0) ∨ ∃ g cap, V i = .slice (some ⟨g, 0, none⟩) (ch par k i).length cap ∧ g < wr.heap.size ∧ ∀ t, t < (ch par k i).length → wr.cell? ⟨g, t * 2, none⟩ = some (nodeV (K (nth par k i t)) (w0 + 4 + nth par k i t)) ∧ wr.cell? ⟨g, t * 2 + 1, none⟩ = some (.int .i32 0) := by
  have ha := h.a i hi h1
  by_cases hz : (ch par k i).length = 0
  · rcases ha.2 with ⟨e, _⟩ | ⟨g, cap, cur, e, hbg, hg, hnc, hcm, hcs, htake⟩
    · exact .inl ⟨e, hz⟩
    · exact .inr ⟨g, cap, e, (Array.getElem?_eq_some_iff.1 hg).1, fun t ht => by omega⟩
  · obtain ⟨g, cap, e, _⟩ := own_form ha (by omega)
    refine .inr ⟨g, cap, e, (ha.lt g (by rw [e]; rfl)).2, fun t ht => ?_⟩
    rw [e] at ha
    have hc := ha.cells (g := g) rfl
    have hf := flat_get (ch par k i) (itemE K w0) 2 (fun _ => rfl) t
    have hx : ∀ j u, j < 2 → (itemE K w0 (nth par k i t))[j]? = some u → wr.cell? ⟨g, t * 2 + j, none⟩ = some u := fun j u hj hu => by
      have := hc (t * 2 + j) u ((hf j _ (nth_get par k i t ht) hj).trans hu)
      rw [add_at] at this; exact this
    exact ⟨hx 0 _ (by decide) rfl, hx 1 _ (by decide) rfl⟩
theorem Grow.rowO (h : Grow K par S n w0 wr k V) {i : Nat} (hi : i < n) (h1 : K i % 5 = 2) :
    (V i = nilS ∧ (ch par k i).length = 0) ∨ ∃ g cap, V i = .slice (some ⟨g, 0, none⟩) (ch par k i).length cap ∧ g < wr.heap.size ∧ ∀ t, t < (ch par k i).length → ∀ j u, (itemP K S w0 (nth par k i t))[j]? = some u → wr.cell? ⟨g, t * 12 + j, none⟩ = some u := by
  have ha := h.o i hi h1
  by_cases hz : (ch par k i).length = 0
  · rcases ha.2 with ⟨e, _⟩ | ⟨g, cap, cur, e, hbg, hg, hnc, hcm, hcs, htake⟩
    · exact .inl ⟨e, hz⟩
    · exact .inr ⟨g, cap, e, (Array.getElem?_eq_some_iff.1 hg).1, fun t ht => by omega⟩
  · obtain ⟨g, cap, e, _⟩ := own_form ha (by omega)
    refine .inr ⟨g, cap, e, (ha.lt g (by rw [e]; rfl)).2, fun t ht j u hu => ?_⟩
    rw [e] at ha
    have hc := ha.cells (g := g) rfl
    have hj : j < 12 := (List.getElem?_eq_some_iff.1 hu).1
    have := hc (t * 12 + j) u ((flat_get (ch par k i) (itemP K S w0) 12 (fun _ => rfl) t j _ (nth_get par k i t ht) hj).trans hu)
    rw [add_at] at this; exact this
end
end En
end Go.Proofs.Ytoeaockleddngaa
