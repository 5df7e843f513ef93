/- Expression trees in memory: the nodes as they are laid, and while their children are hung. -/
import Derived.Test.YtoeaockleddngaaE3
import Derived.Test.YtoeaockleddngaaW8
namespace Go.Proofs.Ytoeaockleddngaa
open Go Go.RowKit
set_option maxRecDepth 100000
set_option linter.unusedVariables false

theorem info49 : (Try.prog.info? 49).map (fun i => (i.zero, i.size, i.bytes)) = some (some (.agg #[.nilIface, .int .i32 0]), 2, 24) := by kernel_rfl
theorem info232 : (Try.prog.info? 232).map (fun i => (i.zero, i.size, i.bytes)) = some (some (.pointer none), 1, 8) := by kernel_rfl
theorem info235 : (Try.prog.info? 235).map (fun i => (i.zero, i.size, i.bytes)) = some (some (.pointer none), 1, 8) := by kernel_rfl
theorem info239 : (Try.prog.info? 239).map (fun i => (i.zero, i.size, i.bytes)) = some (some (.pointer none), 1, 8) := by kernel_rfl
theorem info248 : (Try.prog.info? 248).map (fun i => (i.zero, i.size, i.bytes)) = some (some (.agg #[.pointer none, .nilIface, .int .i32 0, .nilIface, .int .i32 0, .nilIface, .int .i32 0, .slice none 0 0, .int .i32 0, .int .i32 0, .int .u8 0, .int .u8 0]), 12, 120) := by kernel_rfl

namespace En
/-- The expression of a node of kind k whose block is b. -/
def nodeV (k b : Nat) : Value := if k % 5 = 1 then .iface 232 (ptr b) else if k % 5 = 2 then .iface 235 (ptr b) else if k % 5 = 0 then .iface 53 (ptr b) else .iface 239 (ptr b)
/-- The row of expressions when the first k are laid, at block w0; then the rows of pointers; then the nodes. -/
def esV (K : Nat → Nat) (w0 k j : Nat) : Value := if j % 2 = 1 then .int .i32 0 else if j / 2 < k then nodeV (K (j / 2)) (w0 + 4 + j / 2) else .nilIface
def aV (K : Nat → Nat) (w0 k j : Nat) : Value := if j < k ∧ K j % 5 = 1 then ptr (w0 + 4 + j) else .pointer none
def oV (K : Nat → Nat) (w0 k j : Nat) : Value := if j < k ∧ K j % 5 = 2 then ptr (w0 + 4 + j) else .pointer none
def bV (K : Nat → Nat) (w0 k j : Nat) : Value := if j < k ∧ 3 ≤ K j % 5 then ptr (w0 + 4 + j) else .pointer none
def opOf (k : Nat) : Int := if k % 5 = 3 then 37 else 11
def cells (k : Nat) (v l r : Value) : List Value := if k % 5 = 1 ∨ k % 5 = 2 then [v, .int .i32 0, .int .i32 0, .bool false, .bool false] else if k % 5 = 0 then [.int .u32 0, .int .u32 0, .bool false, .bool false, .bool false] else [l, .int .i32 0, r, .int .i32 0, .int .u8 (opOf k), .bool false]
def ty (k : Nat) : TypeId := if k % 5 = 1 then 234 else if k % 5 = 2 then 238 else if k % 5 = 0 then 58 else 242

structure Laid (K : Nat → Nat) (n w0 : Nat) (wr : World) (k : Nat) : Prop where
  es : wr.rowIs w0 49 (n * 2) (esV K w0 k)
  qa : wr.rowIs (w0 + 1) 232 n (aV K w0 k)
  qo : wr.rowIs (w0 + 1 + 1) 235 n (oV K w0 k)
  qb : wr.rowIs (w0 + 1 + 1 + 1) 239 n (bV K w0 k)
  node : ∀ i, i < k → Blk wr (w0 + 4 + i) (cells (K i) nilS .nilIface .nilIface) (ty (K i))
  size : wr.heap.size = w0 + 4 + k

theorem esV_succ (K : Nat → Nat) (w0 k j : Nat) (v : Value) (hv : v = nodeV (K k) (w0 + 4 + k)) : (if j = k * 2 + 1 then .int .i32 0 else if j = k * 2 then v else esV K w0 k j) = esV K w0 (k + 1) j := by
  subst hv
  unfold esV
  by_cases e1 : j = k * 2 + 1
  · rw [if_pos e1, if_pos (by omega)]
  · rw [if_neg e1]
    by_cases e2 : j = k * 2
    · rw [if_pos e2, if_neg (by omega), if_pos (by omega), show j / 2 = k by omega]
    · rw [if_neg e2]
      by_cases e3 : j % 2 = 1
      · rw [if_pos e3, if_pos e3]
      · rw [if_neg e3, if_neg e3]
        by_cases e4 : j / 2 < k
        · rw [if_pos e4, if_pos (by omega)]
        · rw [if_neg e4, if_neg (by omega)]
/-- A row of pointers to the nodes of some kinds. -/
theorem pV_same (C : Nat → Prop) [DecidablePred C] (w0 k j : Nat) (h : ¬ C k) : (if j < k ∧ C j then ptr (w0 + 4 + j) else .pointer none) = (if j < k + 1 ∧ C j then ptr (w0 + 4 + j) else .pointer none) := by
  by_cases e : j = k
  · subst e; rw [if_neg (by omega), if_neg (fun hh => h hh.2)]
  · by_cases e2 : j < k
    · by_cases e3 : C j
      · rw [if_pos ⟨e2, e3⟩, if_pos ⟨by omega, e3⟩]
      · rw [if_neg (fun hh => e3 hh.2), if_neg (fun hh => e3 hh.2)]
    · rw [if_neg (by omega), if_neg (by omega)]
theorem pV_succ (C : Nat → Prop) [DecidablePred C] (w0 k j : Nat) (v : Value) (hv : v = ptr (w0 + 4 + k)) (h : C k) : (if j = k then v else (if j < k ∧ C j then ptr (w0 + 4 + j) else .pointer none)) = (if j < k + 1 ∧ C j then ptr (w0 + 4 + j) else .pointer none) := by
  subst hv
  by_cases e : j = k
  · subst e; rw [if_pos rfl, if_pos ⟨by omega, h⟩]
  · rw [if_neg e]
    by_cases e2 : j < k
    · by_cases e3 : C j
      · rw [if_pos ⟨e2, e3⟩, if_pos ⟨by omega, e3⟩]
      · rw [if_neg (fun hh => e3 hh.2), if_neg (fun hh => e3 hh.2)]
    · rw [if_neg (by omega), if_neg (by omega)]
section
variable {K : Nat → Nat} {n w0 : Nat} {wr : World} {k : Nat}
theorem Laid.next (h : Laid K n w0 wr k) {X : World} (hx : X.heap.size = wr.heap.size) (es : X.rowIs w0 49 (n * 2) (esV K w0 (k + 1))) (qa : X.rowIs (w0 + 1) 232 n (aV K w0 (k + 1))) (qo : X.rowIs (w0 + 1 + 1) 235 n (oV K w0 (k + 1))) (qb : X.rowIs (w0 + 1 + 1 + 1) 239 n (bV K w0 (k + 1)))
    (hn : ∀ b, w0 + 4 ≤ b → X.heap[b]? = wr.heap[b]?) {c : List Value} {t : TypeId} (hc : c = cells (K k) nilS .nilIface .nilIface) (ht : t = ty (K k)) : Laid K n w0 (X.alloc (.cells c.toArray t)) (k + 1) := by
  have hs := h.size
  refine ⟨es.alloc _, qa.alloc _, qo.alloc _, qb.alloc _, ?_, by simp; omega⟩
  intro i hi
  by_cases e : i = k
  · subst e
    rw [← hc, ← ht]
    exact Blk.new_at _ _ _ _ (by omega)
  · refine Blk.alloc ?_ _
    have := h.node i (by omega)
    unfold Blk at this ⊢
    rw [hn _ (by omega)]; exact this
theorem es_next (h : wr.rowIs w0 49 (n * 2) (esV K w0 k)) (v : Value) (hv : v = nodeV (K k) (w0 + 4 + k)) : ((wr.setCell ⟨w0, k * 2, none⟩ v).setCell ⟨w0, k * 2 + 1, none⟩ (.int .i32 0)).rowIs w0 49 (n * 2) (esV K w0 (k + 1)) :=
  ((h.set (k * 2) v).set (k * 2 + 1) (.int .i32 0)).congr fun j _ => esV_succ K w0 k j v hv
theorem set_high {a : Addr} {v : Value} (ha : a.block < w0 + 4) : ∀ b, w0 + 4 ≤ b → (wr.setCell a v).heap[b]? = wr.heap[b]? := fun b hb => Below.heap_setCell _ _ _ _ (by omega)
theorem laid0 (h : Laid K n w0 wr k) (hk : K k % 5 = 0) :
    Laid K n w0 (((wr.setCell ⟨w0, k * 2, none⟩ (.iface 53 (ptr wr.heap.size))).setCell ⟨w0, k * 2 + 1, none⟩ (.int .i32 0)).alloc (.cells #[.int .u32 0, .int .u32 0, .bool false, .bool false, .bool false] 58)) (k + 1) := by
  have hs := h.size
  refine h.next (c := [.int .u32 0, .int .u32 0, .bool false, .bool false, .bool false]) (by rw [size_set, size_set]) (es_next h.es _ ?_) ?_ ?_ ?_ ?_ ?_ ?_
  · unfold nodeV; rw [if_neg (by omega), if_neg (by omega), if_pos hk, hs]
  · exact ((h.qa.setOther (by first | (simp; done) | (simp; omega)) _).setOther (by first | (simp; done) | (simp; omega)) _).congr fun j _ => pV_same (fun j => K j % 5 = 1) w0 k j (by omega)
  · exact ((h.qo.setOther (by first | (simp; done) | (simp; omega)) _).setOther (by first | (simp; done) | (simp; omega)) _).congr fun j _ => pV_same (fun j => K j % 5 = 2) w0 k j (by omega)
  · exact ((h.qb.setOther (by first | (simp; done) | (simp; omega)) _).setOther (by first | (simp; done) | (simp; omega)) _).congr fun j _ => pV_same (fun j => 3 ≤ K j % 5) w0 k j (by omega)
  · intro b hb; rw [Below.heap_setCell _ _ _ _ (by first | (simp; done) | (simp; omega)), Below.heap_setCell _ _ _ _ (by first | (simp; done) | (simp; omega))]
  · unfold cells; rw [if_neg (by omega), if_pos hk]
  · unfold ty; rw [if_neg (by omega), if_neg (by omega), if_pos hk]
theorem laid1 (h : Laid K n w0 wr k) (hk : K k % 5 = 1) :
    Laid K n w0 ((((wr.setCell ⟨w0 + 1, k, none⟩ (ptr wr.heap.size)).setCell ⟨w0, k * 2, none⟩ (.iface 232 (ptr wr.heap.size))).setCell ⟨w0, k * 2 + 1, none⟩ (.int .i32 0)).alloc (.cells #[nilS, .int .i32 0, .int .i32 0, .bool false, .bool false] 234)) (k + 1) := by
  have hs := h.size
  refine h.next (c := [nilS, .int .i32 0, .int .i32 0, .bool false, .bool false]) (by rw [size_set, size_set, size_set]) (es_next (h.es.setOther (by first | (simp; done) | (simp; omega)) _) _ ?_) ?_ ?_ ?_ ?_ ?_ ?_
  · unfold nodeV; rw [if_pos hk, hs]
  · exact (((h.qa.set k _).setOther (by first | (simp; done) | (simp; omega)) _).setOther (by first | (simp; done) | (simp; omega)) _).congr fun j _ => pV_succ (fun j => K j % 5 = 1) w0 k j _ (by rw [hs]) hk
  · exact (((h.qo.setOther (by first | (simp; done) | (simp; omega)) _).setOther (by first | (simp; done) | (simp; omega)) _).setOther (by first | (simp; done) | (simp; omega)) _).congr fun j _ => pV_same (fun j => K j % 5 = 2) w0 k j (by omega)
  · exact (((h.qb.setOther (by first | (simp; done) | (simp; omega)) _).setOther (by first | (simp; done) | (simp; omega)) _).setOther (by first | (simp; done) | (simp; omega)) _).congr fun j _ => pV_same (fun j => 3 ≤ K j % 5) w0 k j (by omega)
  · intro b hb; rw [Below.heap_setCell _ _ _ _ (by first | (simp; done) | (simp; omega)), Below.heap_setCell _ _ _ _ (by first | (simp; done) | (simp; omega)), Below.heap_setCell _ _ _ _ (by first | (simp; done) | (simp; omega))]
  · unfold cells; rw [if_pos (.inl hk)]
  · unfold ty; rw [if_pos hk]
theorem laid2 (h : Laid K n w0 wr k) (hk : K k % 5 = 2) :
    Laid K n w0 ((((wr.setCell ⟨w0 + 1 + 1, k, none⟩ (ptr wr.heap.size)).setCell ⟨w0, k * 2, none⟩ (.iface 235 (ptr wr.heap.size))).setCell ⟨w0, k * 2 + 1, none⟩ (.int .i32 0)).alloc (.cells #[nilS, .int .i32 0, .int .i32 0, .bool false, .bool false] 238)) (k + 1) := by
  have hs := h.size
  refine h.next (c := [nilS, .int .i32 0, .int .i32 0, .bool false, .bool false]) (by rw [size_set, size_set, size_set]) (es_next (h.es.setOther (by first | (simp; done) | (simp; omega)) _) _ ?_) ?_ ?_ ?_ ?_ ?_ ?_
  · unfold nodeV; rw [if_neg (by omega), if_pos hk, hs]
  · exact (((h.qa.setOther (by first | (simp; done) | (simp; omega)) _).setOther (by first | (simp; done) | (simp; omega)) _).setOther (by first | (simp; done) | (simp; omega)) _).congr fun j _ => pV_same (fun j => K j % 5 = 1) w0 k j (by omega)
  · exact (((h.qo.set k _).setOther (by first | (simp; done) | (simp; omega)) _).setOther (by first | (simp; done) | (simp; omega)) _).congr fun j _ => pV_succ (fun j => K j % 5 = 2) w0 k j _ (by rw [hs]) hk
  · exact (((h.qb.setOther (by first | (simp; done) | (simp; omega)) _).setOther (by first | (simp; done) | (simp; omega)) _).setOther (by first | (simp; done) | (simp; omega)) _).congr fun j _ => pV_same (fun j => 3 ≤ K j % 5) w0 k j (by omega)
  · intro b hb; rw [Below.heap_setCell _ _ _ _ (by first | (simp; done) | (simp; omega)), Below.heap_setCell _ _ _ _ (by first | (simp; done) | (simp; omega)), Below.heap_setCell _ _ _ _ (by first | (simp; done) | (simp; omega))]
  · unfold cells; rw [if_pos (.inr hk)]
  · unfold ty; rw [if_neg (by omega), if_pos hk]
theorem laid3 (h : Laid K n w0 wr k) (hk : 3 ≤ K k % 5) (x : Int) (hx : x = opOf (K k)) :
    Laid K n w0 ((((wr.setCell ⟨w0 + 1 + 1 + 1, k, none⟩ (ptr wr.heap.size)).setCell ⟨w0, k * 2, none⟩ (.iface 239 (ptr wr.heap.size))).setCell ⟨w0, k * 2 + 1, none⟩ (.int .i32 0)).alloc (.cells #[.nilIface, .int .i32 0, .nilIface, .int .i32 0, .int .u8 x, .bool false] 242)) (k + 1) := by
  have hs := h.size
  refine h.next (c := [.nilIface, .int .i32 0, .nilIface, .int .i32 0, .int .u8 x, .bool false]) (by rw [size_set, size_set, size_set]) (es_next (h.es.setOther (by first | (simp; done) | (simp; omega)) _) _ ?_) ?_ ?_ ?_ ?_ ?_ ?_
  · unfold nodeV; rw [if_neg (by omega), if_neg (by omega), if_neg (by omega), hs]
  · exact (((h.qa.setOther (by first | (simp; done) | (simp; omega)) _).setOther (by first | (simp; done) | (simp; omega)) _).setOther (by first | (simp; done) | (simp; omega)) _).congr fun j _ => pV_same (fun j => K j % 5 = 1) w0 k j (by omega)
  · exact (((h.qo.setOther (by first | (simp; done) | (simp; omega)) _).setOther (by first | (simp; done) | (simp; omega)) _).setOther (by first | (simp; done) | (simp; omega)) _).congr fun j _ => pV_same (fun j => K j % 5 = 2) w0 k j (by omega)
  · exact (((h.qb.set k _).setOther (by first | (simp; done) | (simp; omega)) _).setOther (by first | (simp; done) | (simp; omega)) _).congr fun j _ => pV_succ (fun j => 3 ≤ K j % 5) w0 k j _ (by rw [hs]) hk
  · intro b hb; rw [Below.heap_setCell _ _ _ _ (by first | (simp; done) | (simp; omega)), Below.heap_setCell _ _ _ _ (by first | (simp; done) | (simp; omega)), Below.heap_setCell _ _ _ _ (by first | (simp; done) | (simp; omega))]
  · unfold cells; rw [if_neg (by omega), if_neg (by omega), hx]
  · unfold ty; rw [if_neg (by omega), if_neg (by omega), if_neg (by omega)]
end
theorem laid_start (W : World) (K : Nat → Nat) (n : Nat) : Laid K n W.heap.size ((((W.alloc (.cells (madeCells #[.nilIface, .int .i32 0] (n * 2)) 49)).alloc (.cells (madeCells #[.pointer none] n) 232)).alloc (.cells (madeCells #[.pointer none] n) 235)).alloc (.cells (madeCells #[.pointer none] n) 239)) 0 := by
  refine ⟨?_, ?_, ?_, ?_, fun i hi => by omega, by simp⟩
  · have h := World.rowIs_alloc W (madeCells #[.nilIface, .int .i32 0] (n * 2)) 49 (esV K W.heap.size 0) (fun i hi => by
      rw [size_madeCells] at hi
      unfold esV
      rw [if_neg (by omega : ¬ i / 2 < 0)]
      by_cases e : i % 2 = 1
      · simp [madeCells, hi, e]
      · have e' : i % 2 = 0 := by omega
        simp [madeCells, hi, e'])
    rw [size_madeCells] at h
    exact ((h.alloc _).alloc _).alloc _
  · have h := World.rowIs_made (W.alloc (.cells (madeCells #[.nilIface, .int .i32 0] (n * 2)) 49)) (.pointer none) n 232
    have := ((h.alloc (.cells (madeCells #[.pointer none] n) 235)).alloc (.cells (madeCells #[.pointer none] n) 239)).congr (g := aV K W.heap.size 0) fun j _ => by unfold aV; rw [if_neg (by omega)]
    simpa using this
  · have h := World.rowIs_made ((W.alloc (.cells (madeCells #[.nilIface, .int .i32 0] (n * 2)) 49)).alloc (.cells (madeCells #[.pointer none] n) 232)) (.pointer none) n 235
    have := (h.alloc (.cells (madeCells #[.pointer none] n) 239)).congr (g := oV K W.heap.size 0) fun j _ => by unfold oV; rw [if_neg (by omega)]
    simpa using this
  · have h := World.rowIs_made (((W.alloc (.cells (madeCells #[.nilIface, .int .i32 0] (n * 2)) 49)).alloc (.cells (madeCells #[.pointer none] n) 232)).alloc (.cells (madeCells #[.pointer none] n) 235)) (.pointer none) n 239
    have := h.congr (g := bV K W.heap.size 0) fun j _ => by unfold bV; rw [if_neg (by omega)]
    simpa using this
end En
end Go.Proofs.Ytoeaockleddngaa
