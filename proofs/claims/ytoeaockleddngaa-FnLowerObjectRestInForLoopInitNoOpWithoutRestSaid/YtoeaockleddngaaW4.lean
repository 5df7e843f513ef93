import Derived.Test.YtoeaockleddngaaW3
namespace Go.Proofs.Ytoeaockleddngaa
open Go Go.RowKit
set_option maxRecDepth 100000
set_option linter.unusedVariables false

theorem info45 : (Try.prog.info? 45).map (fun i => (i.zero, i.size, i.bytes)) = some (some (.agg #[.nilIface, .int .i32 0]), 2, 24) := by kernel_rfl
theorem info93 : (Try.prog.info? 93).map (fun i => (i.zero, i.size, i.bytes)) = some (some (.pointer none), 1, 8) := by kernel_rfl
theorem info97 : (Try.prog.info? 97).map (fun i => (i.zero, i.size, i.bytes)) = some (some (.pointer none), 1, 8) := by kernel_rfl

/-- A pointer to the head of block b. -/
def ptr (b : Nat) : Value := .pointer (some ⟨b, 0, none⟩)
/-- The binding of a node of kind k whose block is b. -/
def nodeV (k b : Nat) : Value := if k % 3 = 1 then .iface 93 (ptr b) else if k % 3 = 2 then .iface 97 (ptr b) else .iface 101 (ptr b)
/-- The row of bindings when the first k are laid: w0 is the heap's size when the call began. -/
def bsV (K : Nat → Nat) (w0 k j : Nat) : Value := if j % 2 = 1 then .int .i32 0 else if j / 2 < k then nodeV (K (j / 2)) (w0 + 3 + j / 2) else .nilIface
def arrV (K : Nat → Nat) (w0 k j : Nat) : Value := if j < k ∧ K j % 3 = 1 then ptr (w0 + 3 + j) else .pointer none
def objV (K : Nat → Nat) (w0 k j : Nat) : Value := if j < k ∧ K j % 3 = 2 then ptr (w0 + 3 + j) else .pointer none

def nodeCells (k : Nat) (v : Value) : List Value := if k % 3 = 1 then [v, .int .i32 0, .bool false, .bool false] else if k % 3 = 2 then [v, .int .i32 0, .bool false] else [.int .u32 0, .int .u32 0]
def nodeTy (k : Nat) : TypeId := if k % 3 = 1 then 96 else if k % 3 = 2 then 100 else 103
def nilS : Value := .slice none 0 0
/-- The first k nodes are laid, their rows still nil. -/
structure Laid (K : Nat → Nat) (n w0 : Nat) (wr : World) (k : Nat) : Prop where
  bs : wr.rowIs w0 45 (n * 2) (bsV K w0 k)
  arrs : wr.rowIs (w0 + 1) 93 n (arrV K w0 k)
  objs : wr.rowIs (w0 + 2) 97 n (objV K w0 k)
  node : ∀ i, i < k → Blk wr (w0 + 3 + i) (nodeCells (K i) nilS) (nodeTy (K i))
  size : wr.heap.size = w0 + 3 + k

theorem bsV_succ (K : Nat → Nat) (w0 k j : Nat) (v : Value) (hv : v = nodeV (K k) (w0 + 3 + k)) : (if j = k * 2 + 1 then .int .i32 0 else if j = k * 2 then v else bsV K w0 k j) = bsV K w0 (k + 1) j := by
  subst hv
  unfold bsV
  by_cases e1 : j = k * 2 + 1
  · rw [if_pos e1, if_pos (by omega)]
  · rw [if_neg e1]
    by_cases e2 : j = k * 2
    · rw [if_pos e2, if_neg (by omega), if_pos (by omega), show j / 2 = k by omega]
    · rw [if_neg e2]
      by_cases e3 : j % 2 = 1
      · rw [if_pos e3, if_pos e3]
      · rw [if_neg e3, if_neg e3]
        by_cases e4 : j / 2 < k
        · rw [if_pos e4, if_pos (by omega)]
        · rw [if_neg e4, if_neg (by omega)]
theorem arrV_same (K : Nat → Nat) (w0 k j : Nat) (h : K k % 3 ≠ 1) : arrV K w0 k j = arrV K w0 (k + 1) j := by
  unfold arrV
  by_cases e : j = k
  · subst e; rw [if_neg (by omega), if_neg (by omega)]
  · by_cases e2 : j < k
    · by_cases e3 : K j % 3 = 1
      · rw [if_pos ⟨e2, e3⟩, if_pos ⟨by omega, e3⟩]
      · rw [if_neg (by omega), if_neg (by omega)]
    · rw [if_neg (by omega), if_neg (by omega)]
theorem arrV_succ (K : Nat → Nat) (w0 k j : Nat) (v : Value) (hv : v = ptr (w0 + 3 + k)) (h : K k % 3 = 1) : (if j = k then v else arrV K w0 k j) = arrV K w0 (k + 1) j := by
  subst hv
  unfold arrV
  by_cases e : j = k
  · subst e; rw [if_pos rfl, if_pos ⟨by omega, h⟩]
  · rw [if_neg e]
    by_cases e2 : j < k
    · by_cases e3 : K j % 3 = 1
      · rw [if_pos ⟨e2, e3⟩, if_pos ⟨by omega, e3⟩]
      · rw [if_neg (by omega), if_neg (by omega)]
    · rw [if_neg (by omega), if_neg (by omega)]
theorem objV_same (K : Nat → Nat) (w0 k j : Nat) (h : K k % 3 ≠ 2) : objV K w0 k j = objV K w0 (k + 1) j := by
  unfold objV
  by_cases e : j = k
  · subst e; rw [if_neg (by omega), if_neg (by omega)]
  · by_cases e2 : j < k
    · by_cases e3 : K j % 3 = 2
      · rw [if_pos ⟨e2, e3⟩, if_pos ⟨by omega, e3⟩]
      · rw [if_neg (by omega), if_neg (by omega)]
    · rw [if_neg (by omega), if_neg (by omega)]
theorem objV_succ (K : Nat → Nat) (w0 k j : Nat) (v : Value) (hv : v = ptr (w0 + 3 + k)) (h : K k % 3 = 2) : (if j = k then v else objV K w0 k j) = objV K w0 (k + 1) j := by
  subst hv
  unfold objV
  by_cases e : j = k
  · subst e; rw [if_pos rfl, if_pos ⟨by omega, h⟩]
  · rw [if_neg e]
    by_cases e2 : j < k
    · by_cases e3 : K j % 3 = 2
      · rw [if_pos ⟨e2, e3⟩, if_pos ⟨by omega, e3⟩]
      · rw [if_neg (by omega), if_neg (by omega)]
    · rw [if_neg (by omega), if_neg (by omega)]

section
variable {K : Nat → Nat} {n w0 : Nat} {wr : World} {k : Nat}
theorem size_set (w : World) (a : Addr) (v : Value) : (w.setCell a v).heap.size = w.heap.size := by simp [World.setCell]

theorem laid0 (h : Laid K n w0 wr k) (h1 : K k % 3 ≠ 1) (h2 : K k % 3 ≠ 2) :
    Laid K n w0 (((wr.setCell ⟨w0, k * 2, none⟩ (.iface 101 (ptr wr.heap.size))).setCell ⟨w0, k * 2 + 1, none⟩ (.int .i32 0)).alloc (.cells #[.int .u32 0, .int .u32 0] 103)) (k + 1) := by
  have hs := h.size
  refine ⟨?_, ?_, ?_, ?_, ?_⟩
  · exact (((h.bs.set (k * 2) _).set (k * 2 + 1) _).alloc _).congr fun j _ => bsV_succ K w0 k j _ (by unfold nodeV; rw [if_neg h1, if_neg h2, hs])
  · exact (((h.arrs.setOther (by simp) _).setOther (by simp) _).alloc _).congr fun j _ => arrV_same K w0 k j h1
  · exact (((h.objs.setOther (by simp) _).setOther (by simp) _).alloc _).congr fun j _ => objV_same K w0 k j h2
  · intro i hi
    by_cases e : i = k
    · subst e
      unfold nodeCells nodeTy
      rw [if_neg h1, if_neg h2, if_neg h1, if_neg h2]
      exact Blk.new_at _ _ _ _ (by rw [size_set, size_set]; omega)
    · exact (((h.node i (by omega)).setOther (by simp; omega) _).setOther (by simp; omega) _).alloc _
  · simp; omega
theorem laid1 (h : Laid K n w0 wr k) (h1 : K k % 3 = 1) :
    Laid K n w0 ((((wr.setCell ⟨w0 + 1, k, none⟩ (ptr wr.heap.size)).setCell ⟨w0, k * 2, none⟩ (.iface 93 (ptr wr.heap.size))).setCell ⟨w0, k * 2 + 1, none⟩ (.int .i32 0)).alloc (.cells #[nilS, .int .i32 0, .bool false, .bool false] 96)) (k + 1) := by
  have hs := h.size
  have h2 : K k % 3 ≠ 2 := by omega
  refine ⟨?_, ?_, ?_, ?_, ?_⟩
  · exact ((((h.bs.setOther (by simp) _).set (k * 2) _).set (k * 2 + 1) _).alloc _).congr fun j _ => bsV_succ K w0 k j _ (by unfold nodeV; rw [if_pos h1, hs])
  · exact ((((h.arrs.set k _).setOther (by simp) _).setOther (by simp) _).alloc _).congr fun j _ => arrV_succ K w0 k j _ (by rw [hs]) h1
  · exact ((((h.objs.setOther (by simp) _).setOther (by simp) _).setOther (by simp) _).alloc _).congr fun j _ => objV_same K w0 k j h2
  · intro i hi
    by_cases e : i = k
    · subst e
      unfold nodeCells nodeTy
      rw [if_pos h1, if_pos h1]
      exact Blk.new_at _ _ _ _ (by rw [size_set, size_set, size_set]; omega)
    · exact ((((h.node i (by omega)).setOther (by simp; omega) _).setOther (by simp; omega) _).setOther (by simp; omega) _).alloc _
  · simp; omega
theorem laid2 (h : Laid K n w0 wr k) (h2 : K k % 3 = 2) :
    Laid K n w0 ((((wr.setCell ⟨w0 + 2, k, none⟩ (ptr wr.heap.size)).setCell ⟨w0, k * 2, none⟩ (.iface 97 (ptr wr.heap.size))).setCell ⟨w0, k * 2 + 1, none⟩ (.int .i32 0)).alloc (.cells #[nilS, .int .i32 0, .bool false] 100)) (k + 1) := by
  have hs := h.size
  have h1 : K k % 3 ≠ 1 := by omega
  refine ⟨?_, ?_, ?_, ?_, ?_⟩
  · exact ((((h.bs.setOther (by simp) _).set (k * 2) _).set (k * 2 + 1) _).alloc _).congr fun j _ => bsV_succ K w0 k j _ (by unfold nodeV; rw [if_neg h1, if_pos h2, hs])
  · exact ((((h.arrs.setOther (by simp) _).setOther (by simp) _).setOther (by simp) _).alloc _).congr fun j _ => arrV_same K w0 k j h1
  · exact ((((h.objs.set k _).setOther (by simp) _).setOther (by simp) _).alloc _).congr fun j _ => objV_succ K w0 k j _ (by rw [hs]) h2
  · intro i hi
    by_cases e : i = k
    · subst e
      unfold nodeCells nodeTy
      rw [if_neg h1, if_pos h2, if_neg h1, if_pos h2]
      exact Blk.new_at _ _ _ _ (by rw [size_set, size_set, size_set]; omega)
    · exact ((((h.node i (by omega)).setOther (by simp; omega) _).setOther (by simp; omega) _).setOther (by simp; omega) _).alloc _
  · simp; omega
theorem laid_start (w : World) (K : Nat → Nat) (n : Nat) : Laid K n w.heap.size (((w.alloc (.cells (madeCells #[.nilIface, .int .i32 0] (n * 2)) 45)).alloc (.cells (madeCells #[.pointer none] n) 93)).alloc (.cells (madeCells #[.pointer none] n) 97)) 0 := by
  refine ⟨?_, ?_, ?_, fun i hi => by omega, by simp⟩
  · have h := World.rowIs_alloc w (madeCells #[.nilIface, .int .i32 0] (n * 2)) 45 (bsV K w.heap.size 0) (fun i hi => by
      rw [size_madeCells] at hi
      unfold bsV
      rw [if_neg (by omega : ¬ i / 2 < 0)]
      by_cases e : i % 2 = 1
      · simp [madeCells, hi, e]
      · have e' : i % 2 = 0 := by omega
        simp [madeCells, hi, e'])
    rw [size_madeCells] at h
    exact (h.alloc _).alloc _
  · have h := World.rowIs_made (w.alloc (.cells (madeCells #[.nilIface, .int .i32 0] (n * 2)) 45)) (.pointer none) n 93
    have := (h.alloc (.cells (madeCells #[.pointer none] n) 97)).congr (g := arrV K w.heap.size 0) fun j _ => by unfold arrV; rw [if_neg (by omega)]
    simpa using this
  · have h := World.rowIs_made ((w.alloc (.cells (madeCells #[.nilIface, .int .i32 0] (n * 2)) 45)).alloc (.cells (madeCells #[.pointer none] n) 93)) (.pointer none) n 97
    have := h.congr (g := objV K w.heap.size 0) fun j _ => by unfold objV; rw [if_neg (by omega)]
    simpa using this
end
end Go.Proofs.Ytoeaockleddngaa
