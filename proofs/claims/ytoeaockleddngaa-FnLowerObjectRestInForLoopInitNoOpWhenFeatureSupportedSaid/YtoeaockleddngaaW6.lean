/- The forest's nodes while their children are hung: what the code reads. -/
import Derived.Test.YtoeaockleddngaaW5
namespace Go.Proofs.Ytoeaockleddngaa
open Go Go.RowKit
set_option maxRecDepth 100000
set_option linter.unusedVariables false

section
variable {K : Nat → Nat} {par : Nat → Int} {S : Nat → Bool} {n w0 : Nat} {wx : World} {j : Nat} {V : Nat → Value}
theorem nodeV_one (k b : Nat) : (nodeV k b).oneCell' = true := by
  unfold nodeV; split
  · rfl
  · split <;> rfl
theorem Blk.head {w : World} {b : Nat} {K : Nat} {v : Value} (h : Blk w b (nodeCells K v) (nodeTy K)) (hK : K % 3 ≠ 0) : w.cell? ⟨b, 0, none⟩ = some v := by
  rw [h.cell]
  unfold nodeCells
  have : K % 3 = 1 ∨ K % 3 = 2 := by omega
  rcases this with e | e
  · rw [if_pos e]; rfl
  · rw [if_neg (by omega), if_pos e]; rfl
theorem cell_of_block {w w' : World} {a : Addr} (h : w'.heap[a.block]? = w.heap[a.block]?) : w'.cell? a = w.cell? a := by
  simp only [World.cell?, h]
theorem frozen_of_block {w w' : World} {a : Addr} (h : w'.heap[a.block]? = w.heap[a.block]?) : w'.frozen? a = w.frozen? a := by
  simp only [World.frozen?, h]
/-- What the step reads: the parent's row, the row of pointers, the child. -/
structure Reads (K : Nat → Nat) (V : Nat → Value) (w0 q p j : Nat) (w : World) : Prop where
  c1 : w.cell? ⟨w0 + 3 + p, 0, none⟩ = some (V p)
  f1 : w.frozen? ⟨w0 + 3 + p, 0, none⟩ = false
  c2 : w.cell? ⟨w0 + q, p, none⟩ = some (.pointer (some ⟨w0 + 3 + p, 0, none⟩))
  c3 : w.cell? ⟨w0, j * 2, none⟩ = some (nodeV (K j) (w0 + 3 + j))
  c4 : w.cell? ⟨w0, j * 2 + 1, none⟩ = some (.int .i32 0)
theorem Grow.reads (h : Grow K par S n w0 wx j V) {p : Nat} (hp : p < n) (hj : j < n) (q : Nat) (hq : (q = 1 ∧ K p % 3 = 1) ∨ (q = 2 ∧ K p % 3 = 2)) : Reads K V w0 q p j wx := by
  refine ⟨(h.node p hp).head (by omega), (h.node p hp).free 0, ?_, ?_, ?_⟩
  · rcases hq with ⟨rfl, e⟩ | ⟨rfl, e⟩
    · rw [h.arrs.cell hp]; unfold arrV; rw [if_pos ⟨hp, e⟩]; rfl
    · rw [h.objs.cell hp]; unfold objV; rw [if_pos ⟨hp, e⟩]; rfl
  · rw [h.bs.cell (by omega)]; unfold bsV; rw [if_neg (by omega), if_pos (by omega), show j * 2 / 2 = j by omega]
  · rw [h.bs.cell (by omega)]; unfold bsV; rw [if_pos (by omega)]
theorem Grow.kept (h : Grow K par S n w0 wx j V) {p : Nat} (hp : p < n) (hK : K p % 3 ≠ 0) {wa w1 : World} {o : Obj} (hwa : wa.heap = (wx.alloc o).heap) (hg : wa.grownBy w1 (V p).ownBlock) (b : Nat) (hb : b < w0 + 3 + n) :
    w1.heap[b]? = wx.heap[b]? := by
  have hsz : wa.heap.size = wx.heap.size + 1 := by rw [hwa]; simp
  have hsize := h.size
  rw [hg.block b (by omega) (fun e => by have := (h.low p hp hK b e.symm).1; omega), hwa]
  exact Below.heap_alloc wx o b (by omega)
theorem Grow.reads_after (h : Grow K par S n w0 wx j V) {p : Nat} (hp : p < n) (hj : j < n) (q : Nat) (hq : (q = 1 ∧ K p % 3 = 1) ∨ (q = 2 ∧ K p % 3 = 2)) {wa w1 : World} {o : Obj} (hwa : wa.heap = (wx.alloc o).heap) (hg : wa.grownBy w1 (V p).ownBlock) :
    Reads K V w0 q p j w1 := by
  have hr := h.reads hp hj q hq
  have hk := fun b hb => h.kept hp (by omega) hwa hg b hb
  exact ⟨(cell_of_block (hk _ (by simp; omega))).trans hr.c1, (frozen_of_block (hk _ (by simp; omega))).trans hr.f1, (cell_of_block (hk _ (by simp; omega))).trans hr.c2, (cell_of_block (hk _ (by simp; omega))).trans hr.c3, (cell_of_block (hk _ (by simp; omega))).trans hr.c4⟩
theorem Grow.below (h : Grow K par S n w0 wx j V) {w : World} (hb : Below w0 w wx) {p : Nat} (hp : p < n) (hK : K p % 3 ≠ 0) {wa w1 : World} {o : Obj} (hwa : wa.heap = (wx.alloc o).heap) (h1 : wa.os = wx.os) (h2 : wa.tape = wx.tape) (h3 : wa.output = wx.output) (hg : wa.grownBy w1 (V p).ownBlock) (v : Value) :
    Below w0 w (w1.setCell ⟨w0 + 3 + p, 0, none⟩ v) := by
  have hsz : wa.heap.size = wx.heap.size + 1 := by rw [hwa]; simp
  have hsz2 := hg.size
  have hbs := hb.size
  have h1w : Below w0 w w1 := ⟨hg.os.trans (h1.trans hb.os), hg.tape.trans (h2.trans hb.tape), hg.output.trans (h3.trans hb.output), by omega, fun b hb2 => (h.kept hp hK hwa hg b (by omega)).trans (hb.block b hb2)⟩
  exact h1w.setCell (p := ⟨w0 + 3 + p, 0, none⟩) (by simp; omega) v
end
end Go.Proofs.Ytoeaockleddngaa
