import Derived.WalkKit
import Derived.ProofKit
import Derived.KernelRfl
import Derived.Lib.Hide
import Derived.Handy
import Derived.WalkSpells
import Derived.WalkLawsBesides
import Derived.Deep.OwnRows
namespace Go.Proofs.Ytoeaockleddngaa
open Go Go.RowKit

/-- The cells of a block that has just been laid. -/
theorem cells_new (w : World) (l : List Value) (t : TypeId) : ∀ j u, l[j]? = some u → (w.alloc (.cells l.toArray t)).cell? ((⟨w.heap.size, 0, none⟩ : Addr).add j) = some u := by
  intro j u hj
  have h : (⟨w.heap.size, 0, none⟩ : Addr).add j = ⟨w.heap.size, j, none⟩ := by
    unfold Addr.add; split <;> simp_all
  rw [h]
  simp only [World.cell?, heap_alloc_new]
  simpa using hj

/-- The same at a block by its number. -/
def Blk (w : World) (b : Nat) (l : List Value) (t : TypeId) : Prop := w.heap[b]? = some (.cells l.toArray t (0, 0))

theorem Blk.lt {w : World} {b : Nat} {l : List Value} {t : TypeId} (h : Blk w b l t) : b < w.heap.size := (Array.getElem?_eq_some_iff.1 h).1
theorem Blk.cell {w : World} {b : Nat} {l : List Value} {t : TypeId} (h : Blk w b l t) (j : Nat) : w.cell? ⟨b, j, none⟩ = l[j]? := by
  unfold Blk at h
  simp [World.cell?, h]
theorem Blk.free {w : World} {b : Nat} {l : List Value} {t : TypeId} (h : Blk w b l t) (j : Nat) : w.frozen? ⟨b, j, none⟩ = false := by
  unfold Blk at h
  simp [World.frozen?, h]
theorem Blk.below {w w' : World} {B b : Nat} {l : List Value} {t : TypeId} (h : Blk w b l t) (hb : Below B w w') (hlt : b < B) : Blk w' b l t := by
  unfold Blk at *
  rw [hb.block b hlt]; exact h
theorem Blk.grown {w w' : World} {r : Option Nat} {b : Nat} {l : List Value} {t : TypeId} (h : Blk w b l t) (hg : w.grownBy w' r) (hne : some b ≠ r) : Blk w' b l t := by
  unfold Blk at *
  rw [hg.block b (Array.getElem?_eq_some_iff.1 h).1 hne]; exact h
theorem Blk.alloc {w : World} {b : Nat} {l : List Value} {t : TypeId} (h : Blk w b l t) (o : Obj) : Blk (w.alloc o) b l t := by
  unfold Blk at *
  rw [Below.heap_alloc _ _ _ (Array.getElem?_eq_some_iff.1 h).1]; exact h
theorem Blk.new (w : World) (l : List Value) (t : TypeId) : Blk (w.alloc (.cells l.toArray t)) w.heap.size l t := by
  unfold Blk; exact heap_alloc_new w _
theorem Blk.new_at (w : World) (l : List Value) (t : TypeId) (b : Nat) (h : b = w.heap.size) : Blk (w.alloc (.cells l.toArray t)) b l t := by
  subst h; exact Blk.new w l t
theorem Blk.drew {w : World} {b : Nat} {l : List Value} {t : TypeId} (h : Blk w b l t) : Blk w.drew b l t := h
theorem Blk.setOther {w : World} {b : Nat} {l : List Value} {t : TypeId} (h : Blk w b l t) {a : Addr} (hne : b ≠ a.block) (v : Value) : Blk (w.setCell a v) b l t := by
  unfold Blk at *
  rw [Below.heap_setCell _ _ _ _ hne]; exact h
theorem Blk.setSame {w : World} {b : Nat} {l : List Value} {t : TypeId} (h : Blk w b l t) (j : Nat) (v : Value) : Blk (w.setCell ⟨b, j, none⟩ v) b (l.set j v) t := by
  unfold Blk at *
  simp [World.setCell, Array.getElem?_modify, h]
/-! ### A type assertion to a pointer type -/
def isPtr : Option TypeDesc → Bool
  | some (.pointer _) => true
  | _ => false
theorem run_assert_hit {P : Program} (w : World) (v : Value) (xT t : TypeId) (h : isPtr (P.underlying t) = true) : (Instr.typeAssert (.iface t v) xT t true).run P w = .ok (.tuple #[v, .bool true]) w := by
  unfold isPtr at h
  split at h
  · rename_i e he
    simp [Instr.typeAssert, run_underlying he]
  · cases h
theorem run_assert_miss {P : Program} (w : World) (v : Value) (xT t u : TypeId) (h : isPtr (P.underlying t) = true) (hz : (P.info? t).map (·.zero) = some (some (.pointer none))) (hne : (u == t) = false) :
    (Instr.typeAssert (.iface u v) xT t true).run P w = .ok (.tuple #[.pointer none, .bool false]) w := by
  unfold isPtr at h
  have hne' : ¬ u = t := by simpa using hne
  split at h
  · rename_i e he
    cases hj : P.info? t with
    | none => simp [hj] at hz
    | some j =>
      have hz' : j.zero = some (.pointer none) := by simpa [hj] using hz
      simp [Instr.typeAssert, run_underlying he, hne', zeroValue, typeInfo, hj, hz']
  · cases h
theorem run_assert_nil {P : Program} (w : World) (xT t : TypeId) (h : isPtr (P.underlying t) = true) (hz : (P.info? t).map (·.zero) = some (some (.pointer none))) :
    (Instr.typeAssert .nilIface xT t true).run P w = .ok (.tuple #[.pointer none, .bool false]) w := by
  unfold isPtr at h
  split at h
  · rename_i e he
    cases hj : P.info? t with
    | none => simp [hj] at hz
    | some j =>
      have hz' : j.zero = some (.pointer none) := by simpa [hj] using hz
      simp [Instr.typeAssert, run_underlying he, zeroValue, typeInfo, hj, hz']
  · cases h

/-! ### Floats that come of whole numbers -/
theorem order_self (d : Ieee.Datum) (h : d.isNaN = false) : d.order d = some .eq := by
  cases d with
  | number s m i => simp [Ieee.Datum.order]
  | infinity s => simp [Ieee.Datum.order]
  | nan s f => simp [Ieee.Datum.isNaN] at h
theorem read_word (f : Ieee.Format) (neg : Bool) (r : Nat) (h : r ≤ f.infRung) (hi : f.infRung < f.signWeight) : (f.read (f.word neg r)).isNaN = false := by
  have hm : f.word neg r % f.signWeight = r := by
    unfold Ieee.Format.word
    split
    · rw [Nat.add_mod_left]; exact Nat.mod_eq_of_lt (by omega)
    · exact Nat.mod_eq_of_lt (by omega)
  unfold Ieee.Format.read
  simp only [hm]
  split
  · rfl
  · split
    · rfl
    · split
      · rfl
      · omega
theorem floatEq_int (k : FloatKind) (n : Int) : Op.floatEq k (floatOfInt k n) (floatOfInt k n) = true := by
  unfold Op.floatEq Ieee.Format.order
  rw [order_self]
  · rfl
  · unfold floatOfInt FloatKind.nearest FloatKind.encode Ieee.Format.write Ieee.Format.nearest
    simp only
    split
    · exact read_word _ _ _ (Nat.zero_le _) (Ieee.Format.infRung_lt _)
    · exact read_word _ _ _ (Nat.min_le_right _ _) (Ieee.Format.infRung_lt _)

/-! ### A row of elements of several cells, as a list of lists -/
theorem flat_len {α : Type} (l : List α) (f : α → List Value) (s : Nat) (hf : ∀ a, (f a).length = s) : (l.flatMap f).length = l.length * s := by
  induction l with
  | nil => simp
  | cons a l ih => simp [hf, ih, Nat.add_mul, Nat.add_comm]
theorem flat_get {α : Type} (l : List α) (f : α → List Value) (s : Nat) (hf : ∀ a, (f a).length = s) (i j : Nat) (a : α) (hi : l[i]? = some a) (hj : j < s) : (l.flatMap f)[i * s + j]? = (f a)[j]? := by
  induction l generalizing i with
  | nil => simp at hi
  | cons b l ih =>
    cases i with
    | zero =>
      simp only [List.getElem?_cons_zero, Option.some.injEq] at hi
      subst hi
      simp only [List.flatMap_cons, Nat.zero_mul, Nat.zero_add]
      rw [List.getElem?_append_left (by rw [hf]; exact hj)]
    | succ i =>
      simp only [List.getElem?_cons_succ] at hi
      simp only [List.flatMap_cons]
      rw [List.getElem?_append_right (by rw [hf, Nat.add_mul]; omega), hf, Nat.add_mul, Nat.one_mul, show i * s + s + j - s = i * s + j by omega]
      exact ih i hi
theorem ownsRow_base {w : World} {B B' : Nat} {e : TypeId} {size n : Nat} {v : Value} {xs : List Value} (h : w.ownsRow B' e size v n xs) (hB : B ≤ B') : w.ownsRow B e size v n xs :=
  ⟨h.1, h.2.imp id (fun ⟨g, cap, cur, a, b, c⟩ => ⟨g, cap, cur, a, Nat.le_trans hB b, c⟩)⟩
/-- Rows of two types lie in two blocks. -/
theorem own_ne {w : World} {B B' : Nat} {t t' : TypeId} {s s' n n' : Nat} {v v' : Value} {xs xs' : List Value} (h : w.ownsRow B t s v n xs) (h' : w.ownsRow B' t' s' v' n' xs') (ht : t ≠ t') :
    v.ownBlock = none ∨ v.ownBlock ≠ v'.ownBlock := by
  rcases h.2 with ⟨rfl, _⟩ | ⟨g, cap, cur, rfl, _, hh, _⟩
  · exact .inl rfl
  · rcases h'.2 with ⟨rfl, _⟩ | ⟨g', cap', cur', rfl, _, hh', _⟩
    · exact .inr (by simp [Value.ownBlock])
    · refine .inr fun e => ?_
      simp only [Value.ownBlock, Option.some.injEq] at e
      subst e
      rw [hh] at hh'
      injection hh' with e
      injection e with _ e
      exact ht e
theorem own_after {w w' : World} {B : Nat} {t : TypeId} {s n n' : Nat} {v v' v0 : Value} {xs : List Value} (_h : w.ownsRow B t s v n xs) (h' : v' = .slice none 0 0 ↔ v = .slice none 0 0 ∧ n' = 0) (hown : w'.ownsRow B t s v' v0.cells.size xs) (hn : v.ownBlock ≠ none) : v'.ownBlock ≠ none := by
  rcases hown.2 with ⟨rfl, _⟩ | ⟨g, cap, cur, rfl, _, hh, _⟩
  · have := (h'.1 rfl).1; subst this; simp [Value.ownBlock] at hn
  · simp [Value.ownBlock]
/-- An owned row of at least one element is no nil slice. -/
theorem own_some {w : World} {B : Nat} {t : TypeId} {s n : Nat} {v : Value} {xs : List Value} (h : w.ownsRow B t s v n xs) (hn : 0 < n) : v.ownBlock ≠ none := by
  rcases h.2 with ⟨_, h⟩ | ⟨g, cap, cur, rfl, _⟩
  · omega
  · simp [Value.ownBlock]
/-- An owned row stays through whatever leaves all blocks as they were. -/
theorem ownsRow_below {w w' : World} {B : Nat} {e : TypeId} {size n : Nat} {v : Value} {xs : List Value} (h : w.ownsRow B e size v n xs) (hb : Below w.heap.size w w') : w'.ownsRow B e size v n xs :=
  h.kept (row := none) ⟨hb.os, hb.tape, hb.output, hb.size, fun k hk _ => hb.block k hk⟩ (by cases hv : v.ownBlock <;> simp)
theorem grownBy_setCell (w : World) (a : Addr) (u : Value) : w.grownBy (w.setCell a u) (some a.block) :=
  ⟨rfl, rfl, rfl, by simp [World.setCell], fun k _ hne => Below.heap_setCell _ _ _ _ (fun e => hne (by rw [e]))⟩
theorem own_setOther {w : World} {B : Nat} {e : TypeId} {size n : Nat} {v : Value} {xs : List Value} (h : w.ownsRow B e size v n xs) {a : Addr} (hne : v.ownBlock ≠ some a.block) (u : Value) : (w.setCell a u).ownsRow B e size v n xs :=
  h.kept (grownBy_setCell w a u) (.inr hne)
theorem rowIs_grown {w w' : World} {r : Option Nat} {b : Nat} {t : TypeId} {n : Nat} {f : Nat → Value} (h : w.rowIs b t n f) (hg : w.grownBy w' r) (hne : some b ≠ r) : w'.rowIs b t n f :=
  h.of_block (hg.block b h.lt hne)
theorem rowIs_below {w w' : World} {B b : Nat} {t : TypeId} {n : Nat} {f : Nat → Value} (h : w.rowIs b t n f) (hb : Below B w w') (hB : w.heap.size ≤ B) : w'.rowIs b t n f :=
  h.of_block (hb.block b (Nat.lt_of_lt_of_le h.lt hB))

theorem own_form {w : World} {B : Nat} {t : TypeId} {s n : Nat} {v : Value} {xs : List Value} (h : w.ownsRow B t s v n xs) (hn : 0 < n) : ∃ g cap, v = .slice (some ⟨g, 0, none⟩) n cap ∧ B ≤ g := by
  rcases h.2 with ⟨_, h⟩ | ⟨g, cap, cur, rfl, hb, _⟩
  · omega
  · exact ⟨g, cap, rfl, hb⟩

/-! ### append, with where the new row lies -/
theorem run_append_where {P : Program} (w : World) (base : Nat) (t ty e : TypeId) (i : TypeInfo) (z : Value) (size bytes : Nat) (ht : P.underlying t = some (.slice e)) (hi : P.info? e = some i) (hz : i.zero = some z)
    (hsize : i.size = size) (hby : i.bytes = bytes) (hzs : z.cells.size = size) (hsz : 0 < size)
    (v : Value) (n : Nat) (xs : List Value) (hown : w.ownsRow base e size v n xs)
    (a : Addr) (m c : Nat) (news : List Value) (hl : news.length = m * size) (hnews : ∀ j u, news[j]? = some u → w.cell? (a.add j) = some u) (h1 : ∀ u ∈ news, u.oneCell' = true)
    (h63 : n + m ≤ maxLen) (hbytes : (n + m) * bytes ≤ 140737488355328) (hbase : base ≤ w.heap.size) (hm : 0 < m) :
    ∃ v' w', (Builtin.append_ #[t, t] ty #[v, .slice (some a) m c]).run P w = .ok v' w' ∧ w'.ownsRow base e size v' (n + m) (xs ++ news) ∧ w.grownBy w' v.ownBlock ∧
      (∃ g, v'.ownBlock = some g ∧ (v.ownBlock = some g ∨ w.heap.size ≤ g)) := by
  have K0 := hown
  rcases hown.2 with ⟨rfl, rfl⟩ | ⟨g, cap, cur, rfl, hbg, hg, hnc, hcm, hcs, htake⟩
  · have hx : xs = [] := List.eq_nil_of_length_eq_zero (by simpa using hown.1)
    subst hx
    obtain ⟨v', w', hr, h2, h3, h4⟩ := run_append_own (P := P) w w.heap.size t ty e i z size bytes ht hi hz hsize hby hzs hsz _ 0 [] (World.ownsRow_nil _ _ _ _) a m c news hl hnews h1 h63 hbytes (Nat.le_refl _)
    have hg := own_some h2 (by omega)
    obtain ⟨g, hg⟩ := Option.ne_none_iff_exists'.1 hg
    exact ⟨v', w', hr, ⟨h2.1, h2.2.imp id (fun ⟨g, cap, cur, a, b, c⟩ => ⟨g, cap, cur, a, Nat.le_trans hbase b, c⟩)⟩, h3, g, hg, .inr (h2.lt g hg).1⟩
  · obtain ⟨v', w', hr, h2, h3, h4⟩ := run_append_own (P := P) w base t ty e i z size bytes ht hi hz hsize hby hzs hsz _ n xs K0 a m c news hl hnews h1 h63 hbytes hbase
    by_cases hroom : n + m ≤ cap
    · subst hsize
      have hfit : n * i.size + news.length ≤ cur.size := by rw [hl, hcs, ← Nat.add_mul]; exact Nat.mul_le_mul_right _ hroom
      have hr' := run_append_room (P := P) w t ty e i ht hi g n cap cur hg a m c news hl hnews h1 hroom hfit
      rw [hr'] at hr
      injection hr with e1 e2
      subst e1
      exact ⟨_, _, hr'.trans (by rw [e2]), h2, h3, g, rfl, .inl rfl⟩
    · have holds : ∀ j u, xs[j]? = some u → w.cell? ((⟨g, 0, none⟩ : Addr).add j) = some u := K0.cells (g := g) rfl
      subst hsize
      subst hby
      have hsmall : n + m ≤ 9223372036854775807 := by simp only [maxLen] at h63; omega
      have hr' := run_append_grow (P := P) w t ty e i z ht hi hz ⟨g, 0, none⟩ n cap xs K0.1 holds a m c news hl hnews (by omega) (by omega) (growslice_fits (by omega) hbytes)
      rw [hr'] at hr
      injection hr with e1 e2
      subst e1
      exact ⟨_, _, hr'.trans (by rw [e2]), h2, h3, _, rfl, .inr (Nat.le_refl _)⟩

theorem wpList_append_where {P : Program} {ops : Array Oper} {rest : List Oper} {o : Oper} {ac : Act} {Q : Exit → Act → World → Prop} (w : World)
    (hgd : o.guard = none) (s x : Operand) (t : TypeId) (hop : o.op = Op.call { callee := Callee.builtin Builtin.append, args := #[s, x], argTypes := #[t, t] })
    (base : Nat) (e : TypeId) (i : TypeInfo) (z : Value) (size bytes : Nat) (ht : P.underlying t = some (.slice e)) (hi : P.info? e = some i) (hz : i.zero = some z)
    (hsize : i.size = size) (hby : i.bytes = bytes) (hzs : z.cells.size = size) (hsz : 0 < size)
    (v : Value) (n : Nat) (xs : List Value) (hs : ac.eval s = v) (hown : w.ownsRow base e size v n xs)
    (a : Addr) (m c : Nat) (news : List Value) (hx : ac.eval x = .slice (some a) m c) (hl : news.length = m * size) (hm : 0 < m) (hnews : ∀ j u, news[j]? = some u → w.cell? (a.add j) = some u) (h1 : ∀ u ∈ news, u.oneCell' = true)
    (h63 : n + m ≤ maxLen) (hbytes : (n + m) * bytes ≤ 140737488355328) (hbase : base ≤ w.heap.size)
    (hK : ∀ v' w', w'.ownsRow base e size v' (n + m) (xs ++ news) → w.grownBy w' v.ownBlock → (∃ g, v'.ownBlock = some g ∧ (v.ownBlock = some g ∨ w.heap.size ≤ g)) → wpList P ops Q rest (ac.put o.dst v') w') :
    wpList P ops Q (o :: rest) ac w := by
  obtain ⟨v', w', hr, h2, h3, h4⟩ := run_append_where (P := P) w base t o.type e i z size bytes ht hi hz hsize hby hzs hsz v n xs hown a m c news hl hnews h1 h63 hbytes hbase hm
  refine wpList_plain hgd fun K hK' => ?_
  unfold Oper.wp execOp
  simp only [hop, resolve, invoke, builtin, Sem.run_bind, Sem.run_pure, Result.andThen_ok, List.map_toArray, List.map_cons, List.map_nil, hs, hx, hr]
  exact hK' _ _ (hK v' w' h2 h3 h4)

/-- append, as one step of a region that draws its order. -/
theorem step_append_where {P : Program} {ops : Array Oper} {o : Oper} {ac : Act} {w : World} {K : Act → World → Prop} {Q : Exit → Act → World → Prop} {E : Prop}
    (hgd : o.guard = none) (s x : Operand) (t : TypeId) (hop : o.op = Op.call { callee := Callee.builtin Builtin.append, args := #[s, x], argTypes := #[t, t] })
    (base : Nat) (e : TypeId) (i : TypeInfo) (z : Value) (size bytes : Nat) (ht : P.underlying t = some (.slice e)) (hi : P.info? e = some i) (hz : i.zero = some z)
    (hsize : i.size = size) (hby : i.bytes = bytes) (hzs : z.cells.size = size) (hsz : 0 < size)
    (v : Value) (n : Nat) (xs : List Value) (hs : ac.eval s = v) (hown : w.ownsRow base e size v n xs)
    (a : Addr) (m c : Nat) (news : List Value) (hx : ac.eval x = .slice (some a) m c) (hl : news.length = m * size) (hnews : ∀ j u, news[j]? = some u → w.cell? (a.add j) = some u) (h1 : ∀ u ∈ news, u.oneCell' = true)
    (h63 : n + m ≤ maxLen) (hbytes : (n + m) * bytes ≤ 140737488355328) (hbase : base ≤ w.heap.size) (hm : 0 < m)
    (hK : ∀ v' w', w'.ownsRow base e size v' (n + m) (xs ++ news) → w.grownBy w' v.ownBlock → (∃ g, v'.ownBlock = some g ∧ (v.ownBlock = some g ∨ w.heap.size ≤ g)) → K (ac.put o.dst v') w') :
    if Region.wanted o (yielded ops ac.tmps) = true then Oper.wp P o ac w K Q else E := by
  have hw : Region.wanted o (yielded ops ac.tmps) = true := by simp [Region.wanted, hgd]
  rw [if_pos hw]
  obtain ⟨v', w', hr, h2, h3, h4⟩ := run_append_where (P := P) w base t o.type e i z size bytes ht hi hz hsize hby hzs hsz v n xs hown a m c news hl hnews h1 h63 hbytes hbase hm
  unfold Oper.wp execOp
  simp only [hop, resolve, invoke, builtin, Sem.run_bind, Sem.run_pure, Result.andThen_ok, List.map_toArray, List.map_cons, List.map_nil, hs, hx, hr]
  exact hK v' w' h2 h3 h4

end Go.Proofs.Ytoeaockleddngaa
