/- The parser, the feature test and the wrapper of the query. -/
import Derived.Test.YtoeaockleddngaaW8
namespace Go.Proofs.Ytoeaockleddngaa
open Go Go.RowKit
set_option maxRecDepth 100000
set_option linter.unusedVariables false

theorem zhas_any {K : Nat → Nat} {par : Nat → Int} {S : Nat → Bool} {n w0 : Nat} {V : Nat → Value} (hpar : Fo.Par K n par) (hn : n ≤ 65536) (i : Nat) (hi : i < n) (w : World) (hg : Grow K par S n w0 w n V) :
    Calls Try.prog 27 #[.agg #[nodeV (K i) (w0 + 3 + i), .int .i32 0]] w fun e w' => e = .returned (.bool (Fo.hr K par S n i)) ∧ Below w.heap.size w w' := by
  obtain ⟨ty, nv, hnv⟩ := nodeV_form (K i) (w0 + 3 + i)
  have H1 : Hid (∀ W, Below w.heap.size w W → Calls Try.prog 38 #[.agg #[.iface ty nv, .int .i32 0]] W fun e w' => e = .returned (.bool (Fo.hr K par S n i)) ∧ Below w.heap.size w w') := by
    rw [← hnv]; exact Lib.hid fun W hb => (has_any hpar hn (n - i) i (Nat.le_refl _) hi W (hg.later hb)).mono fun e w' h => ⟨h.1, hb.trans (h.2.mono hb.size)⟩
  rw [hnv]
  clear hnv hg hpar
  go_enter Try.func27, Try.ntmps27
  go_wp2_with (first | (go_at_call 38; refine (H1.out _ ?_).mono ?_; go_grown; rintro ee w1 ⟨rfl, hw1⟩; have HW := Lib.hid hw1; clear hw1))
  go_ret
  exact ⟨rfl, HW.out⟩
theorem has_bit (x y : Int) (w : World) :
    Calls Try.prog 42 #[.int .u64 x, .int .u64 y] w fun e w' => e = .returned (.bool (bits BinOp.and IntKind.u64 x y != 0)) ∧ w = w' := by
  go_enter Try.func42, Try.ntmps42
  go_wp2
  go_ret
  exact ⟨rfl, rfl⟩
theorem oper_build {P : Program} {o : Oper} {ac : Act} {w : World} {K : Act → World → Prop} {Q : Exit → Act → World → Prop} (t : TypeId) (i : Nat) (x : Operand) (hop : o.op = Op.build t #[(i, x)]) (v : Value) (hv : ac.eval x = v)
    (F : Value → World → Array Value) (hrun : (Instr.build t #[(i, v)]).run P w = .ok (.agg (F v w)) w) (hK : K (ac.put o.dst (.agg (F v w))) w) : Oper.wp P o ac w K Q := by
  unfold Oper.wp execOp
  simp only [hop, List.map_toArray, List.map_cons, List.map_nil, hv, Sem.run_bind, Sem.run_pure, Result.andThen_ok, hrun]
  exact hK
noncomputable def opts (x : Int) : Value := .agg #[Value.slice none 0 0, Value.nilIface, Value.slice none 0 0, Value.int IntKind.u32 0, Value.nilIface, Value.slice none 0 0, Value.int IntKind.u32 0, Value.bool false, Value.bool false, Value.bool false, Value.string { data := #[] }, Value.bool false, Value.bool false, Value.pointer none, Value.pointer none, Value.pointer none, Value.slice none 0 0, Value.pointer none, Value.string { data := #[] }, Value.pointer none, Value.int IntKind.i32 0, Value.int IntKind.i32 0, Value.int IntKind.u8 0, Value.int IntKind.u64 x, Value.int IntKind.u64 0, Value.int IntKind.u64 0, Value.int IntKind.u8 0, Value.int IntKind.u8 0, Value.int IntKind.u8 0, Value.int IntKind.u8 0, Value.int IntKind.u8 0, Value.int IntKind.u8 0, Value.bool false, Value.bool false, Value.int IntKind.u8 0, Value.int IntKind.u8 0, Value.int IntKind.u8 0, Value.int IntKind.u8 0, Value.int IntKind.u8 0, Value.bool false, Value.bool false, Value.bool false, Value.bool false, Value.bool false, Value.bool false, Value.bool false, Value.bool false, Value.bool false, Value.bool false, Value.bool false, Value.bool false]
noncomputable def parserCells (v : Value) (w : World) : Array Value := match (Instr.build 224 #[(0, v)]).run Try.prog w with | .ok (.agg c) _ => c | _ => #[]
theorem parser_size (x : Int) (w : World) : (parserCells (opts x) w).size = 353 := by unfold parserCells opts; kernel_rfl
theorem parser_feat (x : Int) (w : World) : (parserCells (opts x) w)[23]? = some (.int .u64 x) := by unfold parserCells opts; kernel_rfl
set_option maxHeartbeats 4000000 in
/-- ZZNewParser: a fresh block whose cell 23 holds the features. -/
theorem parser_any (x : Int) (w : World) :
    Calls Try.prog 25 #[.int .u64 x] w fun e w' => e = .returned (.pointer (some ⟨w.heap.size, 0, none⟩)) ∧ w'.cell? ⟨w.heap.size, 23, none⟩ = some (.int .u64 x) ∧ w'.heap.size = w.heap.size + 1 ∧ Below w.heap.size w w' := by
  go_enter Try.func25, Try.ntmps25
  go_wp2
  refine oper_build 224 0 (.tmp 5) rfl _ rfl parserCells ?h1 ?h2
  case h1 => unfold parserCells; kernel_rfl
  case h2 =>
    go_wp2
    go_ret
    refine ⟨rfl, ?_, by simp, by go_grown⟩
    have := parser_feat x w
    unfold opts at this
    simp only [World.cell?, heap_alloc_new]
    simpa using this
end Go.Proofs.Ytoeaockleddngaa
