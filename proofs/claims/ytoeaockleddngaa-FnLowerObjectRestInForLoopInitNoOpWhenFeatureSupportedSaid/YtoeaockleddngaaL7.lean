/- Where the target supports object rest, lowerObjectRestInForLoopInit leaves the head of a for loop and its body as they were. For all inputs; the statement is the given one, without any condition of ours. -/
import Derived.Test.YtoeaockleddngaaWG
import Derived.Test.YtoeaockleddngaaEC
namespace Go.Proofs.Ytoeaockleddngaa.Law7
open Go Go.ChangeShapes Go.WideShapes Go.ChangeAt Go.RowKit
set_option linter.unusedVariables false

theorem and_mk {a b : Bool} (h : a = true) (k : b = true) : (a && b) = true := by rw [h, k]; rfl
theorem own : ownKnob Try.prog.godebug = none := by kernel_rfl
theorem laidOut : laidOutB Try.prog = true := by kernel_rfl
set_option maxRecDepth 100000 in
theorem lifted (os : Os) (started : os.Started) (H : Type) (enc : TypeId × Value → H) :
    ReturnsInHanded {} Try.checked os 7 .any (Rows.fnLowerObjectRestInForLoopInitNoOpWhenFeatureSupportedSpec.pre6 enc Try.prog Try.f7 Rows.fnLowerObjectRestInForLoopInitNoOpWhenFeatureSupportedRow.domain false) (Rows.fnLowerObjectRestInForLoopInitNoOpWhenFeatureSupportedSpec.post enc Try.prog Try.f7 false true false false) := by
  refine returnsInHanded_of_change (C := Try.checked) own started (by kernel_rfl) Try.func7
    (ChangeSpec.witness6 (enc := enc) (C := Try.checked) false ⟨#[], #[.int .u64 0, .bool false, .slice none 0 0, .slice none 0 0, .slice none 0 0, .int .u16 0], []⟩ 8 (by kernel_rfl) (by kernel_rfl) (by kernel_rfl) (by kernel_rfl)) ?_
  intro W base args ds gs before hval0 hW hcnd _
  have hval : ∀ (j : Nat) t v, Try.f7.params[j]? = some t → args[j]? = some v → Value.okWide Try.prog W .any base t v := hval0
  have hW' := hW
  obtain ⟨p, q, hA0, hV, rfl, hfz, hnd⟩ := hW
  have hA : DataW.TrodAll enc Try.prog W 0 (fun _ => true) true Try.f7.params.toList args.toList ds p := hA0
  rw [Try.params7] at hA hval
  obtain ⟨v0, vs0, d0, ds0, p0, q0, hargs, rfl, rfl, h0, r0⟩ := trodAll_cons hA
  obtain ⟨v1, vs1, d1, ds1, p1, q1, rfl, rfl, rfl, h1, r1⟩ := trodAll_cons r0
  obtain ⟨v2, vs2, d2, ds2, p2, q2, rfl, rfl, rfl, h2, r2⟩ := trodAll_cons r1
  obtain ⟨v3, vs3, d3, ds3, p3, q3, rfl, rfl, rfl, h3, r3⟩ := trodAll_cons r2
  obtain ⟨v4, vs4, d4, ds4, p4, q4, rfl, rfl, rfl, h4, r4⟩ := trodAll_cons r3
  obtain ⟨v5, vs5, d5, ds5, p5, q5, rfl, rfl, rfl, h5, r5⟩ := trodAll_cons r4
  obtain ⟨rfl, rfl, rfl⟩ := trodAll_nil r5
  obtain rfl : args = #[v0, v1, v2, v3, v4, v5] := by cases args; simp_all
  obtain ⟨rfl, rfl⟩ := trodVars_none hV
  obtain ⟨x0, rfl, rfl, rfl, wx0⟩ := open_int Try.underlying22 (hval 0 22 v0 rfl rfl) h0
  obtain ⟨x1, rfl, rfl, rfl⟩ := open_bool Try.underlying4 (hval 1 4 v1 rfl rfl) h1
  obtain ⟨a2, len2, cap2, rfl⟩ := okWide_slice Try.underlying23 (hval 2 23 v2 rfl rfl)
  have lt2 : ∀ x ∈ p2, x.block < W.heap.size := by obtain ⟨m, hm⟩ := h2; exact DataW.trod_lt m _ _ _ hm
  obtain ⟨l2, z2, b2, c2⟩ := arr_bytes Try.underlying23 Try.underlying5 (by kernel_rfl) h2
  obtain ⟨a3, len3, cap3, rfl⟩ := okWide_slice Try.underlying24 (hval 3 24 v3 rfl rfl)
  have lt3 : ∀ x ∈ p3, x.block < W.heap.size := by obtain ⟨m, hm⟩ := h3; exact DataW.trod_lt m _ _ _ hm
  obtain ⟨l3, z3, b3, c3⟩ := arr_i32 Try.underlying24 Try.underlying21 (by kernel_rfl) h3
  obtain ⟨a4, len4, cap4, rfl⟩ := okWide_slice Try.underlying25 (hval 4 25 v4 rfl rfl)
  have lt4 : ∀ x ∈ p4, x.block < W.heap.size := by obtain ⟨m, hm⟩ := h4; exact DataW.trod_lt m _ _ _ hm
  obtain ⟨l4, z4, c4⟩ := arr_bools Try.underlying25 Try.underlying4 (by kernel_rfl) h4
  obtain ⟨x5, rfl, rfl, rfl, wx5⟩ := open_int Try.underlying28 (hval 5 28 v5 rfl rfl) h5
  have bx5 := bounds_u16 wx5
  obtain ⟨m5, rfl⟩ : ∃ m : Nat, x5 = m := ⟨x5.toNat, by omega⟩
  clear hA0 hval0
  refine (law7 a2 a3 a4 len2 cap2 len3 cap3 len4 cap4 z2 z3 z4 x1 m5 W x0 l2 l3 l4 (by omega) b2 b3 c2 c3 c4).mono fun e W' ⟨he, bel⟩ => ?_
  subst he
  exact ⟨_, rfl, _, _, _, [], _, [], hW', trodAll_mk1 (shut_bool Try.underlying4 _), (trodAll_cons_mk (shut_int Try.underlying22 wx0) (trodAll_cons_mk (shut_bool Try.underlying4 _) (trodAll_cons_mk (Below.trod laidOut (by kernel_rfl) (of_decide_eq_true (by kernel_rfl)) h2 bel lt2) (trodAll_cons_mk (Below.trod laidOut (by kernel_rfl) (of_decide_eq_true (by kernel_rfl)) h3 bel lt3) (trodAll_cons_mk (Below.trod laidOut (by kernel_rfl) (of_decide_eq_true (by kernel_rfl)) h4 bel lt4) (trodAll_cons_mk (shut_int Try.underlying28 wx5) trodAll_mk0)))))), rfl, bel.frame _, fun h => by cases h⟩

set_option maxHeartbeats 40000000 in
set_option maxRecDepth 100000 in
theorem closed : joinedFacts Try.prog 7 Try.f7 Rows.fnLowerObjectRestInForLoopInitNoOpWhenFeatureSupportedSpec Rows.fnLowerObjectRestInForLoopInitNoOpWhenFeatureSupportedRow = true := by
  unfold joinedFacts
  repeat' (with_reducible refine and_mk ?_ ?_)
  all_goals (first | with_reducible exact laidOut | as_aux_lemma => kernel_rfl)
theorem named : Try.pinned.checked.prog.funcNamed Rows.fnLowerObjectRestInForLoopInitNoOpWhenFeatureSupportedRow.func = some 7 := by kernel_rfl
theorem over : Rows.fnLowerObjectRestInForLoopInitNoOpWhenFeatureSupportedRow.holds Try.pinned (OpenSpec.ofChange Rows.fnLowerObjectRestInForLoopInitNoOpWhenFeatureSupportedSpec) :=
  OpenClaim.holds_of_wide 7 Try.f7 rfl rfl rfl rfl rfl rfl rfl ⟨rfl, rfl, rfl, rfl, rfl⟩ rfl rfl rfl rfl rfl named Try.func7 closed
    (of_decide_eq_true (by kernel_rfl)) (by unfold Func.isWrapper; first | (rw [if_pos (by decide +kernel)]; kernel_rfl) | (rw [if_neg (by decide +kernel)]; exact ⟨rfl, rfl⟩))
    (fun os started H enc _ => lifted os started H enc)
end Go.Proofs.Ytoeaockleddngaa.Law7
namespace Go.Proofs.Ytoeaockleddngaa
theorem law7_holds : Rows.FnLowerObjectRestInForLoopInitNoOpWhenFeatureSupportedSaid := Law7.over
#print axioms law7_holds
end Go.Proofs.Ytoeaockleddngaa
