import Derived.Test.Qxb6001659aCandR
namespace Go.Proofs.Qxb6001659a.Cand
open Go.ChangeShapes Go.WideShapes Go.ChangeAt Go.RowKit
set_option linter.unusedVariables false

set_option maxRecDepth 100000 in
theorem cmp_lifted (os : Os) (started : os.Started) (H : Type) (enc : TypeId × Value → H) :
    ReturnsInHanded {} Try.checked os 8 .any (Rows.fnCompareStrictOrderSpec.pre6 enc Try.prog Try.f8 Rows.fnCompareStrictOrderRow.domain false) (Rows.fnCompareStrictOrderSpec.post enc Try.prog Try.f8 false true false false) := by
  refine returnsInHanded_of_change (C := Try.checked) own started (by kernel_rfl) Try.func8
    (ChangeSpec.witness6 (enc := enc) (C := Try.checked) false ⟨#[], #[.agg #[.string ByteArray.empty, .int .i64 0, .int .i64 0, .bool false, .bool false, .bool false, .bool false], .agg #[.string ByteArray.empty, .int .i64 0, .int .i64 0, .bool false, .bool false, .bool false, .bool false], .agg #[.string ByteArray.empty, .int .i64 0, .int .i64 0, .bool false, .bool false, .bool false, .bool false]], []⟩ 8 (by kernel_rfl) (by kernel_rfl) (by kernel_rfl) (by kernel_rfl)) ?_
  intro W base args ds gs before hval0 hW hcnd _
  have hval : ∀ (j : Nat) t v, Try.f8.params[j]? = some t → args[j]? = some v → Value.okWide Try.prog W .any base t v := hval0
  have hW' := hW
  obtain ⟨p, q, hA0, hV, rfl, hfz, hnd⟩ := hW
  have hA : DataW.TrodAll enc Try.prog W 0 (fun _ => true) true Try.f8.params.toList args.toList ds p := hA0
  rw [Try.params8] at hA hval
  obtain ⟨v0, vs0, d0, ds0, p0, q0, hargs, rfl, rfl, h0, r0⟩ := trodAll_cons hA
  obtain ⟨v1, vs1, d1, ds1, p1, q1, rfl, rfl, rfl, h1, r1⟩ := trodAll_cons r0
  obtain ⟨v2, vs2, d2, ds2, p2, q2, rfl, rfl, rfl, h2, r2⟩ := trodAll_cons r1
  obtain ⟨rfl, rfl, rfl⟩ := trodAll_nil r2
  obtain rfl : args = #[v0, v1, v2] := by cases args; simp_all
  obtain ⟨rfl, rfl⟩ := trodVars_none hV
  have lt0 : ∀ x ∈ p0, x.block < W.heap.size := by obtain ⟨m, hm⟩ := h0; exact DataW.trod_lt m _ _ _ hm
  have lt1 : ∀ x ∈ p1, x.block < W.heap.size := by obtain ⟨m, hm⟩ := h1; exact DataW.trod_lt m _ _ _ hm
  have lt2 : ∀ x ∈ p2, x.block < W.heap.size := by obtain ⟨m, hm⟩ := h2; exact DataW.trod_lt m _ _ _ hm
  obtain ⟨a, rfl⟩ := cand_arg (hval 0 50 v0 rfl rfl) h0
  obtain ⟨b, rfl⟩ := cand_arg (hval 1 50 v1 rfl rfl) h1
  obtain ⟨c, rfl⟩ := cand_arg (hval 2 50 v2 rfl rfl) h2
  clear hA0 hval0
  refine (cmp_law a b c W).mono fun e W' ⟨he, bel⟩ => ?_
  subst he
  exact ⟨_, rfl, _, _, _, [], _, [], hW', trodAll_mk1 (shut_bool Try.underlying4 _), (trodAll_cons_mk (Below.trod laidOut (by kernel_rfl) (of_decide_eq_true (by kernel_rfl)) h0 bel lt0) (trodAll_cons_mk (Below.trod laidOut (by kernel_rfl) (of_decide_eq_true (by kernel_rfl)) h1 bel lt1) (trodAll_cons_mk (Below.trod laidOut (by kernel_rfl) (of_decide_eq_true (by kernel_rfl)) h2 bel lt2) trodAll_mk0))), rfl, bel.frame _, fun h => by cases h⟩

theorem cmp_closed : joinedFacts Try.prog 8 Try.f8 Rows.fnCompareStrictOrderSpec Rows.fnCompareStrictOrderRow = true := by
  unfold joinedFacts
  rw [Head.enter, Head.lifts, Head.made]
  kernel_rfl

theorem cmp_over : Rows.fnCompareStrictOrderRow.holds Try.pinned (OpenSpec.ofChange Rows.fnCompareStrictOrderSpec) :=
  OpenClaim.holds_of_wide 8 Try.f8 rfl rfl rfl rfl rfl rfl rfl ⟨rfl, rfl, rfl, rfl, rfl⟩ rfl rfl rfl rfl rfl (by kernel_rfl) Try.func8 cmp_closed
    (of_decide_eq_true (by kernel_rfl)) (by unfold Func.isWrapper; first | (rw [if_pos (by decide +kernel)]; kernel_rfl) | (rw [if_neg (by decide +kernel)]; exact ⟨rfl, rfl⟩))
    (fun os started H enc _ => cmp_lifted os started H enc)
end Go.Proofs.Qxb6001659a.Cand
namespace Go.Proofs.Qxb6001659a
/-- THE STATEMENT -/
theorem compare_proved : Rows.FnCompareStrictOrderSaid := Cand.cmp_over
end Go.Proofs.Qxb6001659a
