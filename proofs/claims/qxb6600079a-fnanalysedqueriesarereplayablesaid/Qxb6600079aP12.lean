/-
  THE STATEMENT 'Rows.FnAnalysedQueriesAreReplayableSaid': THE ROW's STEP, out of the walk.
-/
import Derived.Test.Qxb6600079aHead
import Derived.Test.Qxb6600079aL12
namespace Go.Proofs.Qxb6600079a.P12
open Go.ChangeShapes Go.WideShapes Go.ChangeAt Go.RowKit

set_option linter.unusedVariables false
set_option maxRecDepth 100000 in
theorem lifted (os : Os) (started : os.Started) (H : Type) (enc : TypeId × Value → H) :
    ReturnsInHanded {} Try.checked os 12 .any (Rows.fnAnalysedQueriesAreReplayableSpec.pre6 enc Try.prog Try.f12 Rows.fnAnalysedQueriesAreReplayableRow.domain false) (Rows.fnAnalysedQueriesAreReplayableSpec.post enc Try.prog Try.f12 false true false false) := by
  refine returnsInHanded_of_change (C := Try.checked) Try.own started (by kernel_rfl) Try.func12
    (ChangeSpec.witness6 (enc := enc) (C := Try.checked) false ⟨#[], #[.agg #[.string ⟨#[]⟩, .string ⟨#[]⟩, .string ⟨#[]⟩, .string ⟨#[]⟩, .string ⟨#[]⟩], .bool false], []⟩ 8 (by kernel_rfl) (by kernel_rfl) (by kernel_rfl) (by kernel_rfl)) ?_
  intro W base args ds gs before hval0 hW hcnd _
  have hval : ∀ (j : Nat) t v, Try.f12.params[j]? = some t → args[j]? = some v → Value.okWide Try.prog W .any base t v := hval0
  have hW' := hW
  obtain ⟨p, q, hA0, hV, rfl, hfz, hnd⟩ := hW
  have hA : DataW.TrodAll enc Try.prog W 0 (fun _ => true) true Try.f12.params.toList args.toList ds p := hA0
  rw [Try.params12] at hA hval
  obtain ⟨v0, vs0, d0, ds0, p0, q0, hargs, rfl, rfl, h0, r0⟩ := trodAll_cons hA
  obtain ⟨v1, vs1, d1, ds1, p1, q1, rfl, rfl, rfl, h1, r1⟩ := trodAll_cons r0
  obtain ⟨rfl, rfl, rfl⟩ := trodAll_nil r1
  obtain rfl : args = #[v0, v1] := by cases args; simp_all
  obtain ⟨rfl, rfl⟩ := trodVars_none hV
  have k0 := h0
  have lt0 : ∀ x ∈ p0, x.block < W.heap.size := by obtain ⟨m, hm⟩ := k0; exact DataW.trod_lt m _ _ _ hm
  obtain ⟨s00, s01, s02, s03, s04, rfl, fit0⟩ := open_words (hval 0 22 v0 rfl rfl) h0
  obtain ⟨a1, rfl, rfl, rfl⟩ := open_bool Try.underlying4 (hval 1 4 v1 rfl rfl) h1
  clear hA0 hval0
  refine (law12 s00 s01 s02 s03 s04 a1 W fit0).mono fun e W' ⟨he, bel⟩ => ?_
  subst he
  exact ⟨_, rfl, _, _, _, [], _, [], hW', trodAll_mk1 (shut_bool Try.underlying4 _), (trodAll_cons_mk (Below.trod Try.laidOut (by kernel_rfl) (of_decide_eq_true (by kernel_rfl)) k0 bel lt0) (trodAll_cons_mk (shut_bool Try.underlying4 a1) trodAll_mk0)), rfl, bel.frame _, fun h => by cases h⟩

theorem closed : joinedFacts Try.prog 12 Try.f12 Rows.fnAnalysedQueriesAreReplayableSpec Rows.fnAnalysedQueriesAreReplayableRow = true := by
  unfold joinedFacts
  rw [Try.mayEnter, Try.liftsFinal, Try.make]
  kernel_rfl

theorem named : Try.prog.funcNamed Rows.fnAnalysedQueriesAreReplayableRow.func = some 12 := by kernel_rfl

theorem over : Rows.fnAnalysedQueriesAreReplayableRow.holds Try.pinned (OpenSpec.ofChange Rows.fnAnalysedQueriesAreReplayableSpec) :=
  OpenClaim.holds_of_wide 12 Try.f12 rfl rfl rfl rfl rfl rfl rfl ⟨rfl, rfl, rfl, rfl, rfl⟩ rfl rfl rfl rfl rfl named Try.func12 closed
    (of_decide_eq_true (by kernel_rfl)) (by unfold Func.isWrapper; first | (rw [if_pos (by decide +kernel)]; kernel_rfl) | (rw [if_neg (by decide +kernel)]; exact ⟨rfl, rfl⟩))
    (fun os started H enc _ => lifted os started H enc)

end Go.Proofs.Qxb6600079a.P12
namespace Go.Proofs.Qxb6600079a

/-- THE STATEMENT. -/
theorem analysed_queries_are_replayable : Rows.FnAnalysedQueriesAreReplayableSaid := P12.over

end Go.Proofs.Qxb6600079a
