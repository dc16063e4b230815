/-
  THE STATEMENT 'Rows.FnEndingAcceptsEveryEndingSentenceSaid': THE ROW's STEP, out of the walk.
-/
import Derived.Test.Qxb6600079aHead
import Derived.Test.Qxb6600079aL3
namespace Go.Proofs.Qxb6600079a.P3
open Go.ChangeShapes Go.WideShapes Go.ChangeAt Go.RowKit

set_option linter.unusedVariables false
set_option maxRecDepth 100000 in
theorem lifted (os : Os) (started : os.Started) (H : Type) (enc : TypeId × Value → H) :
    ReturnsInHanded {} Try.checked os 3 .any (Rows.fnEndingAcceptsEveryEndingSentenceSpec.pre6 enc Try.prog Try.f3 Rows.fnEndingAcceptsEveryEndingSentenceRow.domain false) (Rows.fnEndingAcceptsEveryEndingSentenceSpec.post enc Try.prog Try.f3 false true false false) := by
  refine returnsInHanded_of_change (C := Try.checked) Try.own started (by kernel_rfl) Try.func3
    (ChangeSpec.witness6 (enc := enc) (C := Try.checked) false ⟨#[], #[.int .u8 0, .int .u8 0, .int .u8 0, .agg #[.string ⟨#[]⟩, .string ⟨#[]⟩, .string ⟨#[]⟩, .string ⟨#[]⟩, .string ⟨#[]⟩]], []⟩ 8 (by kernel_rfl) (by kernel_rfl) (by kernel_rfl) (by kernel_rfl)) ?_
  intro W base args ds gs before hval0 hW hcnd _
  have hval : ∀ (j : Nat) t v, Try.f3.params[j]? = some t → args[j]? = some v → Value.okWide Try.prog W .any base t v := hval0
  have hW' := hW
  obtain ⟨p, q, hA0, hV, rfl, hfz, hnd⟩ := hW
  have hA : DataW.TrodAll enc Try.prog W 0 (fun _ => true) true Try.f3.params.toList args.toList ds p := hA0
  rw [Try.params3] at hA hval
  obtain ⟨v0, vs0, d0, ds0, p0, q0, hargs, rfl, rfl, h0, r0⟩ := trodAll_cons hA
  obtain ⟨v1, vs1, d1, ds1, p1, q1, rfl, rfl, rfl, h1, r1⟩ := trodAll_cons r0
  obtain ⟨v2, vs2, d2, ds2, p2, q2, rfl, rfl, rfl, h2, r2⟩ := trodAll_cons r1
  obtain ⟨v3, vs3, d3, ds3, p3, q3, rfl, rfl, rfl, h3, r3⟩ := trodAll_cons r2
  obtain ⟨rfl, rfl, rfl⟩ := trodAll_nil r3
  obtain rfl : args = #[v0, v1, v2, v3] := by cases args; simp_all
  obtain ⟨rfl, rfl⟩ := trodVars_none hV
  obtain ⟨a0, rfl, rfl, rfl, w0⟩ := open_int Try.underlying5 (hval 0 5 v0 rfl rfl) h0
  obtain ⟨a1, rfl, rfl, rfl, w1⟩ := open_int Try.underlying5 (hval 1 5 v1 rfl rfl) h1
  obtain ⟨a2, rfl, rfl, rfl, w2⟩ := open_int Try.underlying5 (hval 2 5 v2 rfl rfl) h2
  have k3 := h3
  have lt3 : ∀ x ∈ p3, x.block < W.heap.size := by obtain ⟨m, hm⟩ := k3; exact DataW.trod_lt m _ _ _ hm
  obtain ⟨s30, s31, s32, s33, s34, rfl, fit3⟩ := open_words (hval 3 22 v3 rfl rfl) h3
  clear hA0 hval0
  refine (law3 a0 a1 a2 s30 s31 s32 s33 s34 W fit3 (bounds_u8 w0).1 (bounds_u8 w0).2 (bounds_u8 w1).1 (bounds_u8 w1).2 (bounds_u8 w2).1 (bounds_u8 w2).2).mono fun e W' ⟨he, bel⟩ => ?_
  subst he
  exact ⟨_, rfl, _, _, _, [], _, [], hW', trodAll_mk1 (shut_bool Try.underlying4 _), (trodAll_cons_mk (shut_int Try.underlying5 w0) (trodAll_cons_mk (shut_int Try.underlying5 w1) (trodAll_cons_mk (shut_int Try.underlying5 w2) (trodAll_cons_mk (Below.trod Try.laidOut (by kernel_rfl) (of_decide_eq_true (by kernel_rfl)) k3 bel lt3) trodAll_mk0)))), rfl, bel.frame _, fun h => by cases h⟩

theorem closed : joinedFacts Try.prog 3 Try.f3 Rows.fnEndingAcceptsEveryEndingSentenceSpec Rows.fnEndingAcceptsEveryEndingSentenceRow = true := by
  unfold joinedFacts
  rw [Try.mayEnter, Try.liftsFinal, Try.make]
  kernel_rfl

theorem named : Try.prog.funcNamed Rows.fnEndingAcceptsEveryEndingSentenceRow.func = some 3 := by kernel_rfl

theorem over : Rows.fnEndingAcceptsEveryEndingSentenceRow.holds Try.pinned (OpenSpec.ofChange Rows.fnEndingAcceptsEveryEndingSentenceSpec) :=
  OpenClaim.holds_of_wide 3 Try.f3 rfl rfl rfl rfl rfl rfl rfl ⟨rfl, rfl, rfl, rfl, rfl⟩ rfl rfl rfl rfl rfl named Try.func3 closed
    (of_decide_eq_true (by kernel_rfl)) (by unfold Func.isWrapper; first | (rw [if_pos (by decide +kernel)]; kernel_rfl) | (rw [if_neg (by decide +kernel)]; exact ⟨rfl, rfl⟩))
    (fun os started H enc _ => lifted os started H enc)

end Go.Proofs.Qxb6600079a.P3
namespace Go.Proofs.Qxb6600079a

/-- THE STATEMENT. -/
theorem ending_accepts_every_ending_sentence : Rows.FnEndingAcceptsEveryEndingSentenceSaid := P3.over

end Go.Proofs.Qxb6600079a
