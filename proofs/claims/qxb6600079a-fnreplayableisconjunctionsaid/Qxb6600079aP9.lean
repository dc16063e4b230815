/-
  THE STATEMENT 'Rows.FnReplayableIsConjunctionSaid': THE ROW's STEP, out of the walk.
-/
import Derived.Test.Qxb6600079aHead
import Derived.Test.Qxb6600079aOpen2
import Derived.Test.Qxb6600079aL9
namespace Go.Proofs.Qxb6600079a.P9
open Go.ChangeShapes Go.WideShapes Go.ChangeAt Go.RowKit

set_option linter.unusedVariables false
set_option maxRecDepth 100000 in
theorem lifted (os : Os) (started : os.Started) (H : Type) (enc : TypeId × Value → H) :
    ReturnsInHanded {} Try.checked os 9 .any (Rows.fnReplayableIsConjunctionSpec.pre6 enc Try.prog Try.f9 Rows.fnReplayableIsConjunctionRow.domain false) (Rows.fnReplayableIsConjunctionSpec.post enc Try.prog Try.f9 false true false false) := by
  refine returnsInHanded_of_change (C := Try.checked) Try.own started (by kernel_rfl) Try.func9
    (ChangeSpec.witness6 (enc := enc) (C := Try.checked) false ⟨#[], #[.slice none 0 0, .slice none 0 0, .slice none 0 0, .slice none 0 0], []⟩ 8 (by kernel_rfl) (by kernel_rfl) (by kernel_rfl) (by kernel_rfl)) ?_
  intro W base args ds gs before hval0 hW hcnd _
  have hval : ∀ (j : Nat) t v, Try.f9.params[j]? = some t → args[j]? = some v → Value.okWide Try.prog W .any base t v := hval0
  have hW' := hW
  obtain ⟨p, q, hA0, hV, rfl, hfz, hnd⟩ := hW
  have hA : DataW.TrodAll enc Try.prog W 0 (fun _ => true) true Try.f9.params.toList args.toList ds p := hA0
  rw [Try.params9] at hA hval
  obtain ⟨v0, vs0, d0, ds0, p0, q0, hargs, rfl, rfl, h0, r0⟩ := trodAll_cons hA
  obtain ⟨v1, vs1, d1, ds1, p1, q1, rfl, rfl, rfl, h1, r1⟩ := trodAll_cons r0
  obtain ⟨v2, vs2, d2, ds2, p2, q2, rfl, rfl, rfl, h2, r2⟩ := trodAll_cons r1
  obtain ⟨v3, vs3, d3, ds3, p3, q3, rfl, rfl, rfl, h3, r3⟩ := trodAll_cons r2
  obtain ⟨rfl, rfl, rfl⟩ := trodAll_nil r3
  obtain rfl : args = #[v0, v1, v2, v3] := by cases args; simp_all
  obtain ⟨rfl, rfl⟩ := trodVars_none hV
  have k0 := h0
  have lt0 : ∀ x ∈ p0, x.block < W.heap.size := by obtain ⟨m, hm⟩ := k0; exact DataW.trod_lt m _ _ _ hm
  obtain ⟨c0, l0, cap0, f0, rfl, ml0, nil0, is0, fit0⟩ := open_wordss (hval 0 36 v0 rfl rfl) h0
  have k1 := h1
  have lt1 : ∀ x ∈ p1, x.block < W.heap.size := by obtain ⟨m, hm⟩ := k1; exact DataW.trod_lt m _ _ _ hm
  obtain ⟨c1, l1, cap1, f1, rfl, ml1, nil1, is1⟩ := open_bools (hval 1 37 v1 rfl rfl) h1
  have k2 := h2
  have lt2 : ∀ x ∈ p2, x.block < W.heap.size := by obtain ⟨m, hm⟩ := k2; exact DataW.trod_lt m _ _ _ hm
  obtain ⟨c2, l2, cap2, f2, rfl, ml2, nil2, is2, fit2⟩ := open_wordss (hval 2 36 v2 rfl rfl) h2
  have k3 := h3
  have lt3 : ∀ x ∈ p3, x.block < W.heap.size := by obtain ⟨m, hm⟩ := k3; exact DataW.trod_lt m _ _ _ hm
  obtain ⟨c3, l3, cap3, f3, rfl, ml3, nil3, is3⟩ := open_bools (hval 3 37 v3 rfl rfl) h3
  clear hA0 hval0
  refine (law9 f0 f2 f1 f3 c0 c1 c2 c3 l0 l1 l2 l3 cap0 cap1 cap2 cap3 W ml0 ml1 ml2 ml3 nil0 nil1 nil2 nil3 ⟨is0, is1, is2, is3⟩ fit0 fit2).mono fun e W' ⟨he, bel⟩ => ?_
  subst he
  exact ⟨_, rfl, _, _, _, [], _, [], hW', trodAll_mk1 (shut_bool Try.underlying4 _), (trodAll_cons_mk (Below.trod Try.laidOut (by kernel_rfl) (of_decide_eq_true (by kernel_rfl)) k0 bel lt0) (trodAll_cons_mk (Below.trod Try.laidOut (by kernel_rfl) (of_decide_eq_true (by kernel_rfl)) k1 bel lt1) (trodAll_cons_mk (Below.trod Try.laidOut (by kernel_rfl) (of_decide_eq_true (by kernel_rfl)) k2 bel lt2) (trodAll_cons_mk (Below.trod Try.laidOut (by kernel_rfl) (of_decide_eq_true (by kernel_rfl)) k3 bel lt3) trodAll_mk0)))), rfl, bel.frame _, fun h => by cases h⟩

theorem closed : joinedFacts Try.prog 9 Try.f9 Rows.fnReplayableIsConjunctionSpec Rows.fnReplayableIsConjunctionRow = true := by
  unfold joinedFacts
  rw [Try.mayEnter, Try.liftsFinal, Try.make]
  kernel_rfl

theorem named : Try.prog.funcNamed Rows.fnReplayableIsConjunctionRow.func = some 9 := by kernel_rfl

theorem over : Rows.fnReplayableIsConjunctionRow.holds Try.pinned (OpenSpec.ofChange Rows.fnReplayableIsConjunctionSpec) :=
  OpenClaim.holds_of_wide 9 Try.f9 rfl rfl rfl rfl rfl rfl rfl ⟨rfl, rfl, rfl, rfl, rfl⟩ rfl rfl rfl rfl rfl named Try.func9 closed
    (of_decide_eq_true (by kernel_rfl)) (by unfold Func.isWrapper; first | (rw [if_pos (by decide +kernel)]; kernel_rfl) | (rw [if_neg (by decide +kernel)]; exact ⟨rfl, rfl⟩))
    (fun os started H enc _ => lifted os started H enc)

end Go.Proofs.Qxb6600079a.P9
namespace Go.Proofs.Qxb6600079a

/-- THE STATEMENT. -/
theorem replayable_is_conjunction : Rows.FnReplayableIsConjunctionSaid := P9.over

end Go.Proofs.Qxb6600079a
