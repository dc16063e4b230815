/-
  No cell of these rows narrows 'for every input' (looked for: loops, veiled, ifaces, maps, wideKeys, modest, calm, conditions, laid).
  DERIVED. THE GIVEN ROWS OF THIS SEAT. 10 by the template 'for every input the law returns true; each argument reads behind the call as it read before'; 0 by the template 'total and deterministic' (their statements: Qxb6600079aTotals.lean).
  GIVEN WITH THE SEED: the statements are not yours to turn. If you find one false, say at which input.
  Laid BY PROGRAM, IN A SANDBOX (cutbox-rows.mjs): the forced cells as the released guide's own fill.sh prints them over the translation 112a83c1116fb42e… (all of the seat's roots in one cut). By AI agents, Wed Nov 11 2026. No macro, syntax, notation, axiom, sorry.
-/
import Derived.Test.Qxb6600079aChecked
import GoSem.Claim
import GoSem.ClaimJoined
import GoSem.ClaimMapViews
import Derived.JoinedTies
import Derived.KernelRfl
namespace Go.Proofs.Qxb6600079a
/- THE CELL 'sum', in the pinned program and in every row, IS THE sha256 OF THE DUMP (.gsa) THAT Qxb6600079aProg.lean LOADS. Nothing in Lean hashes anything: it is a label: what it is worth is what the hold of that sum in a sandbox is worth. -/
noncomputable def Try.pinned : Pinned := { name := "qxb6600079a", sum := "112a83c1116fb42e54981592df7c5497ad2739473cb753c38e4704da1855424a", checked := Try.checked }
namespace Rows
def none {H : Type} : Left H := { results := [], args := [] }

/-- 'zzlaws_internal_proxy_b1.FnEndingAcceptsEveryEndingSentence': WHATEVER THE INPUT: true; the input reads as it did. -/
def fnEndingAcceptsEveryEndingSentenceSpec : ChangeSpec := { name := "fnEndingAcceptsEveryEndingSentence", fn := fun _ => fun
  | [d1, d2, d3, d4] => { results := [.lit (.bool true)], args := [d1, d2, d3, d4] }
  | _ => none }
def fnEndingAcceptsEveryEndingSentenceRow : OpenClaim := { program := "qxb6600079a", sum := "112a83c1116fb42e54981592df7c5497ad2739473cb753c38e4704da1855424a", func := "example.com/isoband/isoband/zzlaws_internal_proxy_b1.FnEndingAcceptsEveryEndingSentence", spec := "fnEndingAcceptsEveryEndingSentence", apart := false }
def FnEndingAcceptsEveryEndingSentenceSaid : Prop := fnEndingAcceptsEveryEndingSentenceRow.holds Try.pinned (OpenSpec.ofChange fnEndingAcceptsEveryEndingSentenceSpec)

/-- ITS FALSE NEIGHBOUR: 'it returns false'. Refute it at one input. -/
def fnEndingAcceptsEveryEndingSentenceWrong : ChangeSpec := { name := "fnEndingAcceptsEveryEndingSentence", fn := fun _ => fun
  | [d1, d2, d3, d4] => { results := [.lit (.bool false)], args := [d1, d2, d3, d4] }
  | _ => none }
def FnEndingAcceptsEveryEndingSentenceWrongFalsely : Prop := fnEndingAcceptsEveryEndingSentenceRow.holds Try.pinned (OpenSpec.ofChange fnEndingAcceptsEveryEndingSentenceWrong)

/-- 'zzlaws_internal_proxy_b1.FnEndingAcceptsOnlyEndingSentences': WHATEVER THE INPUT: true; the input reads as it did. -/
def fnEndingAcceptsOnlyEndingSentencesSpec : ChangeSpec := { name := "fnEndingAcceptsOnlyEndingSentences", fn := fun _ => fun
  | [d1, d2] => { results := [.lit (.bool true)], args := [d1, d2] }
  | _ => none }
def fnEndingAcceptsOnlyEndingSentencesRow : OpenClaim := { program := "qxb6600079a", sum := "112a83c1116fb42e54981592df7c5497ad2739473cb753c38e4704da1855424a", func := "example.com/isoband/isoband/zzlaws_internal_proxy_b1.FnEndingAcceptsOnlyEndingSentences", spec := "fnEndingAcceptsOnlyEndingSentences", apart := false }
def FnEndingAcceptsOnlyEndingSentencesSaid : Prop := fnEndingAcceptsOnlyEndingSentencesRow.holds Try.pinned (OpenSpec.ofChange fnEndingAcceptsOnlyEndingSentencesSpec)

/-- ITS FALSE NEIGHBOUR: 'it returns false'. Refute it at one input. -/
def fnEndingAcceptsOnlyEndingSentencesWrong : ChangeSpec := { name := "fnEndingAcceptsOnlyEndingSentences", fn := fun _ => fun
  | [d1, d2] => { results := [.lit (.bool false)], args := [d1, d2] }
  | _ => none }
def FnEndingAcceptsOnlyEndingSentencesWrongFalsely : Prop := fnEndingAcceptsOnlyEndingSentencesRow.holds Try.pinned (OpenSpec.ofChange fnEndingAcceptsOnlyEndingSentencesWrong)

/-- 'zzlaws_internal_proxy_b1.FnEndingReadsOnlyItsTokens': WHATEVER THE INPUT: true; the input reads as it did. -/
def fnEndingReadsOnlyItsTokensSpec : ChangeSpec := { name := "fnEndingReadsOnlyItsTokens", fn := fun _ => fun
  | [d1, d2, d3] => { results := [.lit (.bool true)], args := [d1, d2, d3] }
  | _ => none }
def fnEndingReadsOnlyItsTokensRow : OpenClaim := { program := "qxb6600079a", sum := "112a83c1116fb42e54981592df7c5497ad2739473cb753c38e4704da1855424a", func := "example.com/isoband/isoband/zzlaws_internal_proxy_b1.FnEndingReadsOnlyItsTokens", spec := "fnEndingReadsOnlyItsTokens", apart := false }
def FnEndingReadsOnlyItsTokensSaid : Prop := fnEndingReadsOnlyItsTokensRow.holds Try.pinned (OpenSpec.ofChange fnEndingReadsOnlyItsTokensSpec)

/-- ITS FALSE NEIGHBOUR: 'it returns false'. Refute it at one input. -/
def fnEndingReadsOnlyItsTokensWrong : ChangeSpec := { name := "fnEndingReadsOnlyItsTokens", fn := fun _ => fun
  | [d1, d2, d3] => { results := [.lit (.bool false)], args := [d1, d2, d3] }
  | _ => none }
def FnEndingReadsOnlyItsTokensWrongFalsely : Prop := fnEndingReadsOnlyItsTokensRow.holds Try.pinned (OpenSpec.ofChange fnEndingReadsOnlyItsTokensWrong)

/-- 'zzlaws_internal_proxy_b1.FnAnalysedOutsideCreateHangsOnFirstWord': WHATEVER THE INPUT: true; the input reads as it did. -/
def fnAnalysedOutsideCreateHangsOnFirstWordSpec : ChangeSpec := { name := "fnAnalysedOutsideCreateHangsOnFirstWord", fn := fun _ => fun
  | [d1, d2, d3, d4] => { results := [.lit (.bool true)], args := [d1, d2, d3, d4] }
  | _ => none }
def fnAnalysedOutsideCreateHangsOnFirstWordRow : OpenClaim := { program := "qxb6600079a", sum := "112a83c1116fb42e54981592df7c5497ad2739473cb753c38e4704da1855424a", func := "example.com/isoband/isoband/zzlaws_internal_proxy_b1.FnAnalysedOutsideCreateHangsOnFirstWord", spec := "fnAnalysedOutsideCreateHangsOnFirstWord", apart := false }
def FnAnalysedOutsideCreateHangsOnFirstWordSaid : Prop := fnAnalysedOutsideCreateHangsOnFirstWordRow.holds Try.pinned (OpenSpec.ofChange fnAnalysedOutsideCreateHangsOnFirstWordSpec)

/-- ITS FALSE NEIGHBOUR: 'it returns false'. Refute it at one input. -/
def fnAnalysedOutsideCreateHangsOnFirstWordWrong : ChangeSpec := { name := "fnAnalysedOutsideCreateHangsOnFirstWord", fn := fun _ => fun
  | [d1, d2, d3, d4] => { results := [.lit (.bool false)], args := [d1, d2, d3, d4] }
  | _ => none }
def FnAnalysedOutsideCreateHangsOnFirstWordWrongFalsely : Prop := fnAnalysedOutsideCreateHangsOnFirstWordRow.holds Try.pinned (OpenSpec.ofChange fnAnalysedOutsideCreateHangsOnFirstWordWrong)

/-- 'zzlaws_internal_proxy_b1.FnAnalysedCreateNeedsAsAndTable': WHATEVER THE INPUT: true; the input reads as it did. -/
def fnAnalysedCreateNeedsAsAndTableSpec : ChangeSpec := { name := "fnAnalysedCreateNeedsAsAndTable", fn := fun _ => fun
  | [d1, d2] => { results := [.lit (.bool true)], args := [d1, d2] }
  | _ => none }
def fnAnalysedCreateNeedsAsAndTableRow : OpenClaim := { program := "qxb6600079a", sum := "112a83c1116fb42e54981592df7c5497ad2739473cb753c38e4704da1855424a", func := "example.com/isoband/isoband/zzlaws_internal_proxy_b1.FnAnalysedCreateNeedsAsAndTable", spec := "fnAnalysedCreateNeedsAsAndTable", apart := false }
def FnAnalysedCreateNeedsAsAndTableSaid : Prop := fnAnalysedCreateNeedsAsAndTableRow.holds Try.pinned (OpenSpec.ofChange fnAnalysedCreateNeedsAsAndTableSpec)

/-- ITS FALSE NEIGHBOUR: 'it returns false'. Refute it at one input. -/
def fnAnalysedCreateNeedsAsAndTableWrong : ChangeSpec := { name := "fnAnalysedCreateNeedsAsAndTable", fn := fun _ => fun
  | [d1, d2] => { results := [.lit (.bool false)], args := [d1, d2] }
  | _ => none }
def FnAnalysedCreateNeedsAsAndTableWrongFalsely : Prop := fnAnalysedCreateNeedsAsAndTableRow.holds Try.pinned (OpenSpec.ofChange fnAnalysedCreateNeedsAsAndTableWrong)

/-- 'zzlaws_internal_proxy_b1.FnAnalysedAcceptsCreateTableAs': WHATEVER THE INPUT: true; the input reads as it did. -/
def fnAnalysedAcceptsCreateTableAsSpec : ChangeSpec := { name := "fnAnalysedAcceptsCreateTableAs", fn := fun _ => fun
  | [d1, d2, d3, d4, d5] => { results := [.lit (.bool true)], args := [d1, d2, d3, d4, d5] }
  | _ => none }
def fnAnalysedAcceptsCreateTableAsRow : OpenClaim := { program := "qxb6600079a", sum := "112a83c1116fb42e54981592df7c5497ad2739473cb753c38e4704da1855424a", func := "example.com/isoband/isoband/zzlaws_internal_proxy_b1.FnAnalysedAcceptsCreateTableAs", spec := "fnAnalysedAcceptsCreateTableAs", apart := false }
def FnAnalysedAcceptsCreateTableAsSaid : Prop := fnAnalysedAcceptsCreateTableAsRow.holds Try.pinned (OpenSpec.ofChange fnAnalysedAcceptsCreateTableAsSpec)

/-- ITS FALSE NEIGHBOUR: 'it returns false'. Refute it at one input. -/
def fnAnalysedAcceptsCreateTableAsWrong : ChangeSpec := { name := "fnAnalysedAcceptsCreateTableAs", fn := fun _ => fun
  | [d1, d2, d3, d4, d5] => { results := [.lit (.bool false)], args := [d1, d2, d3, d4, d5] }
  | _ => none }
def FnAnalysedAcceptsCreateTableAsWrongFalsely : Prop := fnAnalysedAcceptsCreateTableAsRow.holds Try.pinned (OpenSpec.ofChange fnAnalysedAcceptsCreateTableAsWrong)

/-- 'zzlaws_internal_proxy_b1.FnReplayableIsConjunction': WHATEVER THE INPUT: true; the input reads as it did. -/
def fnReplayableIsConjunctionSpec : ChangeSpec := { name := "fnReplayableIsConjunction", fn := fun _ => fun
  | [d1, d2, d3, d4] => { results := [.lit (.bool true)], args := [d1, d2, d3, d4] }
  | _ => none }
def fnReplayableIsConjunctionRow : OpenClaim := { program := "qxb6600079a", sum := "112a83c1116fb42e54981592df7c5497ad2739473cb753c38e4704da1855424a", func := "example.com/isoband/isoband/zzlaws_internal_proxy_b1.FnReplayableIsConjunction", spec := "fnReplayableIsConjunction", apart := false }
def FnReplayableIsConjunctionSaid : Prop := fnReplayableIsConjunctionRow.holds Try.pinned (OpenSpec.ofChange fnReplayableIsConjunctionSpec)

/-- ITS FALSE NEIGHBOUR: 'it returns false'. Refute it at one input. -/
def fnReplayableIsConjunctionWrong : ChangeSpec := { name := "fnReplayableIsConjunction", fn := fun _ => fun
  | [d1, d2, d3, d4] => { results := [.lit (.bool false)], args := [d1, d2, d3, d4] }
  | _ => none }
def FnReplayableIsConjunctionWrongFalsely : Prop := fnReplayableIsConjunctionRow.holds Try.pinned (OpenSpec.ofChange fnReplayableIsConjunctionWrong)

/-- 'zzlaws_internal_proxy_b1.FnReplayableRefusesUnspelledAndOutlivingKinds': WHATEVER THE INPUT: true; the input reads as it did. -/
def fnReplayableRefusesUnspelledAndOutlivingKindsSpec : ChangeSpec := { name := "fnReplayableRefusesUnspelledAndOutlivingKinds", fn := fun _ => fun
  | [d1, d2, d3] => { results := [.lit (.bool true)], args := [d1, d2, d3] }
  | _ => none }
def fnReplayableRefusesUnspelledAndOutlivingKindsRow : OpenClaim := { program := "qxb6600079a", sum := "112a83c1116fb42e54981592df7c5497ad2739473cb753c38e4704da1855424a", func := "example.com/isoband/isoband/zzlaws_internal_proxy_b1.FnReplayableRefusesUnspelledAndOutlivingKinds", spec := "fnReplayableRefusesUnspelledAndOutlivingKinds", apart := false }
def FnReplayableRefusesUnspelledAndOutlivingKindsSaid : Prop := fnReplayableRefusesUnspelledAndOutlivingKindsRow.holds Try.pinned (OpenSpec.ofChange fnReplayableRefusesUnspelledAndOutlivingKindsSpec)

/-- ITS FALSE NEIGHBOUR: 'it returns false'. Refute it at one input. -/
def fnReplayableRefusesUnspelledAndOutlivingKindsWrong : ChangeSpec := { name := "fnReplayableRefusesUnspelledAndOutlivingKinds", fn := fun _ => fun
  | [d1, d2, d3] => { results := [.lit (.bool false)], args := [d1, d2, d3] }
  | _ => none }
def FnReplayableRefusesUnspelledAndOutlivingKindsWrongFalsely : Prop := fnReplayableRefusesUnspelledAndOutlivingKindsRow.holds Try.pinned (OpenSpec.ofChange fnReplayableRefusesUnspelledAndOutlivingKindsWrong)

/-- 'zzlaws_internal_proxy_b1.FnEndingStatementsAreReplayable': WHATEVER THE INPUT: true; the input reads as it did. -/
def fnEndingStatementsAreReplayableSpec : ChangeSpec := { name := "fnEndingStatementsAreReplayable", fn := fun _ => fun
  | [d1, d2] => { results := [.lit (.bool true)], args := [d1, d2] }
  | _ => none }
def fnEndingStatementsAreReplayableRow : OpenClaim := { program := "qxb6600079a", sum := "112a83c1116fb42e54981592df7c5497ad2739473cb753c38e4704da1855424a", func := "example.com/isoband/isoband/zzlaws_internal_proxy_b1.FnEndingStatementsAreReplayable", spec := "fnEndingStatementsAreReplayable", apart := false }
def FnEndingStatementsAreReplayableSaid : Prop := fnEndingStatementsAreReplayableRow.holds Try.pinned (OpenSpec.ofChange fnEndingStatementsAreReplayableSpec)

/-- ITS FALSE NEIGHBOUR: 'it returns false'. Refute it at one input. -/
def fnEndingStatementsAreReplayableWrong : ChangeSpec := { name := "fnEndingStatementsAreReplayable", fn := fun _ => fun
  | [d1, d2] => { results := [.lit (.bool false)], args := [d1, d2] }
  | _ => none }
def FnEndingStatementsAreReplayableWrongFalsely : Prop := fnEndingStatementsAreReplayableRow.holds Try.pinned (OpenSpec.ofChange fnEndingStatementsAreReplayableWrong)

/-- 'zzlaws_internal_proxy_b1.FnAnalysedQueriesAreReplayable': WHATEVER THE INPUT: true; the input reads as it did. -/
def fnAnalysedQueriesAreReplayableSpec : ChangeSpec := { name := "fnAnalysedQueriesAreReplayable", fn := fun _ => fun
  | [d1, d2] => { results := [.lit (.bool true)], args := [d1, d2] }
  | _ => none }
def fnAnalysedQueriesAreReplayableRow : OpenClaim := { program := "qxb6600079a", sum := "112a83c1116fb42e54981592df7c5497ad2739473cb753c38e4704da1855424a", func := "example.com/isoband/isoband/zzlaws_internal_proxy_b1.FnAnalysedQueriesAreReplayable", spec := "fnAnalysedQueriesAreReplayable", apart := false }
def FnAnalysedQueriesAreReplayableSaid : Prop := fnAnalysedQueriesAreReplayableRow.holds Try.pinned (OpenSpec.ofChange fnAnalysedQueriesAreReplayableSpec)

/-- ITS FALSE NEIGHBOUR: 'it returns false'. Refute it at one input. -/
def fnAnalysedQueriesAreReplayableWrong : ChangeSpec := { name := "fnAnalysedQueriesAreReplayable", fn := fun _ => fun
  | [d1, d2] => { results := [.lit (.bool false)], args := [d1, d2] }
  | _ => none }
def FnAnalysedQueriesAreReplayableWrongFalsely : Prop := fnAnalysedQueriesAreReplayableRow.holds Try.pinned (OpenSpec.ofChange fnAnalysedQueriesAreReplayableWrong)

end Rows
end Go.Proofs.Qxb6600079a
