/-
  ARGUMENTS OPENED: an array of five strings, an array of three bytes, by value.
-/
import Derived.Test.Qxb6600079aBase
import Derived.ProofKit
import Derived.OpenShut
import Derived.ShutString
import Derived.ChangeOld
namespace Go.Proofs.Qxb6600079a
open Go.ChangeShapes Go.WideShapes Go.ChangeAt Go.RowKit

theorem Try.own : ownKnob Try.prog.godebug = none := by kernel_rfl
theorem Try.laidOut : laidOutB Try.prog = true := by kernel_rfl
theorem Try.cells22 : Try.prog.cellsOf 22 = 5 := by kernel_rfl
theorem Try.cells34 : Try.prog.cellsOf 34 = 3 := by kernel_rfl
theorem Try.cells9 : Try.prog.cellsOf 9 = 1 := by kernel_rfl
theorem Try.cells5 : Try.prog.cellsOf 5 = 1 := by kernel_rfl

section
variable {H : Type} {enc : TypeId × Value → H} {W : World} {b : Nat} {sp : Nat → Bool} {held : Bool}

/-- The five cells of an array of strings that can be read are strings, each of a length that Go allows. -/
theorem words_of_cells {fuel : Nat} {cs : List Value} {x : DataW H × List MemPlace} (h : DataW.trod enc Try.prog W b sp held fuel 22 cs = some x) :
    ∃ a0 a1 a2 a3 a4 : ByteArray, cs = [.string a0, .string a1, .string a2, .string a3, .string a4] ∧ Fit5 a0 a1 a2 a3 a4 := by
  obtain ⟨xs, m, _, _, hl, hn, hel⟩ := DataW.trod_array Try.underlying22 h
  rw [Try.cells22] at hl
  rw [Try.cells9] at hel
  match xs, hn with
  | [x0, x1, x2, x3, x4], _ =>
    match cs, hl with
    | [c0, c1, c2, c3, c4], _ =>
      obtain ⟨a0, e0, _, w0⟩ := DataW.trod_string Try.underlying9 (show DataW.trod enc Try.prog W b sp held m 9 [c0] = some x0 from hel 0 (by decide))
      obtain ⟨a1, e1, _, w1⟩ := DataW.trod_string Try.underlying9 (show DataW.trod enc Try.prog W b sp held m 9 [c1] = some x1 from hel 1 (by decide))
      obtain ⟨a2, e2, _, w2⟩ := DataW.trod_string Try.underlying9 (show DataW.trod enc Try.prog W b sp held m 9 [c2] = some x2 from hel 2 (by decide))
      obtain ⟨a3, e3, _, w3⟩ := DataW.trod_string Try.underlying9 (show DataW.trod enc Try.prog W b sp held m 9 [c3] = some x3 from hel 3 (by decide))
      obtain ⟨a4, e4, _, w4⟩ := DataW.trod_string Try.underlying9 (show DataW.trod enc Try.prog W b sp held m 9 [c4] = some x4 from hel 4 (by decide))
      simp only [List.cons.injEq, and_true] at e0 e1 e2 e3 e4
      subst e0 e1 e2 e3 e4
      exact ⟨a0, a1, a2, a3, a4, rfl, w0, w1, w2, w3, w4⟩

theorem open_words {r : Reach} {b0 : Nat} {v : Value} {d : DataW H} {p : List MemPlace} (hv : Value.okWide Try.prog W r b0 22 v) (h : DataW.Trod enc Try.prog W b sp held 22 v d p) :
    ∃ a0 a1 a2 a3 a4 : ByteArray, v = .agg #[.string a0, .string a1, .string a2, .string a3, .string a4] ∧ Fit5 a0 a1 a2 a3 a4 := by
  obtain ⟨cs, rfl, _, _⟩ : ∃ cs, v = .agg cs ∧ cs.size = Try.prog.cellsOf 22 ∧ Row.okWide Try.prog W r b0 22 cs := by
    simpa [Value.okWide, Try.underlying22] using hv
  obtain ⟨fuel, hf⟩ := h
  obtain ⟨a0, a1, a2, a3, a4, e, hfit⟩ := words_of_cells hf
  obtain ⟨l⟩ := cs
  simp only [Value.cells] at e
  subst e
  exact ⟨a0, a1, a2, a3, a4, rfl, hfit⟩

theorem open_three {r : Reach} {b0 : Nat} {v : Value} {d : DataW H} {p : List MemPlace} (hv : Value.okWide Try.prog W r b0 34 v) (h : DataW.Trod enc Try.prog W b sp held 34 v d p) :
    ∃ n0 n1 n2 : Int, v = .agg #[.int .u8 n0, .int .u8 n1, .int .u8 n2] ∧ (0 ≤ n0 ∧ n0 ≤ 255) ∧ (0 ≤ n1 ∧ n1 ≤ 255) ∧ (0 ≤ n2 ∧ n2 ≤ 255) := by
  obtain ⟨cs, rfl, _, _⟩ : ∃ cs, v = .agg cs ∧ cs.size = Try.prog.cellsOf 34 ∧ Row.okWide Try.prog W r b0 34 cs := by
    simpa [Value.okWide, Try.underlying34] using hv
  obtain ⟨fuel, hf⟩ := h
  obtain ⟨xs, m, _, _, hl, hn, hel⟩ := DataW.trod_array Try.underlying34 hf
  rw [Try.cells34] at hl
  rw [Try.cells5] at hel
  obtain ⟨l⟩ := cs
  simp only [Value.cells] at hl hel
  match xs, hn with
  | [x0, x1, x2], _ =>
    match l, hl with
    | [c0, c1, c2], _ =>
      obtain ⟨n0, e0, _, w0⟩ := DataW.trod_int Try.underlying5 (show DataW.trod enc Try.prog W b sp held m 5 [c0] = some x0 from hel 0 (by decide))
      obtain ⟨n1, e1, _, w1⟩ := DataW.trod_int Try.underlying5 (show DataW.trod enc Try.prog W b sp held m 5 [c1] = some x1 from hel 1 (by decide))
      obtain ⟨n2, e2, _, w2⟩ := DataW.trod_int Try.underlying5 (show DataW.trod enc Try.prog W b sp held m 5 [c2] = some x2 from hel 2 (by decide))
      simp only [List.cons.injEq, and_true] at e0 e1 e2
      subst e0 e1 e2
      exact ⟨n0, n1, n2, rfl, bounds_u8 w0, bounds_u8 w1, bounds_u8 w2⟩
end
end Go.Proofs.Qxb6600079a
