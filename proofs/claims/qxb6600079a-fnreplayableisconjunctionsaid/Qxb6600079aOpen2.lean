/-
  ARGUMENTS OPENED, MORE: a slice of arrays of five strings; a slice of bools.
-/
import Derived.Test.Qxb6600079aOpen
import Derived.Test.Qxb6600079aLst
import Derived.Deep.Slices
namespace Go.Proofs.Qxb6600079a
open Go.ChangeShapes Go.WideShapes Go.ChangeAt Go.RowKit

theorem Try.cells4 : Try.prog.cellsOf 4 = 1 := by kernel_rfl

section
variable {H : Type} {enc : TypeId × Value → H} {W : World} {b : Nat} {sp : Nat → Bool} {held : Bool}

theorem open_bools {r : Reach} {b0 : Nat} {v : Value} {d : DataW H} {p : List MemPlace} (hv : Value.okWide Try.prog W r b0 37 v) (h : DataW.Trod enc Try.prog W b sp held 37 v d p) :
    ∃ (c : Option Addr) (m cap : Nat) (u : Nat → Bool), v = .slice c m cap ∧ m ≤ maxLen ∧ (c = none → m = 0) ∧ IsBs W c m u := by
  obtain ⟨c, m, cap, rfl⟩ := okWide_slice Try.underlying37 hv
  obtain ⟨fuel, hf⟩ := h
  rcases Go.Deep.open_slice1 Try.underlying37 Try.cells4 hf with ⟨hcs, _⟩ | ⟨a, len, cp, mm, n, V, D, Pl, hcs, _, hl, hm, hmm, _, hx⟩
  · simp [Value.cells] at hcs
    obtain ⟨rfl, rfl, rfl⟩ := hcs
    exact ⟨none, 0, 0, fun _ => false, rfl, Nat.zero_le _, fun _ => rfl, fun i hi => absurd hi (Nat.not_lt_zero _)⟩
  · simp [Value.cells] at hcs
    obtain ⟨rfl, rfl, rfl⟩ := hcs
    have hle : m ≤ mm := by rw [hmm]; split <;> omega
    have e : ∀ i, i < m → ∃ x : Bool, W.cell? (a.add i) = some (.bool x) := by
      intro i hi
      obtain ⟨h1, h2⟩ := hx i (by omega)
      obtain ⟨x, e1, _⟩ := DataW.trod_bool Try.underlying4 h2
      simp only [List.cons.injEq, and_true] at e1
      exact ⟨x, by rw [h1, e1]⟩
    obtain ⟨u, hu⟩ := Go.Deep.choose_lt e
    refine ⟨some a, m, cap, u, rfl, by omega, (fun h => by cases h), fun i hi => ?_⟩
    obtain ⟨ab, ao, spot⟩ := a
    have g := hu i hi
    have hs : spot = none := by
      have g0 := World.cell?_spot (hu 0 (by omega))
      simpa [Addr.add] using g0
    subst hs
    rw [Addr.add_lit] at g
    exact ⟨ab, ao, rfl, g⟩

theorem open_wordss {r : Reach} {b0 : Nat} {v : Value} {d : DataW H} {p : List MemPlace} (hv : Value.okWide Try.prog W r b0 36 v) (h : DataW.Trod enc Try.prog W b sp held 36 v d p) :
    ∃ (c : Option Addr) (n cap : Nat) (aw : Nat → Words), v = .slice c n cap ∧ n ≤ maxLen ∧ (c = none → n = 0) ∧ IsWs W c n aw ∧ FitW n aw := by
  obtain ⟨c, m, cap, rfl⟩ := okWide_slice Try.underlying36 hv
  obtain ⟨fuel, hf⟩ := h
  rcases Go.Deep.open_slice Try.underlying36 hf with ⟨hcs, _⟩ | ⟨a, len, cp, mm, n, D, Pl, hcs, _, hl, hm, hmm, _, hx⟩
  · simp [Value.cells] at hcs
    obtain ⟨rfl, rfl, rfl⟩ := hcs
    exact ⟨none, 0, 0, fun _ => zW, rfl, Nat.zero_le _, fun _ => rfl, fun i hi => absurd hi (Nat.not_lt_zero _), fun i hi => absurd hi (Nat.not_lt_zero _)⟩
  · simp [Value.cells] at hcs
    obtain ⟨rfl, rfl, rfl⟩ := hcs
    have hle : m ≤ mm := by rw [hmm]; split <;> omega
    rw [Try.cells22] at hx
    have e : ∀ i, i < m → ∃ s : Words, (∀ j, j < 5 → W.cell? ((a.add (i * 5)).add j) = ([.string s.a0, .string s.a1, .string s.a2, .string s.a3, .string s.a4] : List Value)[j]?) ∧ Fit5 s.a0 s.a1 s.a2 s.a3 s.a4 := by
      intro i hi
      obtain ⟨cs, h1, h2⟩ := hx i (by omega)
      obtain ⟨a0, a1, a2, a3, a4, rfl, hfit⟩ := words_of_cells h2
      exact ⟨⟨a0, a1, a2, a3, a4⟩, (World.cells?_some h1).2.2, hfit⟩
    obtain ⟨aw, haw⟩ := @Go.Deep.choose_lt Words ⟨zW⟩ m _ e
    refine ⟨some a, m, cap, aw, rfl, by omega, (fun h => by cases h), (fun i hi => ?_), fun i hi => (haw i hi).2⟩
    obtain ⟨ab, ao, spot⟩ := a
    have g := (haw i hi).1
    have hs : spot = none := by
      have g0 := World.cell?_spot ((haw 0 (by omega)).1 0 (by omega))
      simpa [Addr.add] using g0
    subst hs
    have c : ∀ j, j < 5 → W.cell? ⟨ab, ao + i * 5 + j, none⟩ = ([.string (aw i).a0, .string (aw i).a1, .string (aw i).a2, .string (aw i).a3, .string (aw i).a4] : List Value)[j]? := by
      intro j hj
      rw [← g j hj, Addr.add_lit, Addr.add_lit]
    exact ⟨ab, ao, rfl, c 0 (by omega), c 1 (by omega), c 2 (by omega), c 3 (by omega), c 4 (by omega)⟩
end
end Go.Proofs.Qxb6600079a
