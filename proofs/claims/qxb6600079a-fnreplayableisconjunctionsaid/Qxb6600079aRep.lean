/-
  'replayable' over a row of statements that the call's own door has laid: it answers true exactly where every statement is spelled and opens with a word of the list, or with SET and one of three.
-/
import Derived.Test.Qxb6600079aBase
import Derived.Deep.Cut
namespace Go.Proofs.Qxb6600079a
open Go.RowKit

/-- The first five words of a statement. -/
structure Words where
  a0 : ByteArray
  a1 : ByteArray
  a2 : ByteArray
  a3 : ByteArray
  a4 : ByteArray

/-- SELECT, VALUES, TABLE, WITH, INSERT, UPDATE, DELETE, MERGE, COPY, SHOW, EXPLAIN, LOCK, PREPARE, BEGIN, START, COMMIT, END, ROLLBACK, ABORT, SAVEPOINT, RELEASE -/
def IsRep (a : ByteArray) : Prop := a = ⟨#[83, 69, 76, 69, 67, 84]⟩ ∨ a = ⟨#[86, 65, 76, 85, 69, 83]⟩ ∨ a = ⟨#[84, 65, 66, 76, 69]⟩ ∨ a = ⟨#[87, 73, 84, 72]⟩ ∨ a = ⟨#[73, 78, 83, 69, 82, 84]⟩ ∨ a = ⟨#[85, 80, 68, 65, 84, 69]⟩ ∨ a = ⟨#[68, 69, 76, 69, 84, 69]⟩ ∨ a = ⟨#[77, 69, 82, 71, 69]⟩ ∨ a = ⟨#[67, 79, 80, 89]⟩ ∨ a = ⟨#[83, 72, 79, 87]⟩ ∨ a = ⟨#[69, 88, 80, 76, 65, 73, 78]⟩ ∨ a = ⟨#[76, 79, 67, 75]⟩ ∨ a = ⟨#[80, 82, 69, 80, 65, 82, 69]⟩ ∨ a = ⟨#[66, 69, 71, 73, 78]⟩ ∨ a = ⟨#[83, 84, 65, 82, 84]⟩ ∨ a = ⟨#[67, 79, 77, 77, 73, 84]⟩ ∨ a = ⟨#[69, 78, 68]⟩ ∨ a = ⟨#[82, 79, 76, 76, 66, 65, 67, 75]⟩ ∨ a = ⟨#[65, 66, 79, 82, 84]⟩ ∨ a = ⟨#[83, 65, 86, 69, 80, 79, 73, 78, 84]⟩ ∨ a = ⟨#[82, 69, 76, 69, 65, 83, 69]⟩
/-- LOCAL, TRANSACTION, CONSTRAINTS -/
def IsLoc (a : ByteArray) : Prop := a = ⟨#[76, 79, 67, 65, 76]⟩ ∨ a = ⟨#[84, 82, 65, 78, 83, 65, 67, 84, 73, 79, 78]⟩ ∨ a = ⟨#[67, 79, 78, 83, 84, 82, 65, 73, 78, 84, 83]⟩
/-- A statement that 'replayable' lets by. -/
def OkS (s : Words) (u : Bool) : Prop := u = false ∧ (IsRep s.a0 ∨ (s.a0 = ⟨#[83, 69, 84]⟩ ∧ IsLoc s.a1))

/-- Statement i of the row that lies in block b. -/
structure StAt (w : World) (b i : Nat) (s : Words) (u : Bool) : Prop where
  c0 : w.cell? ⟨b, i * 13, none⟩ = some (.int .i64 0)
  c1 : w.cell? ⟨b, i * 13 + 1, none⟩ = some (.int .i64 0)
  c2 : w.cell? ⟨b, i * 13 + 2, none⟩ = some (.int .i64 0)
  c3 : w.cell? ⟨b, i * 13 + 3, none⟩ = some (.int .i64 0)
  c4 : w.cell? ⟨b, i * 13 + 4, none⟩ = some (.string s.a0)
  c5 : w.cell? ⟨b, i * 13 + 5, none⟩ = some (.string s.a1)
  c6 : w.cell? ⟨b, i * 13 + 6, none⟩ = some (.string s.a2)
  c7 : w.cell? ⟨b, i * 13 + 7, none⟩ = some (.string s.a3)
  c8 : w.cell? ⟨b, i * 13 + 8, none⟩ = some (.string s.a4)
  c9 : w.cell? ⟨b, i * 13 + 9, none⟩ = some (.int .i64 0)
  c10 : w.cell? ⟨b, i * 13 + 10, none⟩ = some (.bool false)
  c11 : w.cell? ⟨b, i * 13 + 11, none⟩ = some (.slice none 0 0)
  c12 : w.cell? ⟨b, i * 13 + 12, none⟩ = some (.bool u)

/-- The answer says whether P holds; nothing that was there has turned. -/
def RetIff (w : World) (P : Prop) (e : Ending) (w' : World) : Prop := ∃ r : Bool, e = .returned (.bool r) ∧ (r = true ↔ P) ∧ Below w.heap.size w w'
theorem RetIff.yes {w w' : World} {P : Prop} {e : Ending} (he : e = .returned (.bool true)) (hp : P) (h : Below w.heap.size w w') : RetIff w P e w' := ⟨true, he, Iff.intro (fun _ => hp) (fun _ => rfl), h⟩
theorem RetIff.no {w w' : World} {P : Prop} {e : Ending} (he : e = .returned (.bool false)) (hp : ¬ P) (h : Below w.heap.size w w') : RetIff w P e w' := ⟨false, he, Iff.intro (fun hf => absurd hf (by decide)) (fun hq => absurd hq hp), h⟩

theorem ne_lit {a : ByteArray} (l : List UInt8) (h : ¬ a = ⟨l.toArray⟩) : (a.toList == l) = false := by
  rw [ByteArray.toList_eq, beq_eq_false_iff_ne]
  intro e
  apply h
  obtain ⟨⟨l'⟩⟩ := a
  simp only at e
  rw [e]

theorem ok_step {aw : Nat → Words} {u : Nat → Bool} {k : Nat} (h : ∀ i, i < k → OkS (aw i) (u i)) (hk : OkS (aw k) (u k)) : ∀ i, i < k + 1 → OkS (aw i) (u i) := by
  intro i hi
  by_cases e : i = k
  · subst e; exact hk
  · exact h i (by omega)

theorem ok_of {aw : Nat → Words} {u : Nat → Bool} {k : Nat} {s : Words} {v : Bool} (hs : aw k = s) (hu : u k = v) (h : OkS s v) : OkS (aw k) (u k) := by rw [hs, hu]; exact h
theorem no_of {aw : Nat → Words} {u : Nat → Bool} {k n : Nat} {s : Words} {v : Bool} (hlt : k < n) (hs : aw k = s) (hu : u k = v) (h : ¬ OkS s v) : ¬ ∀ i, i < n → OkS (aw i) (u i) := fun hq => h (by rw [← hs, ← hu]; exact hq k hlt)

/-- None of the words. -/
structure NoRep (a : ByteArray) : Prop where
  h0 : (a.toList == [83, 69, 76, 69, 67, 84]) = false
  h1 : (a.toList == [86, 65, 76, 85, 69, 83]) = false
  h2 : (a.toList == [84, 65, 66, 76, 69]) = false
  h3 : (a.toList == [87, 73, 84, 72]) = false
  h4 : (a.toList == [73, 78, 83, 69, 82, 84]) = false
  h5 : (a.toList == [85, 80, 68, 65, 84, 69]) = false
  h6 : (a.toList == [68, 69, 76, 69, 84, 69]) = false
  h7 : (a.toList == [77, 69, 82, 71, 69]) = false
  h8 : (a.toList == [67, 79, 80, 89]) = false
  h9 : (a.toList == [83, 72, 79, 87]) = false
  h10 : (a.toList == [69, 88, 80, 76, 65, 73, 78]) = false
  h11 : (a.toList == [76, 79, 67, 75]) = false
  h12 : (a.toList == [80, 82, 69, 80, 65, 82, 69]) = false
  h13 : (a.toList == [66, 69, 71, 73, 78]) = false
  h14 : (a.toList == [83, 84, 65, 82, 84]) = false
  h15 : (a.toList == [67, 79, 77, 77, 73, 84]) = false
  h16 : (a.toList == [69, 78, 68]) = false
  h17 : (a.toList == [82, 79, 76, 76, 66, 65, 67, 75]) = false
  h18 : (a.toList == [65, 66, 79, 82, 84]) = false
  h19 : (a.toList == [83, 65, 86, 69, 80, 79, 73, 78, 84]) = false
  h20 : (a.toList == [82, 69, 76, 69, 65, 83, 69]) = false
  h21 : (a.toList == [83, 69, 84]) = false

theorem noRep {a : ByteArray} (h : ¬ IsRep a) (hs : ¬ a = ⟨#[83, 69, 84]⟩) : NoRep a := by
  unfold IsRep at h
  simp only [not_or] at h
  obtain ⟨h0, h1, h2, h3, h4, h5, h6, h7, h8, h9, h10, h11, h12, h13, h14, h15, h16, h17, h18, h19, h20⟩ := h
  exact ⟨ne_lit _ h0, ne_lit _ h1, ne_lit _ h2, ne_lit _ h3, ne_lit _ h4, ne_lit _ h5, ne_lit _ h6, ne_lit _ h7, ne_lit _ h8, ne_lit _ h9, ne_lit _ h10, ne_lit _ h11, ne_lit _ h12, ne_lit _ h13, ne_lit _ h14, ne_lit _ h15, ne_lit _ h16, ne_lit _ h17, ne_lit _ h18, ne_lit _ h19, ne_lit _ h20, ne_lit _ hs⟩

theorem noLoc {a : ByteArray} (h : ¬ IsLoc a) : (a.toList == [76, 79, 67, 65, 76]) = false ∧ (a.toList == [84, 82, 65, 78, 83, 65, 67, 84, 73, 79, 78]) = false ∧ (a.toList == [67, 79, 78, 83, 84, 82, 65, 73, 78, 84, 83]) = false := by
  unfold IsLoc at h
  simp only [not_or] at h
  obtain ⟨h0, h1, h2⟩ := h
  exact ⟨ne_lit _ h0, ne_lit _ h1, ne_lit _ h2⟩

set_option maxHeartbeats 4000000 in
theorem rep_any (aw : Nat → Words) (u : Nat → Bool) (b n : Nat) (w : World) (hn : n ≤ 131072) (H : ∀ i, i < n → StAt w b i (aw i) (u i)) :
    Calls Try.prog 40 #[.slice (some ⟨b, 0, none⟩) n n] w fun e w' => RetIff w (∀ i, i < n → OkS (aw i) (u i)) e w' := by
  have HH := hid H
  clear H
  go_enter Try.func40, Try.ntmps40
  go_wp2
  go_loopw [8] (fun i wr => ∃ k : Nat, k ≤ n ∧ i = .int .i64 k ∧ Hid (Below w.heap.size w wr) ∧ Hid (∀ i, i < k → OkS (aw i) (u i))) (fun i _ => n - (intOf i).toNat)
  case atStart => exact ⟨0, Nat.zero_le _, rfl, Below.refl _ _, fun i hi => absurd hi (Nat.not_lt_zero _)⟩
  case round =>
    obtain ⟨k, hk, rfl, hb, hall⟩ := hrel
    by_cases hlt : k < n
    · obtain ⟨g0, g1, g2, g3, g4, g5, g6, g7, g8, g9, g10, g11, g12⟩ := HH.out k hlt
      replace g0 := cell_later hb.out g0
      replace g1 := cell_later hb.out g1
      replace g2 := cell_later hb.out g2
      replace g3 := cell_later hb.out g3
      replace g4 := cell_later hb.out g4
      replace g5 := cell_later hb.out g5
      replace g6 := cell_later hb.out g6
      replace g7 := cell_later hb.out g7
      replace g8 := cell_later hb.out g8
      replace g9 := cell_later hb.out g9
      replace g10 := cell_later hb.out g10
      replace g11 := cell_later hb.out g11
      replace g12 := cell_later hb.out g12
      have hsz : w.heap.size ≤ wr.heap.size := hb.out.size
      have hB := hid ((hb.out.alloc hsz (.cells #[.int .i64 0, .int .i64 0, .int .i64 0, .int .i64 0, .string (aw k).a0, .string (aw k).a1, .string (aw k).a2, .string (aw k).a3, .string (aw k).a4, .int .i64 0, .bool false, .slice none 0 0, .bool (u k)] 49)))
      clear HH
      obtain ⟨v, hu⟩ : ∃ v, u k = v := ⟨_, rfl⟩
      obtain ⟨⟨a0, a1, a2, a3, a4⟩, hs⟩ : ∃ s, aw k = s := ⟨_, rfl⟩
      have hU := hid hu
      have hS := hid hs
      rw [hs] at g4 g5 g6 g7 g8 hB
      rw [hu] at g12 hB
      clear hu hs
      cases v
      · go_upto_region 9 with fail
        clear g0 g1 g2 g3 g4 g5 g6 g7 g8 g9 g10 g11 g12
        by_cases hr : IsRep a0
        · have hR := hid hr
          rcases hr with rfl | rfl | rfl | rfl | rfl | rfl | rfl | rfl | rfl | rfl | rfl | rfl | rfl | rfl | rfl | rfl | rfl | rfl | rfl | rfl | rfl
          all_goals
            go_wp2
            go_roundw
            case rel => exact ⟨k + 1, by omega, by go_num, hB.out.alloc (by simp; omega) _, ok_step hall.out (ok_of hS.out hU.out ⟨rfl, .inl hR.out⟩)⟩
            case measure => simp [intOf]; omega
        · by_cases hs : a0 = ⟨#[83, 69, 84]⟩
          · subst hs
            by_cases hl : IsLoc a1
            · have hL := hid hl
              clear hr
              rcases hl with rfl | rfl | rfl
              all_goals
                go_wp2
                go_roundw
                case rel => exact ⟨k + 1, by omega, by go_num, hB.out.alloc (by simp; omega) _, ok_step hall.out (ok_of hS.out hU.out ⟨rfl, .inr ⟨rfl, hL.out⟩⟩)⟩
                case measure => simp [intOf]; omega
            · obtain ⟨l0, l1, l2⟩ := noLoc hl
              have hL := hid hl
              have hR := hid hr
              clear hl hr
              go_wp2
              go_ret
              exact RetIff.no rfl (no_of hlt hS.out hU.out (fun h => h.2.elim (fun h => hR.out h) (fun h => hL.out h.2))) (hB.out.alloc (by simp; omega) _)
          · obtain ⟨h0, h1, h2, h3, h4, h5, h6, h7, h8, h9, h10, h11, h12, h13, h14, h15, h16, h17, h18, h19, h20, h21⟩ := noRep hr hs
            have hR := hid hr
            have hN := hid hs
            clear hr hs
            go_wp2
            go_ret
            exact RetIff.no rfl (no_of hlt hS.out hU.out (fun h => h.2.elim (fun h => hR.out h) (fun h => hN.out h.1))) (hB.out.alloc (by simp; omega) _)
      · go_wp2
        go_ret
        exact RetIff.no rfl (no_of hlt hS.out hU.out (fun h => absurd h.1 (by decide))) hB.out
    · have hkn : k = n := by omega
      have hall' : Hid (∀ i, i < n → OkS (aw i) (u i)) := by rw [← hkn]; exact hall
      clear hall HH hkn
      go_wp2
      go_ret
      exact RetIff.yes rfl hall'.out hb.out
end Go.Proofs.Qxb6600079a
