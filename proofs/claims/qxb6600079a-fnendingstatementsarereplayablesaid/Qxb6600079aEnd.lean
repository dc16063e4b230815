/-
  'ending', and its door ZZEnding: whatever the words and the count of tokens (one at least), it returns a word and a bool; the word is empty, or the first word is COMMIT, END, ROLLBACK or ABORT.
-/
import Derived.Test.Qxb6600079aRep
namespace Go.Proofs.Qxb6600079a
open Go.RowKit

/-- COMMIT, END, ROLLBACK, ABORT -/
def IsEnd (a : ByteArray) : Prop := a = ⟨#[67, 79, 77, 77, 73, 84]⟩ ∨ a = ⟨#[69, 78, 68]⟩ ∨ a = ⟨#[82, 79, 76, 76, 66, 65, 67, 75]⟩ ∨ a = ⟨#[65, 66, 79, 82, 84]⟩

/-- A word and a bool are returned; P or the word is empty; nothing that was there has turned. -/
def RetE (w : World) (P : Prop) (e : Ending) (w' : World) : Prop := ∃ (v : ByteArray) (c : Bool), e = .returned (.tuple #[.string v, .bool c]) ∧ (P ∨ v = ⟨#[]⟩) ∧ Below w.heap.size w w'
theorem RetE.yes {w w' : World} {P : Prop} {e : Ending} {v : ByteArray} {c : Bool} (he : e = .returned (.tuple #[.string v, .bool c])) (hp : P) (h : Below w.heap.size w w') : RetE w P e w' := ⟨v, c, he, .inl hp, h⟩
theorem RetE.no {w w' : World} {P : Prop} {e : Ending} {c : Bool} (he : e = .returned (.tuple #[.string ⟨#[]⟩, .bool c])) (h : Below w.heap.size w w') : RetE w P e w' := ⟨⟨#[]⟩, c, he, .inr rfl, h⟩

set_option maxHeartbeats 400000 in
theorem end_many (a0 a1 a2 a3 a4 : ByteArray) (t : Int) (w : World) (ht : 5 < t) :
    Calls Try.prog 38 #[.agg #[.int .i64 0, .int .i64 0, .int .i64 0, .int .i64 0, .string a0, .string a1, .string a2, .string a3, .string a4, .int .i64 t, .bool false, .slice none 0 0, .bool false]] w fun e w' => RetE w (IsEnd a0) e w' := by
  go_enter Try.func38, Try.ntmps38
  go_wp2
  go_ret2
  exact RetE.no rfl ((Below.refl _ _).alloc (Nat.le_refl _) _)

theorem noEnd {a : ByteArray} (h : ¬ IsEnd a) : (a.toList == [67, 79, 77, 77, 73, 84]) = false ∧ (a.toList == [69, 78, 68]) = false ∧ (a.toList == [82, 79, 76, 76, 66, 65, 67, 75]) = false ∧ (a.toList == [65, 66, 79, 82, 84]) = false := by
  unfold IsEnd at h
  simp only [not_or] at h
  obtain ⟨h0, h1, h2, h3⟩ := h
  exact ⟨ne_lit _ h0, ne_lit _ h1, ne_lit _ h2, ne_lit _ h3⟩

set_option maxHeartbeats 400000 in
theorem end_other (a0 a1 a2 a3 a4 : ByteArray) (t : Int) (w : World) (h1 : 1 ≤ t) (h5 : t ≤ 5) (hn : ¬ IsEnd a0) :
    Calls Try.prog 38 #[.agg #[.int .i64 0, .int .i64 0, .int .i64 0, .int .i64 0, .string a0, .string a1, .string a2, .string a3, .string a4, .int .i64 t, .bool false, .slice none 0 0, .bool false]] w fun e w' => RetE w (IsEnd a0) e w' := by
  obtain ⟨n0, n1, n2, n3⟩ := noEnd hn
  clear hn
  rcases (by omega : t = 1 ∨ t = 2 ∨ t = 3 ∨ t = 4 ∨ t = 5) with rfl | rfl | rfl | rfl | rfl
  all_goals
    clear h1 h5
    go_enter Try.func38, Try.ntmps38
    go_wp2
    go_ret2
    exact RetE.no rfl ((Below.refl _ _).alloc (Nat.le_refl _) _)

set_option maxHeartbeats 1000000 in
theorem end_yes1 (a0 a1 a2 a3 a4 : ByteArray) (w : World) (h : IsEnd a0) :
    Calls Try.prog 38 #[.agg #[.int .i64 0, .int .i64 0, .int .i64 0, .int .i64 0, .string a0, .string a1, .string a2, .string a3, .string a4, .int .i64 1, .bool false, .slice none 0 0, .bool false]] w fun e w' => RetE w (IsEnd a0) e w' := by
  have hE := hid h
  rcases h with rfl | rfl | rfl | rfl
  all_goals
    go_enter Try.func38, Try.ntmps38
    go_wp2
    all_goals
      go_ret2
      exact RetE.yes rfl hE.out ((Below.refl _ _).alloc (Nat.le_refl _) _)

set_option maxHeartbeats 1000000 in
theorem end_yes2 (a0 a1 a2 a3 a4 : ByteArray) (w : World) (h : IsEnd a0) :
    Calls Try.prog 38 #[.agg #[.int .i64 0, .int .i64 0, .int .i64 0, .int .i64 0, .string a0, .string a1, .string a2, .string a3, .string a4, .int .i64 2, .bool false, .slice none 0 0, .bool false]] w fun e w' => RetE w (IsEnd a0) e w' := by
  have hE := hid h
  rcases h with rfl | rfl | rfl | rfl
  all_goals
    go_enter Try.func38, Try.ntmps38
    go_wp2
    all_goals
      go_ret2
      exact RetE.yes rfl hE.out ((Below.refl _ _).alloc (Nat.le_refl _) _)

set_option maxHeartbeats 1000000 in
theorem end_yes3 (a0 a1 a2 a3 a4 : ByteArray) (w : World) (h : IsEnd a0) :
    Calls Try.prog 38 #[.agg #[.int .i64 0, .int .i64 0, .int .i64 0, .int .i64 0, .string a0, .string a1, .string a2, .string a3, .string a4, .int .i64 3, .bool false, .slice none 0 0, .bool false]] w fun e w' => RetE w (IsEnd a0) e w' := by
  have hE := hid h
  rcases h with rfl | rfl | rfl | rfl
  all_goals
    go_enter Try.func38, Try.ntmps38
    go_wp2
    all_goals
      go_ret2
      exact RetE.yes rfl hE.out ((Below.refl _ _).alloc (Nat.le_refl _) _)

set_option maxHeartbeats 1000000 in
theorem end_yes4 (a0 a1 a2 a3 a4 : ByteArray) (w : World) (h : IsEnd a0) :
    Calls Try.prog 38 #[.agg #[.int .i64 0, .int .i64 0, .int .i64 0, .int .i64 0, .string a0, .string a1, .string a2, .string a3, .string a4, .int .i64 4, .bool false, .slice none 0 0, .bool false]] w fun e w' => RetE w (IsEnd a0) e w' := by
  have hE := hid h
  rcases h with rfl | rfl | rfl | rfl
  all_goals
    go_enter Try.func38, Try.ntmps38
    go_wp2
    all_goals
      go_ret2
      exact RetE.yes rfl hE.out ((Below.refl _ _).alloc (Nat.le_refl _) _)

set_option maxHeartbeats 1000000 in
theorem end_yes5 (a0 a1 a2 a3 a4 : ByteArray) (w : World) (h : IsEnd a0) :
    Calls Try.prog 38 #[.agg #[.int .i64 0, .int .i64 0, .int .i64 0, .int .i64 0, .string a0, .string a1, .string a2, .string a3, .string a4, .int .i64 5, .bool false, .slice none 0 0, .bool false]] w fun e w' => RetE w (IsEnd a0) e w' := by
  have hE := hid h
  rcases h with rfl | rfl | rfl | rfl
  all_goals
    go_enter Try.func38, Try.ntmps38
    go_wp2
    all_goals
      go_ret2
      exact RetE.yes rfl hE.out ((Below.refl _ _).alloc (Nat.le_refl _) _)

theorem end_any (a0 a1 a2 a3 a4 : ByteArray) (t : Int) (w : World) (h1 : 1 ≤ t) :
    Calls Try.prog 38 #[.agg #[.int .i64 0, .int .i64 0, .int .i64 0, .int .i64 0, .string a0, .string a1, .string a2, .string a3, .string a4, .int .i64 t, .bool false, .slice none 0 0, .bool false]] w fun e w' => RetE w (IsEnd a0) e w' := by
  by_cases h5 : 5 < t
  · exact end_many a0 a1 a2 a3 a4 t w h5
  · by_cases h : IsEnd a0
    · rcases (by omega : t = 1 ∨ t = 2 ∨ t = 3 ∨ t = 4 ∨ t = 5) with rfl | rfl | rfl | rfl | rfl
      · exact end_yes1 a0 a1 a2 a3 a4 w h
      · exact end_yes2 a0 a1 a2 a3 a4 w h
      · exact end_yes3 a0 a1 a2 a3 a4 w h
      · exact end_yes4 a0 a1 a2 a3 a4 w h
      · exact end_yes5 a0 a1 a2 a3 a4 w h
    · exact end_other a0 a1 a2 a3 a4 t w h1 (by omega) h

theorem RetE.back {w wr w' : World} {P : Prop} {v : ByteArray} {c : Bool} {e : Ending} (he : e = .returned (.tuple #[.string v, .bool c])) (h : (P ∨ v = ⟨#[]⟩) ∧ Below wr.heap.size wr w') (hb : Below w.heap.size w wr) : RetE w P e w' :=
  ⟨v, c, he, h.1, hb.trans (h.2.mono hb.size)⟩

set_option maxHeartbeats 400000 in
theorem zzend_any (a0 a1 a2 a3 a4 : ByteArray) (t : Int) (w : World) (h1 : 1 ≤ t) :
    Calls Try.prog 16 #[.agg #[.string a0, .string a1, .string a2, .string a3, .string a4], .int .i64 t] w fun e w' => RetE w (IsEnd a0) e w' := by
  go_enter Try.func16, Try.ntmps16
  go_wp2_with fail
  refine (end_any a0 a1 a2 a3 a4 t _ h1).mono ?_
  rintro e w' ⟨v, c, rfl, hr⟩
  have hR := hid hr
  clear hr
  go_wp2
  go_ret2
  exact RetE.back rfl hR.out ((Below.refl _ _).alloc (Nat.le_refl _) _)
end Go.Proofs.Qxb6600079a
