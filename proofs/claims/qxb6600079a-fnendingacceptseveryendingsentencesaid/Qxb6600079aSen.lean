/-
  THE ENDING SENTENCES: the verb's word and its reading; 'ending' (and its door ZZEnding) at each of the nine shapes behind the verb, whatever lies beyond its tokens; zzEndingSentence.
-/
import Derived.Test.Qxb6600079aBase
import Derived.Deep.Cut
namespace Go.Proofs.Qxb6600079a
open Go.RowKit

/-- zzVerbWord -/
def vw (v : Int) : ByteArray := if v = 0 then ⟨#[67, 79, 77, 77, 73, 84]⟩ else if v = 1 then ⟨#[69, 78, 68]⟩ else if v = 2 then ⟨#[82, 79, 76, 76, 66, 65, 67, 75]⟩ else ⟨#[65, 66, 79, 82, 84]⟩
/-- zzVerbOf -/
def vo (v : Int) : ByteArray := if v < 2 then ⟨#[67, 79, 77, 77, 73, 84]⟩ else ⟨#[82, 79, 76, 76, 66, 65, 67, 75]⟩
/-- A verb's word, and what it is read as. -/
def EndV (a vb : ByteArray) : Prop := (a = ⟨#[67, 79, 77, 77, 73, 84]⟩ ∧ vb = ⟨#[67, 79, 77, 77, 73, 84]⟩) ∨ (a = ⟨#[69, 78, 68]⟩ ∧ vb = ⟨#[67, 79, 77, 77, 73, 84]⟩) ∨ (a = ⟨#[82, 79, 76, 76, 66, 65, 67, 75]⟩ ∧ vb = ⟨#[82, 79, 76, 76, 66, 65, 67, 75]⟩) ∨ (a = ⟨#[65, 66, 79, 82, 84]⟩ ∧ vb = ⟨#[82, 79, 76, 76, 66, 65, 67, 75]⟩)

theorem endV_of (v : Int) (h0 : 0 ≤ v) : EndV (vw v) (vo v) := by
  unfold vw vo EndV
  by_cases e0 : v = 0
  · subst e0; exact .inl ⟨rfl, rfl⟩
  · by_cases e1 : v = 1
    · subst e1; exact .inr (.inl ⟨rfl, rfl⟩)
    · by_cases e2 : v = 2
      · subst e2; exact .inr (.inr (.inl ⟨rfl, rfl⟩))
      · rw [if_neg e0, if_neg e1, if_neg e2, if_neg (by omega)]
        exact .inr (.inr (.inr ⟨rfl, rfl⟩))

set_option maxHeartbeats 400000 in
theorem vw_any (v : Int) (w : World) :
    Calls Try.prog 36 #[.int .i64 v] w fun e w' => e = .returned (.string (vw v)) ∧ w' = w := by
  unfold vw
  by_cases h0 : v = 0
  · subst h0
    go_enter Try.func36, Try.ntmps36
    go_wp2
    go_ret
    exact ⟨rfl, rfl⟩
  · by_cases h1 : v = 1
    · subst h1
      go_enter Try.func36, Try.ntmps36
      go_wp2
      go_ret
      exact ⟨rfl, rfl⟩
    · by_cases h2 : v = 2
      · subst h2
        go_enter Try.func36, Try.ntmps36
        go_wp2
        go_ret
        exact ⟨rfl, rfl⟩
      · rw [if_neg h0, if_neg h1, if_neg h2]
        go_enter Try.func36, Try.ntmps36
        go_wp2
        go_ret
        exact ⟨rfl, rfl⟩

set_option maxHeartbeats 400000 in
theorem vo_any (v : Int) (w : World) :
    Calls Try.prog 17 #[.int .i64 v] w fun e w' => e = .returned (.string (vo v)) ∧ w' = w := by
  unfold vo
  by_cases h : v < 2
  · rw [if_pos h]
    go_enter Try.func17, Try.ntmps17
    go_wp2
    go_ret
    exact ⟨rfl, rfl⟩
  · rw [if_neg h]
    go_enter Try.func17, Try.ntmps17
    go_wp2
    go_ret
    exact ⟨rfl, rfl⟩

set_option maxHeartbeats 1000000 in
theorem end00 (a0 a1 a2 a3 a4 vb : ByteArray) (w : World) (h : EndV a0 vb) :
    Calls Try.prog 38 #[.agg #[.int .i64 0, .int .i64 0, .int .i64 0, .int .i64 0, .string a0, .string a1, .string a2, .string a3, .string a4, .int .i64 1, .bool false, .slice none 0 0, .bool false]] w fun e w' => e = .returned (.tuple #[.string vb, .bool false]) ∧ Below w.heap.size w w' := by
  rcases h with ⟨rfl, rfl⟩ | ⟨rfl, rfl⟩ | ⟨rfl, rfl⟩ | ⟨rfl, rfl⟩
  all_goals
    go_enter Try.func38, Try.ntmps38
    go_wp2
    go_ret2
    exact ⟨rfl, (Below.refl _ _).alloc (Nat.le_refl _) _⟩

set_option maxHeartbeats 400000 in
theorem zzend00 (a0 a1 a2 a3 a4 vb : ByteArray) (w : World) (h : EndV a0 vb) :
    Calls Try.prog 16 #[.agg #[.string a0, .string a1, .string a2, .string a3, .string a4], .int .i64 1] w fun e w' => e = .returned (.tuple #[.string vb, .bool false]) ∧ Below w.heap.size w w' := by
  have hE := hid h
  clear h
  go_enter Try.func16, Try.ntmps16
  go_wp2_with fail
  refine (end00 a0 a1 a2 a3 a4 vb _ hE.out).mono ?_
  rintro e w1 ⟨rfl, hb⟩
  have hB := hid (((Below.refl _ _).alloc (Nat.le_refl _) _).trans (hb.mono (by simp)))
  clear hb
  go_wp2
  go_ret2
  exact ⟨rfl, hB.out⟩

set_option maxHeartbeats 400000 in
theorem sent00 (v : Int) (w : World) :
    Calls Try.prog 15 #[.int .i64 v, .int .i64 0, .int .i64 0] w fun e w' => e = .returned (.tuple #[.agg #[.string (vw v), .string ⟨#[]⟩, .string ⟨#[]⟩, .string ⟨#[]⟩, .string ⟨#[]⟩], .int .i64 1]) ∧ Below w.heap.size w w' := by
  go_enter Try.func15, Try.ntmps15
  go_wp2_with (first | (go_at_call 36; refine (vw_any _ _).mono ?_; rintro e w' ⟨rfl, rfl⟩) | (go_at_call 37; go_in))
  refine bodyPost_ret (v := .tuple #[.agg #[.string (vw v), .string ⟨#[]⟩, .string ⟨#[]⟩, .string ⟨#[]⟩, .string ⟨#[]⟩], .int .i64 1]) (by simp [results, Try.results15, go_sem]) rfl ⟨rfl, ?_⟩
  exact ((Below.refl _ _).alloc (Nat.le_refl _) _).alloc (by simp) _

set_option maxHeartbeats 1000000 in
theorem end01 (a0 a3 a4 vb : ByteArray) (w : World) (h : EndV a0 vb) :
    Calls Try.prog 38 #[.agg #[.int .i64 0, .int .i64 0, .int .i64 0, .int .i64 0, .string a0, .string ⟨#[65, 78, 68]⟩, .string ⟨#[67, 72, 65, 73, 78]⟩, .string a3, .string a4, .int .i64 3, .bool false, .slice none 0 0, .bool false]] w fun e w' => e = .returned (.tuple #[.string vb, .bool true]) ∧ Below w.heap.size w w' := by
  rcases h with ⟨rfl, rfl⟩ | ⟨rfl, rfl⟩ | ⟨rfl, rfl⟩ | ⟨rfl, rfl⟩
  all_goals
    go_enter Try.func38, Try.ntmps38
    go_wp2
    go_ret2
    exact ⟨rfl, (Below.refl _ _).alloc (Nat.le_refl _) _⟩

set_option maxHeartbeats 400000 in
theorem zzend01 (a0 a3 a4 vb : ByteArray) (w : World) (h : EndV a0 vb) :
    Calls Try.prog 16 #[.agg #[.string a0, .string ⟨#[65, 78, 68]⟩, .string ⟨#[67, 72, 65, 73, 78]⟩, .string a3, .string a4], .int .i64 3] w fun e w' => e = .returned (.tuple #[.string vb, .bool true]) ∧ Below w.heap.size w w' := by
  have hE := hid h
  clear h
  go_enter Try.func16, Try.ntmps16
  go_wp2_with fail
  refine (end01 a0 a3 a4 vb _ hE.out).mono ?_
  rintro e w1 ⟨rfl, hb⟩
  have hB := hid (((Below.refl _ _).alloc (Nat.le_refl _) _).trans (hb.mono (by simp)))
  clear hb
  go_wp2
  go_ret2
  exact ⟨rfl, hB.out⟩

set_option maxHeartbeats 400000 in
theorem sent01 (v : Int) (w : World) :
    Calls Try.prog 15 #[.int .i64 v, .int .i64 0, .int .i64 1] w fun e w' => e = .returned (.tuple #[.agg #[.string (vw v), .string ⟨#[65, 78, 68]⟩, .string ⟨#[67, 72, 65, 73, 78]⟩, .string ⟨#[]⟩, .string ⟨#[]⟩], .int .i64 3]) ∧ Below w.heap.size w w' := by
  go_enter Try.func15, Try.ntmps15
  go_wp2_with (first | (go_at_call 36; refine (vw_any _ _).mono ?_; rintro e w' ⟨rfl, rfl⟩) | (go_at_call 37; go_in))
  refine bodyPost_ret (v := .tuple #[.agg #[.string (vw v), .string ⟨#[65, 78, 68]⟩, .string ⟨#[67, 72, 65, 73, 78]⟩, .string ⟨#[]⟩, .string ⟨#[]⟩], .int .i64 3]) (by simp [results, Try.results15, go_sem]) rfl ⟨rfl, ?_⟩
  exact ((Below.refl _ _).alloc (Nat.le_refl _) _).alloc (by simp) _

set_option maxHeartbeats 1000000 in
theorem end02 (a0 a4 vb : ByteArray) (w : World) (h : EndV a0 vb) :
    Calls Try.prog 38 #[.agg #[.int .i64 0, .int .i64 0, .int .i64 0, .int .i64 0, .string a0, .string ⟨#[65, 78, 68]⟩, .string ⟨#[78, 79]⟩, .string ⟨#[67, 72, 65, 73, 78]⟩, .string a4, .int .i64 4, .bool false, .slice none 0 0, .bool false]] w fun e w' => e = .returned (.tuple #[.string vb, .bool false]) ∧ Below w.heap.size w w' := by
  rcases h with ⟨rfl, rfl⟩ | ⟨rfl, rfl⟩ | ⟨rfl, rfl⟩ | ⟨rfl, rfl⟩
  all_goals
    go_enter Try.func38, Try.ntmps38
    go_wp2
    go_ret2
    exact ⟨rfl, (Below.refl _ _).alloc (Nat.le_refl _) _⟩

set_option maxHeartbeats 400000 in
theorem zzend02 (a0 a4 vb : ByteArray) (w : World) (h : EndV a0 vb) :
    Calls Try.prog 16 #[.agg #[.string a0, .string ⟨#[65, 78, 68]⟩, .string ⟨#[78, 79]⟩, .string ⟨#[67, 72, 65, 73, 78]⟩, .string a4], .int .i64 4] w fun e w' => e = .returned (.tuple #[.string vb, .bool false]) ∧ Below w.heap.size w w' := by
  have hE := hid h
  clear h
  go_enter Try.func16, Try.ntmps16
  go_wp2_with fail
  refine (end02 a0 a4 vb _ hE.out).mono ?_
  rintro e w1 ⟨rfl, hb⟩
  have hB := hid (((Below.refl _ _).alloc (Nat.le_refl _) _).trans (hb.mono (by simp)))
  clear hb
  go_wp2
  go_ret2
  exact ⟨rfl, hB.out⟩

set_option maxHeartbeats 400000 in
theorem sent02 (v : Int) (w : World) :
    Calls Try.prog 15 #[.int .i64 v, .int .i64 0, .int .i64 2] w fun e w' => e = .returned (.tuple #[.agg #[.string (vw v), .string ⟨#[65, 78, 68]⟩, .string ⟨#[78, 79]⟩, .string ⟨#[67, 72, 65, 73, 78]⟩, .string ⟨#[]⟩], .int .i64 4]) ∧ Below w.heap.size w w' := by
  go_enter Try.func15, Try.ntmps15
  go_wp2_with (first | (go_at_call 36; refine (vw_any _ _).mono ?_; rintro e w' ⟨rfl, rfl⟩) | (go_at_call 37; go_in))
  refine bodyPost_ret (v := .tuple #[.agg #[.string (vw v), .string ⟨#[65, 78, 68]⟩, .string ⟨#[78, 79]⟩, .string ⟨#[67, 72, 65, 73, 78]⟩, .string ⟨#[]⟩], .int .i64 4]) (by simp [results, Try.results15, go_sem]) rfl ⟨rfl, ?_⟩
  exact ((Below.refl _ _).alloc (Nat.le_refl _) _).alloc (by simp) _

set_option maxHeartbeats 1000000 in
theorem end10 (a0 a2 a3 a4 vb : ByteArray) (w : World) (h : EndV a0 vb) :
    Calls Try.prog 38 #[.agg #[.int .i64 0, .int .i64 0, .int .i64 0, .int .i64 0, .string a0, .string ⟨#[87, 79, 82, 75]⟩, .string a2, .string a3, .string a4, .int .i64 2, .bool false, .slice none 0 0, .bool false]] w fun e w' => e = .returned (.tuple #[.string vb, .bool false]) ∧ Below w.heap.size w w' := by
  rcases h with ⟨rfl, rfl⟩ | ⟨rfl, rfl⟩ | ⟨rfl, rfl⟩ | ⟨rfl, rfl⟩
  all_goals
    go_enter Try.func38, Try.ntmps38
    go_wp2
    go_ret2
    exact ⟨rfl, (Below.refl _ _).alloc (Nat.le_refl _) _⟩

set_option maxHeartbeats 400000 in
theorem zzend10 (a0 a2 a3 a4 vb : ByteArray) (w : World) (h : EndV a0 vb) :
    Calls Try.prog 16 #[.agg #[.string a0, .string ⟨#[87, 79, 82, 75]⟩, .string a2, .string a3, .string a4], .int .i64 2] w fun e w' => e = .returned (.tuple #[.string vb, .bool false]) ∧ Below w.heap.size w w' := by
  have hE := hid h
  clear h
  go_enter Try.func16, Try.ntmps16
  go_wp2_with fail
  refine (end10 a0 a2 a3 a4 vb _ hE.out).mono ?_
  rintro e w1 ⟨rfl, hb⟩
  have hB := hid (((Below.refl _ _).alloc (Nat.le_refl _) _).trans (hb.mono (by simp)))
  clear hb
  go_wp2
  go_ret2
  exact ⟨rfl, hB.out⟩

set_option maxHeartbeats 400000 in
theorem sent10 (v : Int) (w : World) :
    Calls Try.prog 15 #[.int .i64 v, .int .i64 1, .int .i64 0] w fun e w' => e = .returned (.tuple #[.agg #[.string (vw v), .string ⟨#[87, 79, 82, 75]⟩, .string ⟨#[]⟩, .string ⟨#[]⟩, .string ⟨#[]⟩], .int .i64 2]) ∧ Below w.heap.size w w' := by
  go_enter Try.func15, Try.ntmps15
  go_wp2_with (first | (go_at_call 36; refine (vw_any _ _).mono ?_; rintro e w' ⟨rfl, rfl⟩) | (go_at_call 37; go_in))
  refine bodyPost_ret (v := .tuple #[.agg #[.string (vw v), .string ⟨#[87, 79, 82, 75]⟩, .string ⟨#[]⟩, .string ⟨#[]⟩, .string ⟨#[]⟩], .int .i64 2]) (by simp [results, Try.results15, go_sem]) rfl ⟨rfl, ?_⟩
  exact ((Below.refl _ _).alloc (Nat.le_refl _) _).alloc (by simp) _

set_option maxHeartbeats 1000000 in
theorem end11 (a0 a4 vb : ByteArray) (w : World) (h : EndV a0 vb) :
    Calls Try.prog 38 #[.agg #[.int .i64 0, .int .i64 0, .int .i64 0, .int .i64 0, .string a0, .string ⟨#[87, 79, 82, 75]⟩, .string ⟨#[65, 78, 68]⟩, .string ⟨#[67, 72, 65, 73, 78]⟩, .string a4, .int .i64 4, .bool false, .slice none 0 0, .bool false]] w fun e w' => e = .returned (.tuple #[.string vb, .bool true]) ∧ Below w.heap.size w w' := by
  rcases h with ⟨rfl, rfl⟩ | ⟨rfl, rfl⟩ | ⟨rfl, rfl⟩ | ⟨rfl, rfl⟩
  all_goals
    go_enter Try.func38, Try.ntmps38
    go_wp2
    go_ret2
    exact ⟨rfl, (Below.refl _ _).alloc (Nat.le_refl _) _⟩

set_option maxHeartbeats 400000 in
theorem zzend11 (a0 a4 vb : ByteArray) (w : World) (h : EndV a0 vb) :
    Calls Try.prog 16 #[.agg #[.string a0, .string ⟨#[87, 79, 82, 75]⟩, .string ⟨#[65, 78, 68]⟩, .string ⟨#[67, 72, 65, 73, 78]⟩, .string a4], .int .i64 4] w fun e w' => e = .returned (.tuple #[.string vb, .bool true]) ∧ Below w.heap.size w w' := by
  have hE := hid h
  clear h
  go_enter Try.func16, Try.ntmps16
  go_wp2_with fail
  refine (end11 a0 a4 vb _ hE.out).mono ?_
  rintro e w1 ⟨rfl, hb⟩
  have hB := hid (((Below.refl _ _).alloc (Nat.le_refl _) _).trans (hb.mono (by simp)))
  clear hb
  go_wp2
  go_ret2
  exact ⟨rfl, hB.out⟩

set_option maxHeartbeats 400000 in
theorem sent11 (v : Int) (w : World) :
    Calls Try.prog 15 #[.int .i64 v, .int .i64 1, .int .i64 1] w fun e w' => e = .returned (.tuple #[.agg #[.string (vw v), .string ⟨#[87, 79, 82, 75]⟩, .string ⟨#[65, 78, 68]⟩, .string ⟨#[67, 72, 65, 73, 78]⟩, .string ⟨#[]⟩], .int .i64 4]) ∧ Below w.heap.size w w' := by
  go_enter Try.func15, Try.ntmps15
  go_wp2_with (first | (go_at_call 36; refine (vw_any _ _).mono ?_; rintro e w' ⟨rfl, rfl⟩) | (go_at_call 37; go_in))
  refine bodyPost_ret (v := .tuple #[.agg #[.string (vw v), .string ⟨#[87, 79, 82, 75]⟩, .string ⟨#[65, 78, 68]⟩, .string ⟨#[67, 72, 65, 73, 78]⟩, .string ⟨#[]⟩], .int .i64 4]) (by simp [results, Try.results15, go_sem]) rfl ⟨rfl, ?_⟩
  exact ((Below.refl _ _).alloc (Nat.le_refl _) _).alloc (by simp) _

set_option maxHeartbeats 1000000 in
theorem end12 (a0 vb : ByteArray) (w : World) (h : EndV a0 vb) :
    Calls Try.prog 38 #[.agg #[.int .i64 0, .int .i64 0, .int .i64 0, .int .i64 0, .string a0, .string ⟨#[87, 79, 82, 75]⟩, .string ⟨#[65, 78, 68]⟩, .string ⟨#[78, 79]⟩, .string ⟨#[67, 72, 65, 73, 78]⟩, .int .i64 5, .bool false, .slice none 0 0, .bool false]] w fun e w' => e = .returned (.tuple #[.string vb, .bool false]) ∧ Below w.heap.size w w' := by
  rcases h with ⟨rfl, rfl⟩ | ⟨rfl, rfl⟩ | ⟨rfl, rfl⟩ | ⟨rfl, rfl⟩
  all_goals
    go_enter Try.func38, Try.ntmps38
    go_wp2
    go_ret2
    exact ⟨rfl, (Below.refl _ _).alloc (Nat.le_refl _) _⟩

set_option maxHeartbeats 400000 in
theorem zzend12 (a0 vb : ByteArray) (w : World) (h : EndV a0 vb) :
    Calls Try.prog 16 #[.agg #[.string a0, .string ⟨#[87, 79, 82, 75]⟩, .string ⟨#[65, 78, 68]⟩, .string ⟨#[78, 79]⟩, .string ⟨#[67, 72, 65, 73, 78]⟩], .int .i64 5] w fun e w' => e = .returned (.tuple #[.string vb, .bool false]) ∧ Below w.heap.size w w' := by
  have hE := hid h
  clear h
  go_enter Try.func16, Try.ntmps16
  go_wp2_with fail
  refine (end12 a0 vb _ hE.out).mono ?_
  rintro e w1 ⟨rfl, hb⟩
  have hB := hid (((Below.refl _ _).alloc (Nat.le_refl _) _).trans (hb.mono (by simp)))
  clear hb
  go_wp2
  go_ret2
  exact ⟨rfl, hB.out⟩

set_option maxHeartbeats 400000 in
theorem sent12 (v : Int) (w : World) :
    Calls Try.prog 15 #[.int .i64 v, .int .i64 1, .int .i64 2] w fun e w' => e = .returned (.tuple #[.agg #[.string (vw v), .string ⟨#[87, 79, 82, 75]⟩, .string ⟨#[65, 78, 68]⟩, .string ⟨#[78, 79]⟩, .string ⟨#[67, 72, 65, 73, 78]⟩], .int .i64 5]) ∧ Below w.heap.size w w' := by
  go_enter Try.func15, Try.ntmps15
  go_wp2_with (first | (go_at_call 36; refine (vw_any _ _).mono ?_; rintro e w' ⟨rfl, rfl⟩) | (go_at_call 37; go_in))
  refine bodyPost_ret (v := .tuple #[.agg #[.string (vw v), .string ⟨#[87, 79, 82, 75]⟩, .string ⟨#[65, 78, 68]⟩, .string ⟨#[78, 79]⟩, .string ⟨#[67, 72, 65, 73, 78]⟩], .int .i64 5]) (by simp [results, Try.results15, go_sem]) rfl ⟨rfl, ?_⟩
  exact ((Below.refl _ _).alloc (Nat.le_refl _) _).alloc (by simp) _

set_option maxHeartbeats 1000000 in
theorem end20 (a0 a2 a3 a4 vb : ByteArray) (w : World) (h : EndV a0 vb) :
    Calls Try.prog 38 #[.agg #[.int .i64 0, .int .i64 0, .int .i64 0, .int .i64 0, .string a0, .string ⟨#[84, 82, 65, 78, 83, 65, 67, 84, 73, 79, 78]⟩, .string a2, .string a3, .string a4, .int .i64 2, .bool false, .slice none 0 0, .bool false]] w fun e w' => e = .returned (.tuple #[.string vb, .bool false]) ∧ Below w.heap.size w w' := by
  rcases h with ⟨rfl, rfl⟩ | ⟨rfl, rfl⟩ | ⟨rfl, rfl⟩ | ⟨rfl, rfl⟩
  all_goals
    go_enter Try.func38, Try.ntmps38
    go_wp2
    go_ret2
    exact ⟨rfl, (Below.refl _ _).alloc (Nat.le_refl _) _⟩

set_option maxHeartbeats 400000 in
theorem zzend20 (a0 a2 a3 a4 vb : ByteArray) (w : World) (h : EndV a0 vb) :
    Calls Try.prog 16 #[.agg #[.string a0, .string ⟨#[84, 82, 65, 78, 83, 65, 67, 84, 73, 79, 78]⟩, .string a2, .string a3, .string a4], .int .i64 2] w fun e w' => e = .returned (.tuple #[.string vb, .bool false]) ∧ Below w.heap.size w w' := by
  have hE := hid h
  clear h
  go_enter Try.func16, Try.ntmps16
  go_wp2_with fail
  refine (end20 a0 a2 a3 a4 vb _ hE.out).mono ?_
  rintro e w1 ⟨rfl, hb⟩
  have hB := hid (((Below.refl _ _).alloc (Nat.le_refl _) _).trans (hb.mono (by simp)))
  clear hb
  go_wp2
  go_ret2
  exact ⟨rfl, hB.out⟩

set_option maxHeartbeats 400000 in
theorem sent20 (v : Int) (w : World) :
    Calls Try.prog 15 #[.int .i64 v, .int .i64 2, .int .i64 0] w fun e w' => e = .returned (.tuple #[.agg #[.string (vw v), .string ⟨#[84, 82, 65, 78, 83, 65, 67, 84, 73, 79, 78]⟩, .string ⟨#[]⟩, .string ⟨#[]⟩, .string ⟨#[]⟩], .int .i64 2]) ∧ Below w.heap.size w w' := by
  go_enter Try.func15, Try.ntmps15
  go_wp2_with (first | (go_at_call 36; refine (vw_any _ _).mono ?_; rintro e w' ⟨rfl, rfl⟩) | (go_at_call 37; go_in))
  refine bodyPost_ret (v := .tuple #[.agg #[.string (vw v), .string ⟨#[84, 82, 65, 78, 83, 65, 67, 84, 73, 79, 78]⟩, .string ⟨#[]⟩, .string ⟨#[]⟩, .string ⟨#[]⟩], .int .i64 2]) (by simp [results, Try.results15, go_sem]) rfl ⟨rfl, ?_⟩
  exact ((Below.refl _ _).alloc (Nat.le_refl _) _).alloc (by simp) _

set_option maxHeartbeats 1000000 in
theorem end21 (a0 a4 vb : ByteArray) (w : World) (h : EndV a0 vb) :
    Calls Try.prog 38 #[.agg #[.int .i64 0, .int .i64 0, .int .i64 0, .int .i64 0, .string a0, .string ⟨#[84, 82, 65, 78, 83, 65, 67, 84, 73, 79, 78]⟩, .string ⟨#[65, 78, 68]⟩, .string ⟨#[67, 72, 65, 73, 78]⟩, .string a4, .int .i64 4, .bool false, .slice none 0 0, .bool false]] w fun e w' => e = .returned (.tuple #[.string vb, .bool true]) ∧ Below w.heap.size w w' := by
  rcases h with ⟨rfl, rfl⟩ | ⟨rfl, rfl⟩ | ⟨rfl, rfl⟩ | ⟨rfl, rfl⟩
  all_goals
    go_enter Try.func38, Try.ntmps38
    go_wp2
    go_ret2
    exact ⟨rfl, (Below.refl _ _).alloc (Nat.le_refl _) _⟩

set_option maxHeartbeats 400000 in
theorem zzend21 (a0 a4 vb : ByteArray) (w : World) (h : EndV a0 vb) :
    Calls Try.prog 16 #[.agg #[.string a0, .string ⟨#[84, 82, 65, 78, 83, 65, 67, 84, 73, 79, 78]⟩, .string ⟨#[65, 78, 68]⟩, .string ⟨#[67, 72, 65, 73, 78]⟩, .string a4], .int .i64 4] w fun e w' => e = .returned (.tuple #[.string vb, .bool true]) ∧ Below w.heap.size w w' := by
  have hE := hid h
  clear h
  go_enter Try.func16, Try.ntmps16
  go_wp2_with fail
  refine (end21 a0 a4 vb _ hE.out).mono ?_
  rintro e w1 ⟨rfl, hb⟩
  have hB := hid (((Below.refl _ _).alloc (Nat.le_refl _) _).trans (hb.mono (by simp)))
  clear hb
  go_wp2
  go_ret2
  exact ⟨rfl, hB.out⟩

set_option maxHeartbeats 400000 in
theorem sent21 (v : Int) (w : World) :
    Calls Try.prog 15 #[.int .i64 v, .int .i64 2, .int .i64 1] w fun e w' => e = .returned (.tuple #[.agg #[.string (vw v), .string ⟨#[84, 82, 65, 78, 83, 65, 67, 84, 73, 79, 78]⟩, .string ⟨#[65, 78, 68]⟩, .string ⟨#[67, 72, 65, 73, 78]⟩, .string ⟨#[]⟩], .int .i64 4]) ∧ Below w.heap.size w w' := by
  go_enter Try.func15, Try.ntmps15
  go_wp2_with (first | (go_at_call 36; refine (vw_any _ _).mono ?_; rintro e w' ⟨rfl, rfl⟩) | (go_at_call 37; go_in))
  refine bodyPost_ret (v := .tuple #[.agg #[.string (vw v), .string ⟨#[84, 82, 65, 78, 83, 65, 67, 84, 73, 79, 78]⟩, .string ⟨#[65, 78, 68]⟩, .string ⟨#[67, 72, 65, 73, 78]⟩, .string ⟨#[]⟩], .int .i64 4]) (by simp [results, Try.results15, go_sem]) rfl ⟨rfl, ?_⟩
  exact ((Below.refl _ _).alloc (Nat.le_refl _) _).alloc (by simp) _

set_option maxHeartbeats 1000000 in
theorem end22 (a0 vb : ByteArray) (w : World) (h : EndV a0 vb) :
    Calls Try.prog 38 #[.agg #[.int .i64 0, .int .i64 0, .int .i64 0, .int .i64 0, .string a0, .string ⟨#[84, 82, 65, 78, 83, 65, 67, 84, 73, 79, 78]⟩, .string ⟨#[65, 78, 68]⟩, .string ⟨#[78, 79]⟩, .string ⟨#[67, 72, 65, 73, 78]⟩, .int .i64 5, .bool false, .slice none 0 0, .bool false]] w fun e w' => e = .returned (.tuple #[.string vb, .bool false]) ∧ Below w.heap.size w w' := by
  rcases h with ⟨rfl, rfl⟩ | ⟨rfl, rfl⟩ | ⟨rfl, rfl⟩ | ⟨rfl, rfl⟩
  all_goals
    go_enter Try.func38, Try.ntmps38
    go_wp2
    go_ret2
    exact ⟨rfl, (Below.refl _ _).alloc (Nat.le_refl _) _⟩

set_option maxHeartbeats 400000 in
theorem zzend22 (a0 vb : ByteArray) (w : World) (h : EndV a0 vb) :
    Calls Try.prog 16 #[.agg #[.string a0, .string ⟨#[84, 82, 65, 78, 83, 65, 67, 84, 73, 79, 78]⟩, .string ⟨#[65, 78, 68]⟩, .string ⟨#[78, 79]⟩, .string ⟨#[67, 72, 65, 73, 78]⟩], .int .i64 5] w fun e w' => e = .returned (.tuple #[.string vb, .bool false]) ∧ Below w.heap.size w w' := by
  have hE := hid h
  clear h
  go_enter Try.func16, Try.ntmps16
  go_wp2_with fail
  refine (end22 a0 vb _ hE.out).mono ?_
  rintro e w1 ⟨rfl, hb⟩
  have hB := hid (((Below.refl _ _).alloc (Nat.le_refl _) _).trans (hb.mono (by simp)))
  clear hb
  go_wp2
  go_ret2
  exact ⟨rfl, hB.out⟩

set_option maxHeartbeats 400000 in
theorem sent22 (v : Int) (w : World) :
    Calls Try.prog 15 #[.int .i64 v, .int .i64 2, .int .i64 2] w fun e w' => e = .returned (.tuple #[.agg #[.string (vw v), .string ⟨#[84, 82, 65, 78, 83, 65, 67, 84, 73, 79, 78]⟩, .string ⟨#[65, 78, 68]⟩, .string ⟨#[78, 79]⟩, .string ⟨#[67, 72, 65, 73, 78]⟩], .int .i64 5]) ∧ Below w.heap.size w w' := by
  go_enter Try.func15, Try.ntmps15
  go_wp2_with (first | (go_at_call 36; refine (vw_any _ _).mono ?_; rintro e w' ⟨rfl, rfl⟩) | (go_at_call 37; go_in))
  refine bodyPost_ret (v := .tuple #[.agg #[.string (vw v), .string ⟨#[84, 82, 65, 78, 83, 65, 67, 84, 73, 79, 78]⟩, .string ⟨#[65, 78, 68]⟩, .string ⟨#[78, 79]⟩, .string ⟨#[67, 72, 65, 73, 78]⟩], .int .i64 5]) (by simp [results, Try.results15, go_sem]) rfl ⟨rfl, ?_⟩
  exact ((Below.refl _ _).alloc (Nat.le_refl _) _).alloc (by simp) _

end Go.Proofs.Qxb6600079a
