/-
  'analysedAtParse' and its door ZZAnalysedAtParse: the words that open a query: true · CREATE, words of persistence, then TABLE or MATERIALIZED: what 'as' says · a first word of neither kind: false.
-/
import Derived.Test.Qxb6600079aBase
namespace Go.Proofs.Qxb6600079a
open Go.RowKit

/-- GLOBAL, LOCAL, TEMP, TEMPORARY, UNLOGGED -/
def IsP (a : ByteArray) : Prop := a = ⟨#[71, 76, 79, 66, 65, 76]⟩ ∨ a = ⟨#[76, 79, 67, 65, 76]⟩ ∨ a = ⟨#[84, 69, 77, 80]⟩ ∨ a = ⟨#[84, 69, 77, 80, 79, 82, 65, 82, 89]⟩ ∨ a = ⟨#[85, 78, 76, 79, 71, 71, 69, 68]⟩
/-- TABLE, MATERIALIZED -/
def IsT (a : ByteArray) : Prop := a = ⟨#[84, 65, 66, 76, 69]⟩ ∨ a = ⟨#[77, 65, 84, 69, 82, 73, 65, 76, 73, 90, 69, 68]⟩
/-- SELECT, VALUES, TABLE, WITH, INSERT, UPDATE, DELETE, MERGE, EXPLAIN -/
def IsQ (a : ByteArray) : Prop := a = ⟨#[83, 69, 76, 69, 67, 84]⟩ ∨ a = ⟨#[86, 65, 76, 85, 69, 83]⟩ ∨ a = ⟨#[84, 65, 66, 76, 69]⟩ ∨ a = ⟨#[87, 73, 84, 72]⟩ ∨ a = ⟨#[73, 78, 83, 69, 82, 84]⟩ ∨ a = ⟨#[85, 80, 68, 65, 84, 69]⟩ ∨ a = ⟨#[68, 69, 76, 69, 84, 69]⟩ ∨ a = ⟨#[77, 69, 82, 71, 69]⟩ ∨ a = ⟨#[69, 88, 80, 76, 65, 73, 78]⟩
/-- What stands behind CREATE: words of persistence, then TABLE or MATERIALIZED. -/
def IsG3 (a3 a4 : ByteArray) : Prop := IsT a3 ∨ (IsP a3 ∧ IsT a4)
def IsG2 (a2 a3 a4 : ByteArray) : Prop := IsT a2 ∨ (IsP a2 ∧ IsG3 a3 a4)
def IsG (a1 a2 a3 a4 : ByteArray) : Prop := IsT a1 ∨ (IsP a1 ∧ IsG2 a2 a3 a4)
/-- What is left of it behind k rounds. -/
def IsR (a1 a2 a3 a4 : ByteArray) (v : Value) : Prop := (v = .int .i64 0 ∧ IsG a1 a2 a3 a4) ∨ (v = .int .i64 1 ∧ IsG2 a2 a3 a4) ∨ (v = .int .i64 2 ∧ IsG3 a3 a4) ∨ (v = .int .i64 3 ∧ IsT a4)

set_option maxHeartbeats 1000000 in
theorem an_create (a1 a2 a3 a4 : ByteArray) (sa : Bool) (w : World) (hg : IsG a1 a2 a3 a4) :
    Calls Try.prog 39 #[.agg #[.int .i64 0, .int .i64 0, .int .i64 0, .int .i64 0, .string ⟨#[67, 82, 69, 65, 84, 69]⟩, .string a1, .string a2, .string a3, .string a4, .int .i64 0, .bool sa, .slice none 0 0, .bool false]] w fun e w' => e = .returned (.bool sa) ∧ Below w.heap.size w w' := by
  have hG : Hid (IsG a1 a2 a3 a4) := hg
  clear hg
  go_enter Try.func39, Try.ntmps39
  go_wp2
  go_loop [26] (fun i => IsR a1 a2 a3 a4 i) (fun i => 4 - (intOf i).toNat)
  case atStart => exact .inl ⟨rfl, hG.out⟩
  case round =>
    clear hG
    rcases hrel with ⟨rfl, hg⟩ | ⟨rfl, hg⟩ | ⟨rfl, hg⟩ | ⟨rfl, hg⟩
    · rcases hg with h | ⟨h, hn'⟩
      · rcases h with rfl | rfl
        all_goals
          go_wp2
          go_ret
          exact ⟨rfl, (Below.refl _ _).alloc (Nat.le_refl _) _⟩
      · have hn : Hid (IsG2 a2 a3 a4) := hn'
        clear hn'
        rcases h with rfl | rfl | rfl | rfl | rfl
        all_goals
          go_wp2
          go_round
          case rel => exact .inr (.inl ⟨by go_num, hn.out⟩)
          case measure => simp [intOf]
    · rcases hg with h | ⟨h, hn'⟩
      · rcases h with rfl | rfl
        all_goals
          go_wp2
          go_ret
          exact ⟨rfl, (Below.refl _ _).alloc (Nat.le_refl _) _⟩
      · have hn : Hid (IsG3 a3 a4) := hn'
        clear hn'
        rcases h with rfl | rfl | rfl | rfl | rfl
        all_goals
          go_wp2
          go_round
          case rel => exact .inr (.inr (.inl ⟨by go_num, hn.out⟩))
          case measure => simp [intOf]
    · rcases hg with h | ⟨h, hn'⟩
      · rcases h with rfl | rfl
        all_goals
          go_wp2
          go_ret
          exact ⟨rfl, (Below.refl _ _).alloc (Nat.le_refl _) _⟩
      · have hn : Hid (IsT a4) := hn'
        clear hn'
        rcases h with rfl | rfl | rfl | rfl | rfl
        all_goals
          go_wp2
          go_round
          case rel => exact .inr (.inr (.inr ⟨by go_num, hn.out⟩))
          case measure => simp [intOf]
    · rcases hg with rfl | rfl
      all_goals
        go_wp2
        go_ret
        exact ⟨rfl, (Below.refl _ _).alloc (Nat.le_refl _) _⟩

set_option maxHeartbeats 1000000 in
theorem an_query (a0 a1 a2 a3 a4 : ByteArray) (sa : Bool) (w : World) (hq : IsQ a0) :
    Calls Try.prog 39 #[.agg #[.int .i64 0, .int .i64 0, .int .i64 0, .int .i64 0, .string a0, .string a1, .string a2, .string a3, .string a4, .int .i64 0, .bool sa, .slice none 0 0, .bool false]] w fun e w' => e = .returned (.bool true) ∧ Below w.heap.size w w' := by
  rcases hq with rfl | rfl | rfl | rfl | rfl | rfl | rfl | rfl | rfl
  all_goals
    go_enter Try.func39, Try.ntmps39
    go_wp2
    go_ret
    exact ⟨rfl, (Below.refl _ _).alloc (Nat.le_refl _) _⟩

/-- The first word is none of those that 'analysedAtParse' knows. -/
structure NoQ (a0 : ByteArray) : Prop where
  h0 : (a0.toList == [83, 69, 76, 69, 67, 84]) = false
  h1 : (a0.toList == [86, 65, 76, 85, 69, 83]) = false
  h2 : (a0.toList == [84, 65, 66, 76, 69]) = false
  h3 : (a0.toList == [87, 73, 84, 72]) = false
  h4 : (a0.toList == [73, 78, 83, 69, 82, 84]) = false
  h5 : (a0.toList == [85, 80, 68, 65, 84, 69]) = false
  h6 : (a0.toList == [68, 69, 76, 69, 84, 69]) = false
  h7 : (a0.toList == [77, 69, 82, 71, 69]) = false
  h8 : a0.toList.isEmpty = false
  h9 : (a0.toList == [68, 69, 67, 76, 65, 82, 69]) = false
  h10 : (a0.toList == [69, 88, 80, 76, 65, 73, 78]) = false
  h11 : (a0.toList == [67, 65, 76, 76]) = false
  h12 : (a0.toList == [67, 82, 69, 65, 84, 69]) = false

set_option maxHeartbeats 1000000 in
theorem an_no (a0 a1 a2 a3 a4 : ByteArray) (sa : Bool) (w : World) (hq : NoQ a0) :
    Calls Try.prog 39 #[.agg #[.int .i64 0, .int .i64 0, .int .i64 0, .int .i64 0, .string a0, .string a1, .string a2, .string a3, .string a4, .int .i64 0, .bool sa, .slice none 0 0, .bool false]] w fun e w' => e = .returned (.bool false) ∧ Below w.heap.size w w' := by
  obtain ⟨h0, h1, h2, h3, h4, h5, h6, h7, h8, h9, h10, h11, h12⟩ := hq
  go_enter Try.func39, Try.ntmps39
  go_wp2
  go_ret
  exact ⟨rfl, (Below.refl _ _).alloc (Nat.le_refl _) _⟩

set_option maxHeartbeats 400000 in
theorem zzan_create (a1 a2 a3 a4 : ByteArray) (sa : Bool) (w : World) (hq : IsG a1 a2 a3 a4) :
    Calls Try.prog 22 #[.agg #[.string ⟨#[67, 82, 69, 65, 84, 69]⟩, .string a1, .string a2, .string a3, .string a4], .bool sa] w fun e w' => e = .returned (.bool sa) ∧ Below w.heap.size w w' := by
  have hn := hid hq
  clear hq
  go_enter Try.func22, Try.ntmps22
  go_wp2_with fail
  refine (an_create a1 a2 a3 a4 sa _ hn.out).mono ?_
  rintro e w' ⟨rfl, hb⟩
  have hb' := hid (((Below.refl _ _).alloc (Nat.le_refl _) _).trans (hb.mono (by simp)))
  clear hb
  go_wp2
  go_ret
  exact ⟨rfl, hb'.out⟩

set_option maxHeartbeats 400000 in
theorem zzan_query (a0 a1 a2 a3 a4 : ByteArray) (sa : Bool) (w : World) (hq : IsQ a0) :
    Calls Try.prog 22 #[.agg #[.string a0, .string a1, .string a2, .string a3, .string a4], .bool sa] w fun e w' => e = .returned (.bool true) ∧ Below w.heap.size w w' := by
  have hn := hid hq
  clear hq
  go_enter Try.func22, Try.ntmps22
  go_wp2_with fail
  refine (an_query a0 a1 a2 a3 a4 sa _ hn.out).mono ?_
  rintro e w' ⟨rfl, hb⟩
  have hb' := hid (((Below.refl _ _).alloc (Nat.le_refl _) _).trans (hb.mono (by simp)))
  clear hb
  go_wp2
  go_ret
  exact ⟨rfl, hb'.out⟩

set_option maxHeartbeats 400000 in
theorem zzan_no (a0 a1 a2 a3 a4 : ByteArray) (sa : Bool) (w : World) (hq : NoQ a0) :
    Calls Try.prog 22 #[.agg #[.string a0, .string a1, .string a2, .string a3, .string a4], .bool sa] w fun e w' => e = .returned (.bool false) ∧ Below w.heap.size w w' := by
  have hn := hid hq
  clear hq
  go_enter Try.func22, Try.ntmps22
  go_wp2_with fail
  refine (an_no a0 a1 a2 a3 a4 sa _ hn.out).mono ?_
  rintro e w' ⟨rfl, hb⟩
  have hb' := hid (((Below.refl _ _).alloc (Nat.le_refl _) _).trans (hb.mono (by simp)))
  clear hb
  go_wp2
  go_ret
  exact ⟨rfl, hb'.out⟩

end Go.Proofs.Qxb6600079a
