/-
  THE SIZE CHECKS AHEAD OF EACH LAW: zzSumLen5 and the four zzBytes_.. of one array of five words: each RETURNS (a number, a bool: whichever), and writes nothing that was there.
-/
import Derived.Test.Qxb6600079aRows
import Derived.WalkKit
import Derived.WalkSpells
import Derived.WalkLawsBesides
namespace Go.Proofs.Qxb6600079a
open Go.RowKit

/-- Five strings, each of a length that Go allows. -/
structure Fit5 (a0 a1 a2 a3 a4 : ByteArray) : Prop where
  h0 : a0.size ≤ maxLen
  h1 : a1.size ≤ maxLen
  h2 : a2.size ≤ maxLen
  h3 : a3.size ≤ maxLen
  h4 : a4.size ≤ maxLen

/-- Behind a call that writes nothing old: all old cells and marks read as before. -/
theorem bcell {W w1 : World} (hb : Below W.heap.size W w1) : (∀ b o, b < W.heap.size → w1.cell? ⟨b, o, none⟩ = W.cell? ⟨b, o, none⟩) ∧ (∀ b o, b < W.heap.size → w1.frozen? ⟨b, o, none⟩ = W.frozen? ⟨b, o, none⟩) :=
  ⟨fun b o h => hb.cell (p := ⟨b, o, none⟩) h, fun b o h => hb.frozen (p := ⟨b, o, none⟩) h⟩

theorem hid {p : Prop} (h : p) : Hid p := h

/-- A bool is returned, whichever; nothing that was there has turned. -/
def RetB (w : World) (e : Ending) (w' : World) : Prop := ∃ b : Bool, e = .returned (.bool b) ∧ Below w.heap.size w w'
theorem RetB.mk {w w' : World} {e : Ending} {b : Bool} (he : e = .returned (.bool b)) (h : Below w.heap.size w w') : RetB w e w' := ⟨b, he, h⟩

set_option maxHeartbeats 400000 in
theorem sum5_any (a0 a1 a2 a3 a4 : ByteArray) (w : World) (hf : Fit5 a0 a1 a2 a3 a4) :
    Calls Try.prog 14 #[.agg #[.string a0, .string a1, .string a2, .string a3, .string a4]] w fun e w' => ∃ n : Int, e = .returned (.int .i64 n) ∧ 0 ≤ n ∧ n ≤ 5242880 ∧ Below w.heap.size w w' := by
  obtain ⟨h0, h1, h2, h3, h4⟩ := hf
  unfold maxLen at h0 h1 h2 h3 h4
  go_enter Try.func14, Try.ntmps14
  go_wp2
  go_loop [3, 4] (fun n i => ∃ (k : Nat) (m : Int), k ≤ 5 ∧ i = .int .i64 k ∧ n = .int .i64 m ∧ 0 ≤ m ∧ m ≤ 1048576 * k) (fun _ i => 5 - (intOf i).toNat)
  case atStart => exact ⟨0, 0, by omega, rfl, rfl, by omega, by omega⟩
  case round =>
    obtain ⟨k, m, hk, rfl, rfl, hm0, hm1⟩ := hrel
    rcases (by omega : k = 0 ∨ k = 1 ∨ k = 2 ∨ k = 3 ∨ k = 4 ∨ k = 5) with rfl | rfl | rfl | rfl | rfl | rfl
    · go_wp2
      · go_ret
        exact ⟨_, rfl, by omega, by omega, (Below.refl _ _).alloc (Nat.le_refl _) _⟩
      · go_round
        case rel => exact ⟨1, _, by omega, by go_num, rfl, by omega, by omega⟩
        case measure => simp [intOf]
    · go_wp2
      · go_ret
        exact ⟨_, rfl, by omega, by omega, (Below.refl _ _).alloc (Nat.le_refl _) _⟩
      · go_round
        case rel => exact ⟨2, _, by omega, by go_num, rfl, by omega, by omega⟩
        case measure => simp [intOf]
    · go_wp2
      · go_ret
        exact ⟨_, rfl, by omega, by omega, (Below.refl _ _).alloc (Nat.le_refl _) _⟩
      · go_round
        case rel => exact ⟨3, _, by omega, by go_num, rfl, by omega, by omega⟩
        case measure => simp [intOf]
    · go_wp2
      · go_ret
        exact ⟨_, rfl, by omega, by omega, (Below.refl _ _).alloc (Nat.le_refl _) _⟩
      · go_round
        case rel => exact ⟨4, _, by omega, by go_num, rfl, by omega, by omega⟩
        case measure => simp [intOf]
    · go_wp2
      · go_ret
        exact ⟨_, rfl, by omega, by omega, (Below.refl _ _).alloc (Nat.le_refl _) _⟩
      · go_round
        case rel => exact ⟨5, _, by omega, by go_num, rfl, by omega, by omega⟩
        case measure => simp [intOf]
    · go_wp2
      go_ret
      exact ⟨_, rfl, by omega, by omega, (Below.refl _ _).alloc (Nat.le_refl _) _⟩

set_option maxHeartbeats 400000 in
theorem bytes13 (x y z : Int) (a0 a1 a2 a3 a4 : ByteArray) (w : World) (hf : Fit5 a0 a1 a2 a3 a4) :
    Calls Try.prog 13 #[.int .u8 x, .int .u8 y, .int .u8 z, .agg #[.string a0, .string a1, .string a2, .string a3, .string a4]] w fun e w' => RetB w e w' := by
  obtain ⟨h0, h1, h2, h3, h4⟩ := hf
  unfold maxLen at h0 h1 h2 h3 h4
  go_enter Try.func13, Try.ntmps13
  go_wp2
  go_loop [9, 10] (fun n i => ∃ (k : Nat) (m : Int), k ≤ 5 ∧ i = .int .i64 k ∧ n = .int .i64 m ∧ 0 ≤ m ∧ m ≤ 1048576) (fun _ i => 5 - (intOf i).toNat)
  case atStart => exact ⟨0, 0, by omega, rfl, rfl, by omega, by omega⟩
  case round =>
    obtain ⟨k, m, hk, rfl, rfl, hm0, hm1⟩ := hrel
    rcases (by omega : k = 0 ∨ k = 1 ∨ k = 2 ∨ k = 3 ∨ k = 4 ∨ k = 5) with rfl | rfl | rfl | rfl | rfl | rfl
    · go_wp2
      · go_ret
        exact RetB.mk rfl ((Below.refl _ _).alloc (Nat.le_refl _) _)
      · go_ret
        exact RetB.mk rfl ((Below.refl _ _).alloc (Nat.le_refl _) _)
      · go_round
        case rel => exact ⟨1, _, by omega, by go_num, rfl, by omega, by omega⟩
        case measure => simp [intOf]
    · go_wp2
      · go_ret
        exact RetB.mk rfl ((Below.refl _ _).alloc (Nat.le_refl _) _)
      · go_ret
        exact RetB.mk rfl ((Below.refl _ _).alloc (Nat.le_refl _) _)
      · go_round
        case rel => exact ⟨2, _, by omega, by go_num, rfl, by omega, by omega⟩
        case measure => simp [intOf]
    · go_wp2
      · go_ret
        exact RetB.mk rfl ((Below.refl _ _).alloc (Nat.le_refl _) _)
      · go_ret
        exact RetB.mk rfl ((Below.refl _ _).alloc (Nat.le_refl _) _)
      · go_round
        case rel => exact ⟨3, _, by omega, by go_num, rfl, by omega, by omega⟩
        case measure => simp [intOf]
    · go_wp2
      · go_ret
        exact RetB.mk rfl ((Below.refl _ _).alloc (Nat.le_refl _) _)
      · go_ret
        exact RetB.mk rfl ((Below.refl _ _).alloc (Nat.le_refl _) _)
      · go_round
        case rel => exact ⟨4, _, by omega, by go_num, rfl, by omega, by omega⟩
        case measure => simp [intOf]
    · go_wp2
      · go_ret
        exact RetB.mk rfl ((Below.refl _ _).alloc (Nat.le_refl _) _)
      · go_ret
        exact RetB.mk rfl ((Below.refl _ _).alloc (Nat.le_refl _) _)
      · go_round
        case rel => exact ⟨5, _, by omega, by go_num, rfl, by omega, by omega⟩
        case measure => simp [intOf]
    · go_wp2
      go_ret
      exact RetB.mk rfl ((Below.refl _ _).alloc (Nat.le_refl _) _)

set_option maxHeartbeats 400000 in
theorem bytes24 (x p0 p1 p2 : Int) (y z : Bool) (a0 a1 a2 a3 a4 : ByteArray) (w : World) (hf : Fit5 a0 a1 a2 a3 a4) :
    Calls Try.prog 24 #[.int .u8 x, .agg #[.int .u8 p0, .int .u8 p1, .int .u8 p2], .bool y, .bool z, .agg #[.string a0, .string a1, .string a2, .string a3, .string a4]] w fun e w' => RetB w e w' := by
  obtain ⟨h0, h1, h2, h3, h4⟩ := hf
  unfold maxLen at h0 h1 h2 h3 h4
  go_enter Try.func24, Try.ntmps24
  go_wp2
  go_loop [11, 12] (fun n i => ∃ (k : Nat) (m : Int), k ≤ 5 ∧ i = .int .i64 k ∧ n = .int .i64 m ∧ 0 ≤ m ∧ m ≤ 1048576) (fun _ i => 5 - (intOf i).toNat)
  case atStart => exact ⟨0, 0, by omega, rfl, rfl, by omega, by omega⟩
  case round =>
    obtain ⟨k, m, hk, rfl, rfl, hm0, hm1⟩ := hrel
    rcases (by omega : k = 0 ∨ k = 1 ∨ k = 2 ∨ k = 3 ∨ k = 4 ∨ k = 5) with rfl | rfl | rfl | rfl | rfl | rfl
    · go_wp2
      · go_ret
        exact RetB.mk rfl (((Below.refl _ _).alloc (Nat.le_refl _) _).alloc (by simp) _)
      · go_ret
        exact RetB.mk rfl (((Below.refl _ _).alloc (Nat.le_refl _) _).alloc (by simp) _)
      · go_round
        case rel => exact ⟨1, _, by omega, by go_num, rfl, by omega, by omega⟩
        case measure => simp [intOf]
    · go_wp2
      · go_ret
        exact RetB.mk rfl (((Below.refl _ _).alloc (Nat.le_refl _) _).alloc (by simp) _)
      · go_ret
        exact RetB.mk rfl (((Below.refl _ _).alloc (Nat.le_refl _) _).alloc (by simp) _)
      · go_round
        case rel => exact ⟨2, _, by omega, by go_num, rfl, by omega, by omega⟩
        case measure => simp [intOf]
    · go_wp2
      · go_ret
        exact RetB.mk rfl (((Below.refl _ _).alloc (Nat.le_refl _) _).alloc (by simp) _)
      · go_ret
        exact RetB.mk rfl (((Below.refl _ _).alloc (Nat.le_refl _) _).alloc (by simp) _)
      · go_round
        case rel => exact ⟨3, _, by omega, by go_num, rfl, by omega, by omega⟩
        case measure => simp [intOf]
    · go_wp2
      · go_ret
        exact RetB.mk rfl (((Below.refl _ _).alloc (Nat.le_refl _) _).alloc (by simp) _)
      · go_ret
        exact RetB.mk rfl (((Below.refl _ _).alloc (Nat.le_refl _) _).alloc (by simp) _)
      · go_round
        case rel => exact ⟨4, _, by omega, by go_num, rfl, by omega, by omega⟩
        case measure => simp [intOf]
    · go_wp2
      · go_ret
        exact RetB.mk rfl (((Below.refl _ _).alloc (Nat.le_refl _) _).alloc (by simp) _)
      · go_ret
        exact RetB.mk rfl (((Below.refl _ _).alloc (Nat.le_refl _) _).alloc (by simp) _)
      · go_round
        case rel => exact ⟨5, _, by omega, by go_num, rfl, by omega, by omega⟩
        case measure => simp [intOf]
    · go_wp2
      go_ret
      exact RetB.mk rfl (((Below.refl _ _).alloc (Nat.le_refl _) _).alloc (by simp) _)

set_option maxHeartbeats 400000 in
theorem bytes34 (x : Int) (a0 a1 a2 a3 a4 : ByteArray) (w : World) (hf : Fit5 a0 a1 a2 a3 a4) :
    Calls Try.prog 34 #[.agg #[.string a0, .string a1, .string a2, .string a3, .string a4], .int .i64 x] w fun e w' => RetB w e w' := by
  obtain ⟨h0, h1, h2, h3, h4⟩ := hf
  unfold maxLen at h0 h1 h2 h3 h4
  go_enter Try.func34, Try.ntmps34
  go_wp2
  go_loop [5, 6] (fun n i => ∃ (k : Nat) (m : Int), k ≤ 5 ∧ i = .int .i64 k ∧ n = .int .i64 m ∧ 0 ≤ m ∧ m ≤ 1048576) (fun _ i => 5 - (intOf i).toNat)
  case atStart => exact ⟨0, 0, by omega, rfl, rfl, by omega, by omega⟩
  case round =>
    obtain ⟨k, m, hk, rfl, rfl, hm0, hm1⟩ := hrel
    rcases (by omega : k = 0 ∨ k = 1 ∨ k = 2 ∨ k = 3 ∨ k = 4 ∨ k = 5) with rfl | rfl | rfl | rfl | rfl | rfl
    · go_wp2
      · go_ret
        exact RetB.mk rfl ((Below.refl _ _).alloc (Nat.le_refl _) _)
      · go_ret
        exact RetB.mk rfl ((Below.refl _ _).alloc (Nat.le_refl _) _)
      · go_round
        case rel => exact ⟨1, _, by omega, by go_num, rfl, by omega, by omega⟩
        case measure => simp [intOf]
    · go_wp2
      · go_ret
        exact RetB.mk rfl ((Below.refl _ _).alloc (Nat.le_refl _) _)
      · go_ret
        exact RetB.mk rfl ((Below.refl _ _).alloc (Nat.le_refl _) _)
      · go_round
        case rel => exact ⟨2, _, by omega, by go_num, rfl, by omega, by omega⟩
        case measure => simp [intOf]
    · go_wp2
      · go_ret
        exact RetB.mk rfl ((Below.refl _ _).alloc (Nat.le_refl _) _)
      · go_ret
        exact RetB.mk rfl ((Below.refl _ _).alloc (Nat.le_refl _) _)
      · go_round
        case rel => exact ⟨3, _, by omega, by go_num, rfl, by omega, by omega⟩
        case measure => simp [intOf]
    · go_wp2
      · go_ret
        exact RetB.mk rfl ((Below.refl _ _).alloc (Nat.le_refl _) _)
      · go_ret
        exact RetB.mk rfl ((Below.refl _ _).alloc (Nat.le_refl _) _)
      · go_round
        case rel => exact ⟨4, _, by omega, by go_num, rfl, by omega, by omega⟩
        case measure => simp [intOf]
    · go_wp2
      · go_ret
        exact RetB.mk rfl ((Below.refl _ _).alloc (Nat.le_refl _) _)
      · go_ret
        exact RetB.mk rfl ((Below.refl _ _).alloc (Nat.le_refl _) _)
      · go_round
        case rel => exact ⟨5, _, by omega, by go_num, rfl, by omega, by omega⟩
        case measure => simp [intOf]
    · go_wp2
      go_ret
      exact RetB.mk rfl ((Below.refl _ _).alloc (Nat.le_refl _) _)

set_option maxHeartbeats 400000 in
theorem bytes35 (x : Bool) (a0 a1 a2 a3 a4 : ByteArray) (w : World) (hf : Fit5 a0 a1 a2 a3 a4) :
    Calls Try.prog 35 #[.agg #[.string a0, .string a1, .string a2, .string a3, .string a4], .bool x] w fun e w' => RetB w e w' := by
  obtain ⟨h0, h1, h2, h3, h4⟩ := hf
  unfold maxLen at h0 h1 h2 h3 h4
  go_enter Try.func35, Try.ntmps35
  go_wp2
  go_loop [5, 6] (fun n i => ∃ (k : Nat) (m : Int), k ≤ 5 ∧ i = .int .i64 k ∧ n = .int .i64 m ∧ 0 ≤ m ∧ m ≤ 1048576) (fun _ i => 5 - (intOf i).toNat)
  case atStart => exact ⟨0, 0, by omega, rfl, rfl, by omega, by omega⟩
  case round =>
    obtain ⟨k, m, hk, rfl, rfl, hm0, hm1⟩ := hrel
    rcases (by omega : k = 0 ∨ k = 1 ∨ k = 2 ∨ k = 3 ∨ k = 4 ∨ k = 5) with rfl | rfl | rfl | rfl | rfl | rfl
    · go_wp2
      · go_ret
        exact RetB.mk rfl ((Below.refl _ _).alloc (Nat.le_refl _) _)
      · go_ret
        exact RetB.mk rfl ((Below.refl _ _).alloc (Nat.le_refl _) _)
      · go_round
        case rel => exact ⟨1, _, by omega, by go_num, rfl, by omega, by omega⟩
        case measure => simp [intOf]
    · go_wp2
      · go_ret
        exact RetB.mk rfl ((Below.refl _ _).alloc (Nat.le_refl _) _)
      · go_ret
        exact RetB.mk rfl ((Below.refl _ _).alloc (Nat.le_refl _) _)
      · go_round
        case rel => exact ⟨2, _, by omega, by go_num, rfl, by omega, by omega⟩
        case measure => simp [intOf]
    · go_wp2
      · go_ret
        exact RetB.mk rfl ((Below.refl _ _).alloc (Nat.le_refl _) _)
      · go_ret
        exact RetB.mk rfl ((Below.refl _ _).alloc (Nat.le_refl _) _)
      · go_round
        case rel => exact ⟨3, _, by omega, by go_num, rfl, by omega, by omega⟩
        case measure => simp [intOf]
    · go_wp2
      · go_ret
        exact RetB.mk rfl ((Below.refl _ _).alloc (Nat.le_refl _) _)
      · go_ret
        exact RetB.mk rfl ((Below.refl _ _).alloc (Nat.le_refl _) _)
      · go_round
        case rel => exact ⟨4, _, by omega, by go_num, rfl, by omega, by omega⟩
        case measure => simp [intOf]
    · go_wp2
      · go_ret
        exact RetB.mk rfl ((Below.refl _ _).alloc (Nat.le_refl _) _)
      · go_ret
        exact RetB.mk rfl ((Below.refl _ _).alloc (Nat.le_refl _) _)
      · go_round
        case rel => exact ⟨5, _, by omega, by go_num, rfl, by omega, by omega⟩
        case measure => simp [intOf]
    · go_wp2
      go_ret
      exact RetB.mk rfl ((Below.refl _ _).alloc (Nat.le_refl _) _)

end Go.Proofs.Qxb6600079a
