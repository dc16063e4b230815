/-
  zzBytes_FnReplayableIsConjunction: it returns a bool, whichever, and writes nothing.
-/
import Derived.Test.Qxb6600079aLst
namespace Go.Proofs.Qxb6600079a
open Go.RowKit

set_option maxHeartbeats 2000000 in
theorem bytes26 (aw bw : Nat → Words) (c1 c2 c3 c4 : Option Addr) (n1 m1 n2 m2 k1 k2 k3 k4 : Nat) (w : World) (pn1 : n1 ≤ maxLen) (pm1 : m1 ≤ maxLen) (pn2 : n2 ≤ maxLen) (pm2 : m2 ≤ maxLen)
    (HW1 : IsWs w c1 n1 aw) (HF1 : FitW n1 aw) (HW2 : IsWs w c3 n2 bw) (HF2 : FitW n2 bw) :
    Calls Try.prog 26 #[.slice c1 n1 k1, .slice c2 m1 k2, .slice c3 n2 k3, .slice c4 m2 k4] w fun e w' => RetB w e w' := by
  have hW1 := hid HW1
  have hF1 := hid HF1
  have hW2 := hid HW2
  have hF2 := hid HF2
  clear HW1 HF1 HW2 HF2
  unfold maxLen at pn1 pm1 pn2 pm2
  by_cases h1 : (1048576 : Int) < n1
  · go_enter Try.func26, Try.ntmps26
    go_wp2
    go_ret
    exact RetB.mk rfl (Below.refl _ _)
  · go_enter Try.func26, Try.ntmps26
    go_wp2
    go_loop [9, 10] (fun s i => ∃ (k : Nat) (m : Int), k ≤ n1 ∧ i = .int .i64 k ∧ s = .int .i64 m ∧ 0 ≤ m ∧ m ≤ 1048576) (fun _ i => n1 - (intOf i).toNat)
    case atStart => exact ⟨0, _, Nat.zero_le _, rfl, rfl, by omega, by omega⟩
    case round =>
      obtain ⟨k, m, hk, rfl, rfl, hv0, hv1⟩ := hrel
      by_cases hlt : k < n1
      · obtain ⟨b, off, rfl, g0, g1, g2, g3, g4⟩ := hW1.out k hlt
        obtain ⟨s0, s1, s2, s3, s4⟩ := hF1.out k hlt
        unfold maxLen at s0 s1 s2 s3 s4
        clear hW1 hF1
        go_wp2
        go_loop [9, 11] (fun s i => ∃ (j : Nat) (m : Int), j ≤ 5 ∧ i = .int .i64 j ∧ s = .int .i64 m ∧ 0 ≤ m ∧ m ≤ 1048576) (fun _ i => 5 - (intOf i).toNat)
        case atStart => exact ⟨0, _, Nat.zero_le _, rfl, rfl, by omega, by omega⟩
        case round =>
          clear hv0 hv1
          obtain ⟨j, mj, hj, rfl, rfl, hj0, hj1⟩ := hrel
          rcases (by omega : j = 0 ∨ j = 1 ∨ j = 2 ∨ j = 3 ∨ j = 4 ∨ j = 5) with rfl | rfl | rfl | rfl | rfl | rfl
          · go_wp2
            · go_ret
              exact RetB.mk rfl (Below.refl _ _)
            · go_ret
              exact RetB.mk rfl (Below.refl _ _)
            · go_round
              case rel => exact ⟨1, _, by omega, by go_num, rfl, by omega, by omega⟩
              case measure => simp [intOf]
          · go_wp2
            · go_ret
              exact RetB.mk rfl (Below.refl _ _)
            · go_ret
              exact RetB.mk rfl (Below.refl _ _)
            · go_round
              case rel => exact ⟨2, _, by omega, by go_num, rfl, by omega, by omega⟩
              case measure => simp [intOf]
          · go_wp2
            · go_ret
              exact RetB.mk rfl (Below.refl _ _)
            · go_ret
              exact RetB.mk rfl (Below.refl _ _)
            · go_round
              case rel => exact ⟨3, _, by omega, by go_num, rfl, by omega, by omega⟩
              case measure => simp [intOf]
          · go_wp2
            · go_ret
              exact RetB.mk rfl (Below.refl _ _)
            · go_ret
              exact RetB.mk rfl (Below.refl _ _)
            · go_round
              case rel => exact ⟨4, _, by omega, by go_num, rfl, by omega, by omega⟩
              case measure => simp [intOf]
          · go_wp2
            · go_ret
              exact RetB.mk rfl (Below.refl _ _)
            · go_ret
              exact RetB.mk rfl (Below.refl _ _)
            · go_round
              case rel => exact ⟨5, _, by omega, by go_num, rfl, by omega, by omega⟩
              case measure => simp [intOf]
          · go_wp2
            go_round
            case rel => exact ⟨k + 1, mj, by omega, by go_num, rfl, by omega, by omega⟩
            case measure => simp [intOf]; omega
      · clear hW1 hF1
        by_cases h2 : (1048576 : Int) < m1
        · go_wp2
          go_ret
          exact RetB.mk rfl (Below.refl _ _)
        · by_cases hs : 1048576 < m + m1
          · go_wp2
            go_ret
            exact RetB.mk rfl (Below.refl _ _)
          · by_cases h3 : (1048576 : Int) < n2
            · go_wp2
              go_ret
              exact RetB.mk rfl (Below.refl _ _)
            · by_cases hs2 : 1048576 < m + m1 + n2
              · go_wp2
                go_ret
                exact RetB.mk rfl (Below.refl _ _)
              · go_wp2
                go_loop [9, 12] (fun s i => ∃ (k : Nat) (m : Int), k ≤ n2 ∧ i = .int .i64 k ∧ s = .int .i64 m ∧ 0 ≤ m ∧ m ≤ 1048576) (fun _ i => n2 - (intOf i).toNat)
                case atStart => exact ⟨0, _, Nat.zero_le _, rfl, rfl, by omega, by omega⟩
                case round =>
                  obtain ⟨k, m, hk, rfl, rfl, hv0, hv1⟩ := hrel
                  by_cases hlt : k < n2
                  · obtain ⟨b, off, rfl, g0, g1, g2, g3, g4⟩ := hW2.out k hlt
                    obtain ⟨s0, s1, s2, s3, s4⟩ := hF2.out k hlt
                    unfold maxLen at s0 s1 s2 s3 s4
                    clear hW2 hF2
                    go_wp2
                    go_loop [9, 13] (fun s i => ∃ (j : Nat) (m : Int), j ≤ 5 ∧ i = .int .i64 j ∧ s = .int .i64 m ∧ 0 ≤ m ∧ m ≤ 1048576) (fun _ i => 5 - (intOf i).toNat)
                    case atStart => exact ⟨0, _, Nat.zero_le _, rfl, rfl, by omega, by omega⟩
                    case round =>
                      clear hv0 hv1
                      obtain ⟨j, mj, hj, rfl, rfl, hj0, hj1⟩ := hrel
                      rcases (by omega : j = 0 ∨ j = 1 ∨ j = 2 ∨ j = 3 ∨ j = 4 ∨ j = 5) with rfl | rfl | rfl | rfl | rfl | rfl
                      · go_wp2
                        · go_ret
                          exact RetB.mk rfl (Below.refl _ _)
                        · go_ret
                          exact RetB.mk rfl (Below.refl _ _)
                        · go_round
                          case rel => exact ⟨1, _, by omega, by go_num, rfl, by omega, by omega⟩
                          case measure => simp [intOf]
                      · go_wp2
                        · go_ret
                          exact RetB.mk rfl (Below.refl _ _)
                        · go_ret
                          exact RetB.mk rfl (Below.refl _ _)
                        · go_round
                          case rel => exact ⟨2, _, by omega, by go_num, rfl, by omega, by omega⟩
                          case measure => simp [intOf]
                      · go_wp2
                        · go_ret
                          exact RetB.mk rfl (Below.refl _ _)
                        · go_ret
                          exact RetB.mk rfl (Below.refl _ _)
                        · go_round
                          case rel => exact ⟨3, _, by omega, by go_num, rfl, by omega, by omega⟩
                          case measure => simp [intOf]
                      · go_wp2
                        · go_ret
                          exact RetB.mk rfl (Below.refl _ _)
                        · go_ret
                          exact RetB.mk rfl (Below.refl _ _)
                        · go_round
                          case rel => exact ⟨4, _, by omega, by go_num, rfl, by omega, by omega⟩
                          case measure => simp [intOf]
                      · go_wp2
                        · go_ret
                          exact RetB.mk rfl (Below.refl _ _)
                        · go_ret
                          exact RetB.mk rfl (Below.refl _ _)
                        · go_round
                          case rel => exact ⟨5, _, by omega, by go_num, rfl, by omega, by omega⟩
                          case measure => simp [intOf]
                      · go_wp2
                        go_round
                        case rel => exact ⟨k + 1, mj, by omega, by go_num, rfl, by omega, by omega⟩
                        case measure => simp [intOf]; omega
                  · clear hW2 hF2
                    by_cases h4 : (1048576 : Int) < m2
                    · go_wp2
                      go_ret
                      exact RetB.mk rfl (Below.refl _ _)
                    · by_cases hs : 1048576 < m + m2
                      · go_wp2
                        go_ret
                        exact RetB.mk rfl (Below.refl _ _)
                      · go_wp2
                        go_ret
                        exact RetB.mk rfl (Below.refl _ _)
end Go.Proofs.Qxb6600079a
