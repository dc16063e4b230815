/-
  THE LAW FnReplayableIsConjunction, WALKED: it returns true, and writes nothing that was there.
-/
import Derived.Test.Qxb6600079aB26
import Derived.Test.Qxb6600079aJn
namespace Go.Proofs.Qxb6600079a
open Go.RowKit

set_option maxHeartbeats 4000000 in
theorem law9 (aw bw : Nat → Words) (au bu : Nat → Bool) (c1 c2 c3 c4 : Option Addr) (n1 m1 n2 m2 k1 k2 k3 k4 : Nat) (w : World) (pn1 : n1 ≤ maxLen) (pm1 : m1 ≤ maxLen) (pn2 : n2 ≤ maxLen) (pm2 : m2 ≤ maxLen)
    (z1 : c1 = none → n1 = 0) (z2 : c2 = none → m1 = 0) (z3 : c3 = none → n2 = 0) (z4 : c4 = none → m2 = 0)
    (HL : Four w c1 c2 c3 c4 n1 m1 n2 m2 aw bw au bu) (HF1 : FitW n1 aw) (HF2 : FitW n2 bw) :
    Calls Try.prog 9 #[.slice c1 n1 k1, .slice c2 m1 k2, .slice c3 n2 k3, .slice c4 m2 k4] w fun e w' => e = .returned (.bool true) ∧ Below w.heap.size w w' := by
  have hL := hid HL
  have hF1 := hid HF1
  have hF2 := hid HF2
  have y1 := hid z1
  have y2 := hid z2
  have y3 := hid z3
  have y4 := hid z4
  have qn1 := hid pn1
  have qm1 := hid pm1
  have qn2 := hid pn2
  have qm2 := hid pm2
  clear HL HF1 HF2 z1 z2 z3 z4
  unfold maxLen at pn1 pm1 pn2 pm2
  go_enter Try.func9, Try.ntmps9
  go_wp2_with fail
  refine (bytes26 aw bw _ _ _ _ _ _ _ _ _ _ _ _ _ qn1.out qm1.out qn2.out qm2.out hL.out.l1 hF1.out hL.out.l3 hF2.out).mono ?_
  rintro e w1 ⟨b, rfl, hb⟩
  have hB1 := hid hb
  clear hb qn1 qm1 qn2 qm2
  cases b
  · go_wp2
    go_ret
    exact ⟨rfl, hB1.out⟩
  by_cases h1 : (65536 : Int) < n1
  · go_wp2
    go_ret
    exact ⟨rfl, hB1.out⟩
  by_cases h2 : (65536 : Int) < m1
  · go_wp2
    go_ret
    exact ⟨rfl, hB1.out⟩
  by_cases h3 : (65536 : Int) < n2
  · go_wp2
    go_ret
    exact ⟨rfl, hB1.out⟩
  by_cases h4 : (65536 : Int) < m2
  · go_wp2
    go_ret
    exact ⟨rfl, hB1.out⟩
  clear pn1 pm1 pn2 pm2
  go_wp2_with fail
  refine (listBytes_any aw _ _ _ _ (by omega) (hL.out.l1.later hB1.out) hF1.out).mono ?_
  rintro e w2 ⟨r1, rfl, hr0, hr1, hb⟩
  have hB2 := hid (hB1.out.trans (hb.mono hB1.out.size))
  clear hb hB1 hF1
  go_wp2_with fail
  refine (listBytes_any bw _ _ _ _ (by omega) (hL.out.l3.later hB2.out) hF2.out).mono ?_
  rintro e w3 ⟨r2, rfl, hs0, hs1, hb⟩
  have hB3 := hid (hB2.out.trans (hb.mono hB2.out.size))
  clear hb hB2 hF2
  by_cases hs : 1048576 < r1 + r2 + 8 * (n1 : Int) + 8 * (n2 : Int) + (m1 : Int) + (m2 : Int)
  · go_wp2
    go_ret
    exact ⟨rfl, hB3.out⟩
  go_wp2_with fail
  refine (copyW_any aw _ _ _ _ (by omega) y1.out (hL.out.l1.later hB3.out)).mono ?_
  rintro e w4 ⟨d1, e1, rfl, hd1, hb⟩
  have hB4 := hid (hB3.out.trans (hb.mono hB3.out.size))
  have hD1 := hid hd1
  clear hb hB3 y1 hd1
  go_wp2_with fail
  refine (copyB_any au _ _ _ _ (by omega) y2.out (hL.out.l2.later hB4.out)).mono ?_
  rintro e w5 ⟨d2, e2, rfl, hd2, hb⟩
  have hB5 := hid (hB4.out.trans (hb.mono hB4.out.size))
  have hD1' := hid (hD1.out.later hb)
  have hD2 := hid hd2
  clear hb hB4 y2 hd2 hD1
  go_wp2_with fail
  refine (copyW_any bw _ _ _ _ (by omega) y3.out (hL.out.l3.later hB5.out)).mono ?_
  rintro e w6 ⟨d3, e3, rfl, hd3, hb⟩
  have hB6 := hid (hB5.out.trans (hb.mono hB5.out.size))
  have hD1 := hid (hD1'.out.later hb)
  have hD2' := hid (hD2.out.later hb)
  have hD3 := hid hd3
  clear hb hB5 y3 hd3 hD1' hD2
  go_wp2_with fail
  refine (copyB_any bu _ _ _ _ (by omega) y4.out (hL.out.l4.later hB6.out)).mono ?_
  rintro e w7 ⟨d4, e4, rfl, hd4, hb⟩
  have hB7 := hid (hB6.out.trans (hb.mono hB6.out.size))
  have hQ7 : Hid (Four w7 d1 d2 d3 d4 n1 m1 n2 m2 aw bw au bu) := ⟨hD1.out.later hb, hD2'.out.later hb, hD3.out.later hb, hd4⟩
  clear hb hB6 y4 hd4 hD1 hD2' hD3 hL
  go_wp2_with fail
  refine (zrep_any aw au none 0 0 none 0 0 _ (by omega) (by omega) (fun i hi => absurd hi (Nat.not_lt_zero _)) (fun i hi => absurd hi (Nat.not_lt_zero _))).mono ?_
  rintro e w8 ⟨r, rfl, hr, hb⟩
  obtain rfl : r = true := hr.2 (fun i hi => absurd hi (Nat.not_lt_zero _))
  have hB8 := hid (hB7.out.trans (hb.mono hB7.out.size))
  have hQ := hid (hQ7.out.later hb)
  clear hb hB7 hQ7 hr
  have g36 := make36c n1 n2 (by omega) (by omega)
  have g37 := make37c n1 n2 (by omega) (by omega)
  go_wp2_with fail
  clear g36 g37
  have b1 : n1 ≤ 65536 := by omega
  have b2 : m1 ≤ 65536 := by omega
  have b3 : n2 ≤ 65536 := by omega
  have b4 : m2 ≤ 65536 := by omega
  clear h1 h2 h3 h4 hs
  generalize decide (1048576 < r1 + r2 + 8 * (n1 : Int) + 8 * (n2 : Int) + (m1 : Int) + (m2 : Int)) = x5
  generalize decide ((65536 : Int) < (n1 : Int)) = x1
  generalize decide ((65536 : Int) < (m1 : Int)) = x2
  generalize decide ((65536 : Int) < (n2 : Int)) = x3
  generalize decide ((65536 : Int) < (m2 : Int)) = x4
  go_loopw [9, 10, 11] (fun s t i wr => ∃ k : Nat, k ≤ n1 ∧ i = .int .i64 k ∧ s = .slice (some ⟨w8.heap.size, 0, none⟩) k (n1 + n2) ∧ t = .slice (some ⟨w8.heap.size + 1, 0, none⟩) k (n1 + n2) ∧ Hid (Own2 w8 wr (n1 + n2) k (jW n1 aw bw) (jU n1 (un m1 au) (un m2 bu)))) (fun _ _ i _ => n1 - (intOf i).toNat)
  case atStart => exact ⟨0, Nat.zero_le _, rfl, rfl, rfl, own2_start w8 (n1 + n2) (by omega) _ _⟩
  case round =>
    obtain ⟨k, hk, rfl, rfl, rfl, hO⟩ := hrel
    by_cases hlt : k < n1
    · obtain ⟨b, off, rfl, g0, g1, g2, g3, g4⟩ := (hQ.out.l1.later hO.out.bel) k hlt
      obtain ⟨i22, i22a, i22b⟩ := info_of22
      obtain ⟨i4, i4a, i4b⟩ := info_of4
      have G22a := hid i22a
      have G22b := hid i22b
      have G4a := hid i4a
      have G4b := hid i4b
      clear i22a i22b i4a i4b
      go_wp2_with (at_builtin; refine wpList_append_fits _ rfl (.tmp 88) (.tmp 93) 36 rfl w8.heap.size 22 i22 5 Try.underlying36 G22a.out G22b.out w8.heap.size k (n1 + n2) _ rfl (hO.out.own1.alloc _) ⟨wr.heap.size, 0, none⟩ 1 1 (five (aw k)) rfl rfl (cells_five wr (aw k) 22) (one_five _) (by omega) ?_; intro w9 hown hgrow)
      have hM := hid (mid_of hO.out (jW_lt hlt) hown hgrow)
      clear hown hgrow hO g0 g1 g2 g3 g4
      refine (unsp_any au _ _ _ _ _ (by omega) (by omega) (hQ.out.l2.later hM.out.bel)).mono ?_
      rintro e w9' ⟨rfl, rfl⟩
      go_wp2_with (at_builtin; refine wpList_append_fits _ rfl (.tmp 95) (.tmp 99) 37 rfl w8.heap.size 4 i4 1 Try.underlying37 G4a.out G4b.out (w8.heap.size + 1) k (n1 + n2) _ rfl (hM.out.own2.alloc _) ⟨w9'.heap.size, 0, none⟩ 1 1 [.bool (un m1 au k)] rfl rfl (cell_one_new _ _ _) (one_bool _) (by omega) ?_; intro w10 hown hgrow)
      have hN := hid (own_of hM.out (jU_lt hlt) hown hgrow)
      clear hown hgrow hM
      go_roundw
      case rel => exact ⟨k + 1, by omega, by go_num, rfl, rfl, hN.out⟩
      case measure => simp [intOf]; omega
    · obtain rfl : n1 = k := by omega
      go_wp2_with fail
      go_loopw [9, 10, 12] (fun s t i wr => ∃ k : Nat, k ≤ n2 ∧ i = .int .i64 k ∧ s = .slice (some ⟨w8.heap.size, 0, none⟩) (n1 + k) (n1 + n2) ∧ t = .slice (some ⟨w8.heap.size + 1, 0, none⟩) (n1 + k) (n1 + n2) ∧ Hid (Own2 w8 wr (n1 + n2) (n1 + k) (jW n1 aw bw) (jU n1 (un m1 au) (un m2 bu)))) (fun _ _ i _ => n2 - (intOf i).toNat)
      case atStart => exact ⟨0, Nat.zero_le _, rfl, rfl, rfl, hO.out⟩
      case round =>
        obtain ⟨k, hk, rfl, rfl, rfl, hO⟩ := hrel
        by_cases hlt : k < n2
        · obtain ⟨b, off, rfl, g0, g1, g2, g3, g4⟩ := (hQ.out.l3.later hO.out.bel) k hlt
          obtain ⟨i22, i22a, i22b⟩ := info_of22
          obtain ⟨i4, i4a, i4b⟩ := info_of4
          have G22a := hid i22a
          have G22b := hid i22b
          have G4a := hid i4a
          have G4b := hid i4b
          clear i22a i22b i4a i4b
          go_wp2_with (at_builtin; refine wpList_append_fits _ rfl (.tmp 107) (.tmp 112) 36 rfl w8.heap.size 22 i22 5 Try.underlying36 G22a.out G22b.out w8.heap.size (n1 + k) (n1 + n2) _ rfl (hO.out.own1.alloc _) ⟨wr.heap.size, 0, none⟩ 1 1 (five (bw k)) rfl rfl (cells_five wr (bw k) 22) (one_five _) (by omega) ?_; intro w9 hown hgrow)
          have hM := hid (mid_of hO.out jW_ge hown hgrow)
          clear hown hgrow hO g0 g1 g2 g3 g4
          refine (unsp_any bu _ _ _ _ _ (by omega) (by omega) (hQ.out.l4.later hM.out.bel)).mono ?_
          rintro e w9' ⟨rfl, rfl⟩
          go_wp2_with (at_builtin; refine wpList_append_fits _ rfl (.tmp 114) (.tmp 118) 37 rfl w8.heap.size 4 i4 1 Try.underlying37 G4a.out G4b.out (w8.heap.size + 1) (n1 + k) (n1 + n2) _ rfl (hM.out.own2.alloc _) ⟨w9'.heap.size, 0, none⟩ 1 1 [.bool (un m2 bu k)] rfl rfl (cell_one_new _ _ _) (one_bool _) (by omega) ?_; intro w10 hown hgrow)
          have hN := hid (own_of hM.out jU_ge hown hgrow)
          clear hown hgrow hM
          go_roundw
          case rel => exact ⟨k + 1, by omega, by go_num, rfl, rfl, hN.out⟩
          case measure => simp [intOf]; omega
        · obtain rfl : n2 = k := by omega
          go_wp2_with fail
          refine (zrep_any (jW n1 aw bw) (jU n1 (un m1 au) (un m2 bu)) _ _ _ _ _ _ _ (by omega) (by omega) (own_ws hO.out.own1) (own_bs hO.out.own2)).mono ?_
          rintro e w11 ⟨q1, rfl, hq1, hb⟩
          have hB11 := hid (hB8.out.trans ((hO.out.bel.trans (hb.mono hO.out.bel.size)).mono hB8.out.size))
          have hR := hid ((hQ.out.later hO.out.bel).later hb)
          have hP := hid (hq1.trans (join_iff n1 n2 m1 m2 aw bw au bu))
          clear hb hO hQ hB8 hq1
          go_wp2_with fail
          refine (zrep_any aw au _ _ _ _ _ _ _ (by omega) (by omega) hR.out.l1 hR.out.l2).mono ?_
          rintro e w12 ⟨q2, rfl, hq2, hb⟩
          have hB12 := hid (hB11.out.trans (hb.mono hB11.out.size))
          have hR2 := hid (hR.out.later hb)
          clear hb hR hB11
          cases q2
          · obtain rfl : q1 = false := by
              cases q1
              · rfl
              · exact absurd (hq2.2 (hP.out.1 rfl).1) (by decide)
            clear hq2 hP hR2
            go_wp2
            go_ret
            exact ⟨rfl, hB12.out⟩
          · have hA := hid (hq2.1 rfl)
            clear hq2
            go_wp2_with fail
            refine (zrep_any bw bu _ _ _ _ _ _ _ (by omega) (by omega) hR2.out.l3 hR2.out.l4).mono ?_
            rintro e w13 ⟨q3, rfl, hq3, hb⟩
            have hB13 := hid (hB12.out.trans (hb.mono hB12.out.size))
            obtain rfl : q1 = q3 := by
              cases q1
              · cases q3
                · rfl
                · exact absurd (hP.out.2 ⟨hA.out, hq3.1 rfl⟩) (by decide)
              · exact (hq3.2 (hP.out.1 rfl).2).symm
            clear hb hq3 hP hA hR2 hB12
            go_wp2
            go_ret
            exact ⟨by simp, hB13.out⟩
end Go.Proofs.Qxb6600079a
