/-
  THE LAW FnAnalysedQueriesAreReplayable, WALKED: it returns true, and writes nothing that was there.
-/
import Derived.Test.Qxb6600079aAna
import Derived.Test.Qxb6600079aZrep
namespace Go.Proofs.Qxb6600079a
open Go.RowKit

/-- the empty word, DECLARE, CALL, CREATE -/
def IsX (a : ByteArray) : Prop := a = ⟨#[]⟩ ∨ a = ⟨#[68, 69, 67, 76, 65, 82, 69]⟩ ∨ a = ⟨#[67, 65, 76, 76]⟩ ∨ a = ⟨#[67, 82, 69, 65, 84, 69]⟩

theorem ne_empty {a : ByteArray} (h : ¬ a = ⟨#[]⟩) : a.toList.isEmpty = false := by
  rw [ByteArray.toList_eq]
  obtain ⟨⟨l⟩⟩ := a
  cases l with
  | nil => exact absurd rfl h
  | cons _ _ => rfl

theorem isQ_rep {a : ByteArray} (h : IsQ a) : IsRep a := by
  unfold IsRep
  rcases h with rfl | rfl | rfl | rfl | rfl | rfl | rfl | rfl | rfl
  all_goals simp

/-- The tests that a query's first word passes. -/
theorem isQ_no {a : ByteArray} (h : IsQ a) : a.toList.isEmpty = false ∧ (a.toList == [68, 69, 67, 76, 65, 82, 69]) = false ∧ (a.toList == [67, 65, 76, 76]) = false ∧ (a.toList == [67, 82, 69, 65, 84, 69]) = false := by
  rcases h with rfl | rfl | rfl | rfl | rfl | rfl | rfl | rfl | rfl
  all_goals (rw [ByteArray.toList_eq]; exact ⟨rfl, rfl, rfl, rfl⟩)

theorem noQ {a : ByteArray} (h : ¬ IsQ a) (hx : ¬ IsX a) : NoQ a := by
  unfold IsQ at h
  unfold IsX at hx
  simp only [not_or] at h hx
  obtain ⟨q0, q1, q2, q3, q4, q5, q6, q7, q8⟩ := h
  obtain ⟨x0, x1, x2, x3⟩ := hx
  exact ⟨ne_lit _ q0, ne_lit _ q1, ne_lit _ q2, ne_lit _ q3, ne_lit _ q4, ne_lit _ q5, ne_lit _ q6, ne_lit _ q7, ne_empty x0, ne_lit _ x1, ne_lit _ q8, ne_lit _ x2, ne_lit _ x3⟩

set_option maxHeartbeats 1000000 in
theorem law12 (a0 a1 a2 a3 a4 : ByteArray) (sa : Bool) (w : World) (hf : Fit5 a0 a1 a2 a3 a4) :
    Calls Try.prog 12 #[.agg #[.string a0, .string a1, .string a2, .string a3, .string a4], .bool sa] w fun e w' => e = .returned (.bool true) ∧ Below w.heap.size w w' := by
  have hF := hid hf
  clear hf
  go_enter Try.func12, Try.ntmps12
  go_wp2_with fail
  refine (bytes35 sa a0 a1 a2 a3 a4 _ hF.out).mono ?_
  rintro e w1 ⟨b, rfl, hb⟩
  obtain ⟨hc, hfz⟩ := bcell hb
  have hz : w.heap.size < w1.heap.size := by have := hb.size; simp at this; omega
  have hB1 := hid (((Below.refl w.heap.size w).alloc (Nat.le_refl _) _).trans (hb.mono (by simp)))
  clear hb
  cases b
  · go_wp2
    go_ret
    exact ⟨rfl, hB1.out⟩
  · go_wp2_with fail
    refine (sum5_any a0 a1 a2 a3 a4 _ hF.out).mono ?_
    rintro e w2 ⟨n, rfl, hn0, hn1, hb⟩
    obtain ⟨hc2, hfz2⟩ := bcell hb
    have hz2 : w.heap.size < w2.heap.size := by have := hb.size; omega
    have hB2 := hid (hB1.out.trans (hb.mono (by omega)))
    clear hb hB1 hF
    by_cases hn : 1048576 < n
    · go_wp2
      go_ret
      exact ⟨rfl, hB2.out⟩
    · by_cases hx : IsX a0
      · rcases hx with rfl | rfl | rfl | rfl
        all_goals
          go_wp2
          go_ret
          exact ⟨rfl, hB2.out⟩
      · by_cases hq : IsQ a0
        · have hQ := hid hq
          obtain ⟨t0, t1, t2, t3⟩ := isQ_no hq
          clear hq hx
          go_wp2_with fail
          refine (zzan_query a0 a1 a2 a3 a4 sa _ hQ.out).mono ?_
          rintro e w3 ⟨rfl, hb⟩
          obtain ⟨hc3, hfz3⟩ := bcell hb
          have hz3 : w.heap.size < w3.heap.size := by have := hb.size; omega
          have hB3 := hid (hB2.out.trans (hb.mono (by omega)))
          clear hb hB2
          go_wp2_with fail
          refine (zrep_one a0 a1 a2 a3 a4 w3 (isQ_rep hQ.out)).mono ?_
          rintro e w4 ⟨rfl, hb⟩
          have hB4 := hid (hB3.out.trans (hb.mono (by omega)))
          clear hb hB3
          go_wp2
          go_ret
          exact ⟨rfl, hB4.out⟩
        · have hN := hid (noQ hq hx)
          obtain ⟨_, _, _, _, _, _, _, _, t0, t1, _, t2, t3⟩ := noQ hq hx
          clear hq hx
          go_wp2_with fail
          refine (zzan_no a0 a1 a2 a3 a4 sa _ hN.out).mono ?_
          rintro e w3 ⟨rfl, hb⟩
          have hB3 := hid (hB2.out.trans (hb.mono (by omega)))
          clear hb hB2
          go_wp2
          go_ret
          exact ⟨rfl, hB3.out⟩
end Go.Proofs.Qxb6600079a
