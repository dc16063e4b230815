/-
  THE LAW FnEndingStatementsAreReplayable, WALKED: it returns true, and writes nothing that was there.
-/
import Derived.Test.Qxb6600079aEnd
import Derived.Test.Qxb6600079aZrep
namespace Go.Proofs.Qxb6600079a
open Go.RowKit

theorem ne_empty' {a : ByteArray} (h : ¬ a = ⟨#[]⟩) : a.toList.isEmpty = false := by
  rw [ByteArray.toList_eq]
  obtain ⟨⟨l⟩⟩ := a
  cases l with
  | nil => exact absurd rfl h
  | cons _ _ => rfl

theorem isEnd_rep {a : ByteArray} (h : IsEnd a) : IsRep a := by
  unfold IsRep
  rcases h with rfl | rfl | rfl | rfl
  all_goals simp

set_option maxHeartbeats 1000000 in
theorem law11 (a0 a1 a2 a3 a4 : ByteArray) (t : Int) (w : World) (hf : Fit5 a0 a1 a2 a3 a4) :
    Calls Try.prog 11 #[.agg #[.string a0, .string a1, .string a2, .string a3, .string a4], .int .i64 t] w fun e w' => e = .returned (.bool true) ∧ Below w.heap.size w w' := by
  have hF := hid hf
  clear hf
  go_enter Try.func11, Try.ntmps11
  go_wp2_with fail
  refine (bytes34 t a0 a1 a2 a3 a4 _ hF.out).mono ?_
  rintro e w1 ⟨b, rfl, hb⟩
  obtain ⟨hc, hfz⟩ := bcell hb
  have hz : w.heap.size < w1.heap.size := by have := hb.size; simp at this; omega
  have hB1 := hid (((Below.refl w.heap.size w).alloc (Nat.le_refl _) _).trans (hb.mono (by simp)))
  clear hb
  cases b
  · go_wp2
    go_ret
    exact ⟨rfl, hB1.out⟩
  · go_wp2_with fail
    refine (sum5_any a0 a1 a2 a3 a4 _ hF.out).mono ?_
    rintro e w2 ⟨n, rfl, hn0, hn1, hb⟩
    obtain ⟨hc2, hfz2⟩ := bcell hb
    have hz2 : w.heap.size < w2.heap.size := by have := hb.size; omega
    have hB2 := hid (hB1.out.trans (hb.mono (by omega)))
    clear hb hB1 hF
    by_cases hn : 1048576 < n
    · go_wp2
      go_ret
      exact ⟨rfl, hB2.out⟩
    · by_cases ht : t < 1
      · go_wp2
        go_ret
        exact ⟨rfl, hB2.out⟩
      · go_wp2_with fail
        refine (zzend_any a0 a1 a2 a3 a4 t _ (by omega)).mono ?_
        rintro e w3 ⟨v, c, rfl, hv, hb⟩
        obtain ⟨hc3, hfz3⟩ := bcell hb
        have hz3 : w.heap.size < w3.heap.size := by have := hb.size; omega
        have hB3 := hid (hB2.out.trans (hb.mono (by omega)))
        clear hb hB2
        by_cases hv0 : v = ⟨#[]⟩
        · subst hv0
          clear hv
          go_wp2
          go_ret
          exact ⟨rfl, hB3.out⟩
        · have hE : Hid (IsEnd a0) := hv.resolve_right hv0
          have t0 := ne_empty' hv0
          clear hv hv0
          go_wp2_with fail
          refine (zrep_one a0 a1 a2 a3 a4 w3 (isEnd_rep hE.out)).mono ?_
          rintro e w4 ⟨rfl, hb⟩
          have hB4 := hid (hB3.out.trans (hb.mono (by omega)))
          clear hb hB3
          go_wp2
          go_ret
          exact ⟨rfl, hB4.out⟩
end Go.Proofs.Qxb6600079a
