/-
  THE LAW FnAnalysedAcceptsCreateTableAs, WALKED: it returns true, and writes nothing that was there.
-/
import Derived.Test.Qxb6600079aAna
namespace Go.Proofs.Qxb6600079a
open Go.RowKit

/-- zzPersistWord -/
def pw (k : Int) : ByteArray := if k = 0 then ⟨#[71, 76, 79, 66, 65, 76]⟩ else if k = 1 then ⟨#[76, 79, 67, 65, 76]⟩ else if k = 2 then ⟨#[84, 69, 77, 80]⟩ else if k = 3 then ⟨#[84, 69, 77, 80, 79, 82, 65, 82, 89]⟩ else ⟨#[85, 78, 76, 79, 71, 71, 69, 68]⟩

theorem pw_isP (k : Int) : IsP (pw k) := by
  unfold pw IsP
  split
  · exact .inl rfl
  · split
    · exact .inr (.inl rfl)
    · split
      · exact .inr (.inr (.inl rfl))
      · split
        · exact .inr (.inr (.inr (.inl rfl)))
        · exact .inr (.inr (.inr (.inr rfl)))

set_option maxHeartbeats 400000 in
theorem pw_any (k : Int) (w : World) :
    Calls Try.prog 25 #[.int .i64 k] w fun e w' => e = .returned (.string (pw k)) ∧ w' = w := by
  unfold pw
  by_cases h0 : k = 0
  · subst h0
    go_enter Try.func25, Try.ntmps25
    go_wp2
    go_ret
    exact ⟨rfl, rfl⟩
  · by_cases h1 : k = 1
    · subst h1
      go_enter Try.func25, Try.ntmps25
      go_wp2
      go_ret
      exact ⟨rfl, rfl⟩
    · by_cases h2 : k = 2
      · subst h2
        go_enter Try.func25, Try.ntmps25
        go_wp2
        go_ret
        exact ⟨rfl, rfl⟩
      · by_cases h3 : k = 3
        · subst h3
          go_enter Try.func25, Try.ntmps25
          go_wp2
          go_ret
          exact ⟨rfl, rfl⟩
        · rw [if_neg h0, if_neg h1, if_neg h2, if_neg h3]
          go_enter Try.func25, Try.ntmps25
          go_wp2
          go_ret
          exact ⟨rfl, rfl⟩

set_option maxHeartbeats 1000000 in
theorem law8 (c p0 p1 p2 : Int) (mt sa : Bool) (t0 t1 t2 t3 t4 : ByteArray) (w : World) (hf : Fit5 t0 t1 t2 t3 t4)
    (hc0 : 0 ≤ c) (hc1 : c ≤ 255) (hp0 : 0 ≤ p0 ∧ p0 ≤ 255) (hp1 : 0 ≤ p1 ∧ p1 ≤ 255) (hp2 : 0 ≤ p2 ∧ p2 ≤ 255) :
    Calls Try.prog 8 #[.int .u8 c, .agg #[.int .u8 p0, .int .u8 p1, .int .u8 p2], .bool mt, .bool sa, .agg #[.string t0, .string t1, .string t2, .string t3, .string t4]] w fun e w' => e = .returned (.bool true) ∧ Below w.heap.size w w' := by
  have hF := hid hf
  clear hf
  go_enter Try.func8, Try.ntmps8
  go_wp2_with fail
  refine (bytes24 c p0 p1 p2 mt sa t0 t1 t2 t3 t4 _ hF.out).mono ?_
  rintro e w1 ⟨b, rfl, hb⟩
  obtain ⟨hc, hfz⟩ := bcell hb
  have hz : w.heap.size + 2 ≤ w1.heap.size := by have := hb.size; simp at this; omega
  have hz0 : w.heap.size < w1.heap.size := by omega
  have hz1 : w.heap.size + 1 < w1.heap.size := by omega
  have hB1 := hid ((((Below.refl w.heap.size w).alloc (Nat.le_refl _) _).alloc (by simp) _).trans (hb.mono (by simp; omega)))
  clear hb
  cases b
  · go_wp2
    go_ret
    exact ⟨rfl, hB1.out⟩
  · go_wp2_with fail
    refine (sum5_any t0 t1 t2 t3 t4 _ hF.out).mono ?_
    rintro e w2 ⟨n, rfl, hn0, hn1, hb⟩
    obtain ⟨hc2, hfz2⟩ := bcell hb
    have hz2 : w.heap.size + 2 ≤ w2.heap.size := by have := hb.size; omega
    have hz3 : w.heap.size < w2.heap.size := by omega
    have hz4 : w.heap.size + 1 < w2.heap.size := by omega
    have hB2 := hid (hB1.out.trans (hb.mono (by omega)))
    clear hb hB1 hF
    by_cases hn : 1048576 < n
    · go_wp2
      go_ret
      exact ⟨rfl, hB2.out⟩
    · rcases (by omega : c % 4 = 0 ∨ c % 4 = 1 ∨ c % 4 = 2 ∨ c % 4 = 3) with h | h | h | h
      · cases mt
        · go_wp2_with fail
          refine wp_loop_rounds 1 ?_
          rw [rounds_succ]
          go_wp2_with fail
          refine wp_loop_rounds 4 ?_
          rw [rounds_succ]
          go_wp2_with fail
          rw [rounds_succ]
          go_wp2_with fail
          rw [rounds_succ]
          go_wp2_with fail
          rw [rounds_succ]
          go_wp2_with fail
          refine (zzan_create _ _ _ _ sa _ (.inl (.inl rfl))).mono ?_
          rintro e w4 ⟨rfl, hb⟩
          have hB3 := hid ((hB2.out.alloc (by omega) _).trans (hb.mono (by simp; omega)))
          clear hb hB2
          go_wp2
          go_ret
          exact ⟨by simp, hB3.out⟩
        · go_wp2_with fail
          refine wp_loop_rounds 1 ?_
          rw [rounds_succ]
          go_wp2_with fail
          refine wp_loop_rounds 4 ?_
          rw [rounds_succ]
          go_wp2_with fail
          rw [rounds_succ]
          go_wp2_with fail
          rw [rounds_succ]
          go_wp2_with fail
          rw [rounds_succ]
          go_wp2_with fail
          refine (zzan_create _ _ _ _ sa _ (.inl (.inr rfl))).mono ?_
          rintro e w4 ⟨rfl, hb⟩
          have hB3 := hid ((hB2.out.alloc (by omega) _).trans (hb.mono (by simp; omega)))
          clear hb hB2
          go_wp2
          go_ret
          exact ⟨by simp, hB3.out⟩
      · cases mt
        · go_wp2_with fail
          refine wp_loop_rounds 2 ?_
          rw [rounds_succ]
          go_wp2_with (go_at_call 25; refine (pw_any _ _).mono ?_; rintro e w3 ⟨rfl, rfl⟩)
          rw [rounds_succ]
          go_wp2_with fail
          refine wp_loop_rounds 3 ?_
          rw [rounds_succ]
          go_wp2_with fail
          rw [rounds_succ]
          go_wp2_with fail
          rw [rounds_succ]
          go_wp2_with fail
          refine (zzan_create _ _ _ _ sa _ (.inr ⟨pw_isP _, .inl (.inl rfl)⟩)).mono ?_
          rintro e w4 ⟨rfl, hb⟩
          have hB3 := hid ((hB2.out.alloc (by omega) _).trans (hb.mono (by simp; omega)))
          clear hb hB2
          go_wp2
          go_ret
          exact ⟨by simp, hB3.out⟩
        · go_wp2_with fail
          refine wp_loop_rounds 2 ?_
          rw [rounds_succ]
          go_wp2_with (go_at_call 25; refine (pw_any _ _).mono ?_; rintro e w3 ⟨rfl, rfl⟩)
          rw [rounds_succ]
          go_wp2_with fail
          refine wp_loop_rounds 3 ?_
          rw [rounds_succ]
          go_wp2_with fail
          rw [rounds_succ]
          go_wp2_with fail
          rw [rounds_succ]
          go_wp2_with fail
          refine (zzan_create _ _ _ _ sa _ (.inr ⟨pw_isP _, .inl (.inr rfl)⟩)).mono ?_
          rintro e w4 ⟨rfl, hb⟩
          have hB3 := hid ((hB2.out.alloc (by omega) _).trans (hb.mono (by simp; omega)))
          clear hb hB2
          go_wp2
          go_ret
          exact ⟨by simp, hB3.out⟩
      · cases mt
        · go_wp2_with fail
          refine wp_loop_rounds 3 ?_
          rw [rounds_succ]
          go_wp2_with (go_at_call 25; refine (pw_any _ _).mono ?_; rintro e w3 ⟨rfl, rfl⟩)
          rw [rounds_succ]
          go_wp2_with (go_at_call 25; refine (pw_any _ _).mono ?_; rintro e w3 ⟨rfl, rfl⟩)
          rw [rounds_succ]
          go_wp2_with fail
          refine wp_loop_rounds 2 ?_
          rw [rounds_succ]
          go_wp2_with fail
          rw [rounds_succ]
          go_wp2_with fail
          refine (zzan_create _ _ _ _ sa _ (.inr ⟨pw_isP _, .inr ⟨pw_isP _, .inl (.inl rfl)⟩⟩)).mono ?_
          rintro e w4 ⟨rfl, hb⟩
          have hB3 := hid ((hB2.out.alloc (by omega) _).trans (hb.mono (by simp; omega)))
          clear hb hB2
          go_wp2
          go_ret
          exact ⟨by simp, hB3.out⟩
        · go_wp2_with fail
          refine wp_loop_rounds 3 ?_
          rw [rounds_succ]
          go_wp2_with (go_at_call 25; refine (pw_any _ _).mono ?_; rintro e w3 ⟨rfl, rfl⟩)
          rw [rounds_succ]
          go_wp2_with (go_at_call 25; refine (pw_any _ _).mono ?_; rintro e w3 ⟨rfl, rfl⟩)
          rw [rounds_succ]
          go_wp2_with fail
          refine wp_loop_rounds 2 ?_
          rw [rounds_succ]
          go_wp2_with fail
          rw [rounds_succ]
          go_wp2_with fail
          refine (zzan_create _ _ _ _ sa _ (.inr ⟨pw_isP _, .inr ⟨pw_isP _, .inl (.inr rfl)⟩⟩)).mono ?_
          rintro e w4 ⟨rfl, hb⟩
          have hB3 := hid ((hB2.out.alloc (by omega) _).trans (hb.mono (by simp; omega)))
          clear hb hB2
          go_wp2
          go_ret
          exact ⟨by simp, hB3.out⟩
      · cases mt
        · go_wp2_with fail
          refine wp_loop_rounds 4 ?_
          rw [rounds_succ]
          go_wp2_with (go_at_call 25; refine (pw_any _ _).mono ?_; rintro e w3 ⟨rfl, rfl⟩)
          rw [rounds_succ]
          go_wp2_with (go_at_call 25; refine (pw_any _ _).mono ?_; rintro e w3 ⟨rfl, rfl⟩)
          rw [rounds_succ]
          go_wp2_with (go_at_call 25; refine (pw_any _ _).mono ?_; rintro e w3 ⟨rfl, rfl⟩)
          rw [rounds_succ]
          go_wp2_with fail
          refine wp_loop_rounds 1 ?_
          rw [rounds_succ]
          go_wp2_with fail
          refine (zzan_create _ _ _ _ sa _ (.inr ⟨pw_isP _, .inr ⟨pw_isP _, .inr ⟨pw_isP _, .inl rfl⟩⟩⟩)).mono ?_
          rintro e w4 ⟨rfl, hb⟩
          have hB3 := hid ((hB2.out.alloc (by omega) _).trans (hb.mono (by simp; omega)))
          clear hb hB2
          go_wp2
          go_ret
          exact ⟨by simp, hB3.out⟩
        · go_wp2_with fail
          refine wp_loop_rounds 4 ?_
          rw [rounds_succ]
          go_wp2_with (go_at_call 25; refine (pw_any _ _).mono ?_; rintro e w3 ⟨rfl, rfl⟩)
          rw [rounds_succ]
          go_wp2_with (go_at_call 25; refine (pw_any _ _).mono ?_; rintro e w3 ⟨rfl, rfl⟩)
          rw [rounds_succ]
          go_wp2_with (go_at_call 25; refine (pw_any _ _).mono ?_; rintro e w3 ⟨rfl, rfl⟩)
          rw [rounds_succ]
          go_wp2_with fail
          refine wp_loop_rounds 1 ?_
          rw [rounds_succ]
          go_wp2_with fail
          refine (zzan_create _ _ _ _ sa _ (.inr ⟨pw_isP _, .inr ⟨pw_isP _, .inr ⟨pw_isP _, .inr rfl⟩⟩⟩)).mono ?_
          rintro e w4 ⟨rfl, hb⟩
          have hB3 := hid ((hB2.out.alloc (by omega) _).trans (hb.mono (by simp; omega)))
          clear hb hB2
          go_wp2
          go_ret
          exact ⟨by simp, hB3.out⟩
end Go.Proofs.Qxb6600079a
