/-
  THE LAW FnEndingAcceptsEveryEndingSentence, WALKED: it returns true, and writes nothing that was there.
-/
import Derived.Test.Qxb6600079aSen
namespace Go.Proofs.Qxb6600079a
open Go.RowKit

set_option maxHeartbeats 4000000 in
theorem law3 (x y z : Int) (t0 t1 t2 t3 t4 : ByteArray) (w : World) (hf : Fit5 t0 t1 t2 t3 t4) (hx0 : 0 ≤ x) (hx1 : x ≤ 255) (hy0 : 0 ≤ y) (hy1 : y ≤ 255) (hz0 : 0 ≤ z) (hz1 : z ≤ 255) :
    Calls Try.prog 3 #[.int .u8 x, .int .u8 y, .int .u8 z, .agg #[.string t0, .string t1, .string t2, .string t3, .string t4]] w fun e w' => e = .returned (.bool true) ∧ Below w.heap.size w w' := by
  have hF := hid hf
  clear hf
  go_enter Try.func3, Try.ntmps3
  go_wp2_with fail
  refine (bytes13 x y z t0 t1 t2 t3 t4 _ hF.out).mono ?_
  rintro e w1 ⟨b, rfl, hb⟩
  obtain ⟨hc, hfz⟩ := bcell hb
  have hs1 : w.heap.size < w1.heap.size := by have := hb.size; simp at this; omega
  have hB1 := hid (((Below.refl w.heap.size w).alloc (Nat.le_refl _) _).trans (hb.mono (by simp)))
  clear hb
  cases b
  · go_wp2
    go_ret
    exact ⟨rfl, hB1.out⟩
  · go_wp2_with fail
    refine (sum5_any t0 t1 t2 t3 t4 _ hF.out).mono ?_
    rintro e w2 ⟨n, rfl, hn0, hn1, hb⟩
    obtain ⟨hc2, hfz2⟩ := bcell hb
    have hs2 : w.heap.size < w2.heap.size := by have := hb.size; omega
    have hB2 := hid (hB1.out.trans (hb.mono (by omega)))
    clear hb hB1 hF
    by_cases hn : 1048576 < n
    · go_wp2
      go_ret
      exact ⟨rfl, hB2.out⟩
    · rcases (by omega : y % 3 = 0 ∨ y % 3 = 1 ∨ y % 3 = 2) with hy | hy | hy
      · rcases (by omega : z % 3 = 0 ∨ z % 3 = 1 ∨ z % 3 = 2) with hz | hz | hz
        · go_wp2_with fail
          refine (sent00 (x % 4) _).mono ?_
          rintro e w3 ⟨rfl, hb⟩
          obtain ⟨hc3, hfz3⟩ := bcell hb
          have hs3 : w.heap.size < w3.heap.size := by have := hb.size; omega
          have hB3 := hid (hB2.out.trans (hb.mono (by omega)))
          clear hb hB2
          go_wp2_with fail
          refine wp_loop_rounds 5 ?_
          rw [rounds_succ]
          go_wp2_with fail
          rw [rounds_succ]
          go_wp2_with fail
          rw [rounds_succ]
          go_wp2_with fail
          rw [rounds_succ]
          go_wp2_with fail
          rw [rounds_succ]
          go_wp2_with fail
          refine (zzend00 (vw (x % 4)) t1 t2 t3 t4 (vo (x % 4)) _ (endV_of _ (by omega))).mono ?_
          rintro e w4 ⟨rfl, hb⟩
          have hB4 := hid ((hB3.out.alloc (by omega) _).trans (hb.mono (by simp; omega)))
          clear hb hB3
          go_wp2_with (go_at_call 17; refine (vo_any _ _).mono ?_; rintro e w5 ⟨rfl, rfl⟩)
          go_ret
          exact ⟨by simp, hB4.out⟩
        · go_wp2_with fail
          refine (sent01 (x % 4) _).mono ?_
          rintro e w3 ⟨rfl, hb⟩
          obtain ⟨hc3, hfz3⟩ := bcell hb
          have hs3 : w.heap.size < w3.heap.size := by have := hb.size; omega
          have hB3 := hid (hB2.out.trans (hb.mono (by omega)))
          clear hb hB2
          go_wp2_with fail
          refine wp_loop_rounds 3 ?_
          rw [rounds_succ]
          go_wp2_with fail
          rw [rounds_succ]
          go_wp2_with fail
          rw [rounds_succ]
          go_wp2_with fail
          refine (zzend01 (vw (x % 4)) t3 t4 (vo (x % 4)) _ (endV_of _ (by omega))).mono ?_
          rintro e w4 ⟨rfl, hb⟩
          have hB4 := hid ((hB3.out.alloc (by omega) _).trans (hb.mono (by simp; omega)))
          clear hb hB3
          go_wp2_with (go_at_call 17; refine (vo_any _ _).mono ?_; rintro e w5 ⟨rfl, rfl⟩)
          go_ret
          exact ⟨by simp, hB4.out⟩
        · go_wp2_with fail
          refine (sent02 (x % 4) _).mono ?_
          rintro e w3 ⟨rfl, hb⟩
          obtain ⟨hc3, hfz3⟩ := bcell hb
          have hs3 : w.heap.size < w3.heap.size := by have := hb.size; omega
          have hB3 := hid (hB2.out.trans (hb.mono (by omega)))
          clear hb hB2
          go_wp2_with fail
          refine wp_loop_rounds 2 ?_
          rw [rounds_succ]
          go_wp2_with fail
          rw [rounds_succ]
          go_wp2_with fail
          refine (zzend02 (vw (x % 4)) t4 (vo (x % 4)) _ (endV_of _ (by omega))).mono ?_
          rintro e w4 ⟨rfl, hb⟩
          have hB4 := hid ((hB3.out.alloc (by omega) _).trans (hb.mono (by simp; omega)))
          clear hb hB3
          go_wp2_with (go_at_call 17; refine (vo_any _ _).mono ?_; rintro e w5 ⟨rfl, rfl⟩)
          go_ret
          exact ⟨by simp, hB4.out⟩
      · rcases (by omega : z % 3 = 0 ∨ z % 3 = 1 ∨ z % 3 = 2) with hz | hz | hz
        · go_wp2_with fail
          refine (sent10 (x % 4) _).mono ?_
          rintro e w3 ⟨rfl, hb⟩
          obtain ⟨hc3, hfz3⟩ := bcell hb
          have hs3 : w.heap.size < w3.heap.size := by have := hb.size; omega
          have hB3 := hid (hB2.out.trans (hb.mono (by omega)))
          clear hb hB2
          go_wp2_with fail
          refine wp_loop_rounds 4 ?_
          rw [rounds_succ]
          go_wp2_with fail
          rw [rounds_succ]
          go_wp2_with fail
          rw [rounds_succ]
          go_wp2_with fail
          rw [rounds_succ]
          go_wp2_with fail
          refine (zzend10 (vw (x % 4)) t2 t3 t4 (vo (x % 4)) _ (endV_of _ (by omega))).mono ?_
          rintro e w4 ⟨rfl, hb⟩
          have hB4 := hid ((hB3.out.alloc (by omega) _).trans (hb.mono (by simp; omega)))
          clear hb hB3
          go_wp2_with (go_at_call 17; refine (vo_any _ _).mono ?_; rintro e w5 ⟨rfl, rfl⟩)
          go_ret
          exact ⟨by simp, hB4.out⟩
        · go_wp2_with fail
          refine (sent11 (x % 4) _).mono ?_
          rintro e w3 ⟨rfl, hb⟩
          obtain ⟨hc3, hfz3⟩ := bcell hb
          have hs3 : w.heap.size < w3.heap.size := by have := hb.size; omega
          have hB3 := hid (hB2.out.trans (hb.mono (by omega)))
          clear hb hB2
          go_wp2_with fail
          refine wp_loop_rounds 2 ?_
          rw [rounds_succ]
          go_wp2_with fail
          rw [rounds_succ]
          go_wp2_with fail
          refine (zzend11 (vw (x % 4)) t4 (vo (x % 4)) _ (endV_of _ (by omega))).mono ?_
          rintro e w4 ⟨rfl, hb⟩
          have hB4 := hid ((hB3.out.alloc (by omega) _).trans (hb.mono (by simp; omega)))
          clear hb hB3
          go_wp2_with (go_at_call 17; refine (vo_any _ _).mono ?_; rintro e w5 ⟨rfl, rfl⟩)
          go_ret
          exact ⟨by simp, hB4.out⟩
        · go_wp2_with fail
          refine (sent12 (x % 4) _).mono ?_
          rintro e w3 ⟨rfl, hb⟩
          obtain ⟨hc3, hfz3⟩ := bcell hb
          have hs3 : w.heap.size < w3.heap.size := by have := hb.size; omega
          have hB3 := hid (hB2.out.trans (hb.mono (by omega)))
          clear hb hB2
          go_wp2_with fail
          refine wp_loop_rounds 1 ?_
          rw [rounds_succ]
          go_wp2_with fail
          refine (zzend12 (vw (x % 4)) (vo (x % 4)) _ (endV_of _ (by omega))).mono ?_
          rintro e w4 ⟨rfl, hb⟩
          have hB4 := hid ((hB3.out.alloc (by omega) _).trans (hb.mono (by simp; omega)))
          clear hb hB3
          go_wp2_with (go_at_call 17; refine (vo_any _ _).mono ?_; rintro e w5 ⟨rfl, rfl⟩)
          go_ret
          exact ⟨by simp, hB4.out⟩
      · rcases (by omega : z % 3 = 0 ∨ z % 3 = 1 ∨ z % 3 = 2) with hz | hz | hz
        · go_wp2_with fail
          refine (sent20 (x % 4) _).mono ?_
          rintro e w3 ⟨rfl, hb⟩
          obtain ⟨hc3, hfz3⟩ := bcell hb
          have hs3 : w.heap.size < w3.heap.size := by have := hb.size; omega
          have hB3 := hid (hB2.out.trans (hb.mono (by omega)))
          clear hb hB2
          go_wp2_with fail
          refine wp_loop_rounds 4 ?_
          rw [rounds_succ]
          go_wp2_with fail
          rw [rounds_succ]
          go_wp2_with fail
          rw [rounds_succ]
          go_wp2_with fail
          rw [rounds_succ]
          go_wp2_with fail
          refine (zzend20 (vw (x % 4)) t2 t3 t4 (vo (x % 4)) _ (endV_of _ (by omega))).mono ?_
          rintro e w4 ⟨rfl, hb⟩
          have hB4 := hid ((hB3.out.alloc (by omega) _).trans (hb.mono (by simp; omega)))
          clear hb hB3
          go_wp2_with (go_at_call 17; refine (vo_any _ _).mono ?_; rintro e w5 ⟨rfl, rfl⟩)
          go_ret
          exact ⟨by simp, hB4.out⟩
        · go_wp2_with fail
          refine (sent21 (x % 4) _).mono ?_
          rintro e w3 ⟨rfl, hb⟩
          obtain ⟨hc3, hfz3⟩ := bcell hb
          have hs3 : w.heap.size < w3.heap.size := by have := hb.size; omega
          have hB3 := hid (hB2.out.trans (hb.mono (by omega)))
          clear hb hB2
          go_wp2_with fail
          refine wp_loop_rounds 2 ?_
          rw [rounds_succ]
          go_wp2_with fail
          rw [rounds_succ]
          go_wp2_with fail
          refine (zzend21 (vw (x % 4)) t4 (vo (x % 4)) _ (endV_of _ (by omega))).mono ?_
          rintro e w4 ⟨rfl, hb⟩
          have hB4 := hid ((hB3.out.alloc (by omega) _).trans (hb.mono (by simp; omega)))
          clear hb hB3
          go_wp2_with (go_at_call 17; refine (vo_any _ _).mono ?_; rintro e w5 ⟨rfl, rfl⟩)
          go_ret
          exact ⟨by simp, hB4.out⟩
        · go_wp2_with fail
          refine (sent22 (x % 4) _).mono ?_
          rintro e w3 ⟨rfl, hb⟩
          obtain ⟨hc3, hfz3⟩ := bcell hb
          have hs3 : w.heap.size < w3.heap.size := by have := hb.size; omega
          have hB3 := hid (hB2.out.trans (hb.mono (by omega)))
          clear hb hB2
          go_wp2_with fail
          refine wp_loop_rounds 1 ?_
          rw [rounds_succ]
          go_wp2_with fail
          refine (zzend22 (vw (x % 4)) (vo (x % 4)) _ (endV_of _ (by omega))).mono ?_
          rintro e w4 ⟨rfl, hb⟩
          have hB4 := hid ((hB3.out.alloc (by omega) _).trans (hb.mono (by simp; omega)))
          clear hb hB3
          go_wp2_with (go_at_call 17; refine (vo_any _ _).mono ?_; rintro e w5 ⟨rfl, rfl⟩)
          go_ret
          exact ⟨by simp, hB4.out⟩
end Go.Proofs.Qxb6600079a
