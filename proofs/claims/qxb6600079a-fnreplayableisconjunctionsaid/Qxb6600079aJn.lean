/-
  TWO LISTS JOINED BY append: plain facts: what a row of words and a row of bools hold behind k rounds; and what 'replayable' says of the join.
-/
import Derived.Test.Qxb6600079aLst
namespace Go.Proofs.Qxb6600079a
open Go.RowKit

/-- The join of two lists, the first of length n. -/
def jW (n : Nat) (aw bw : Nat → Words) (i : Nat) : Words := if i < n then aw i else bw (i - n)
def jU (n : Nat) (u v : Nat → Bool) (i : Nat) : Bool := if i < n then u i else v (i - n)
theorem jW_lt {n i : Nat} {aw bw : Nat → Words} (h : i < n) : jW n aw bw i = aw i := if_pos h
theorem jU_lt {n i : Nat} {u v : Nat → Bool} (h : i < n) : jU n u v i = u i := if_pos h
theorem jW_ge {n k : Nat} {aw bw : Nat → Words} : jW n aw bw (n + k) = bw k := by unfold jW; rw [if_neg (by omega), Nat.add_sub_cancel_left]
theorem jU_ge {n k : Nat} {u v : Nat → Bool} : jU n u v (n + k) = v k := by unfold jU; rw [if_neg (by omega), Nat.add_sub_cancel_left]

def five (s : Words) : List Value := [.string s.a0, .string s.a1, .string s.a2, .string s.a3, .string s.a4]
def flatW (cw : Nat → Words) : Nat → List Value
  | 0 => []
  | k + 1 => flatW cw k ++ five (cw k)
def flatB (cu : Nat → Bool) : Nat → List Value
  | 0 => []
  | k + 1 => flatB cu k ++ [.bool (cu k)]

theorem flatW_len (cw : Nat → Words) : ∀ k, (flatW cw k).length = k * 5
  | 0 => rfl
  | k + 1 => by rw [flatW, List.length_append, flatW_len cw k]; simp only [five, List.length_cons, List.length_nil]; omega
theorem flatB_len (cu : Nat → Bool) : ∀ k, (flatB cu k).length = k
  | 0 => rfl
  | k + 1 => by rw [flatB, List.length_append, flatB_len cu k]; simp only [List.length_cons, List.length_nil]

theorem flatW_get (cw : Nat → Words) (i j : Nat) (hj : j < 5) : ∀ k, i < k → (flatW cw k)[i * 5 + j]? = (five (cw i))[j]?
  | 0, h => absurd h (Nat.not_lt_zero _)
  | k + 1, h => by
    rw [flatW]
    by_cases e : i = k
    · subst e
      rw [List.getElem?_append_right (by rw [flatW_len]; omega), flatW_len]
      congr 1
      omega
    · rw [List.getElem?_append_left (by rw [flatW_len]; omega)]
      exact flatW_get cw i j hj k (by omega)
theorem flatB_get (cu : Nat → Bool) (i : Nat) : ∀ k, i < k → (flatB cu k)[i]? = some (.bool (cu i))
  | 0, h => absurd h (Nat.not_lt_zero _)
  | k + 1, h => by
    rw [flatB]
    by_cases e : i = k
    · subst e
      rw [List.getElem?_append_right (by rw [flatB_len]; omega), flatB_len]
      simp
    · rw [List.getElem?_append_left (by rw [flatB_len]; omega)]
      exact flatB_get cu i k (by omega)

theorem own_ws {w : World} {base g n cap : Nat} {cw : Nat → Words} (h : w.ownsRow base 22 5 (.slice (some ⟨g, 0, none⟩) n cap) n (flatW cw n)) : IsWs w (some ⟨g, 0, none⟩) n cw := by
  intro i hi
  have c : ∀ j, j < 5 → w.cell? ⟨g, 0 + i * 5 + j, none⟩ = (five (cw i))[j]? := by
    intro j hj
    rw [Nat.zero_add, h.cellAt _ (by omega), flatW_get cw i j hj n hi]
  exact ⟨g, 0, rfl, c 0 (by omega), c 1 (by omega), c 2 (by omega), c 3 (by omega), c 4 (by omega)⟩
theorem own_bs {w : World} {base g n cap : Nat} {cu : Nat → Bool} (h : w.ownsRow base 4 1 (.slice (some ⟨g, 0, none⟩) n cap) n (flatB cu n)) : IsBs w (some ⟨g, 0, none⟩) n cu := by
  intro i hi
  exact ⟨g, 0, rfl, by rw [Nat.zero_add, h.cellAt _ (by omega), flatB_get cu i n hi]⟩

/-- The join is replayable exactly when both parts are. -/
theorem join_iff (n1 n2 m1 m2 : Nat) (aw bw : Nat → Words) (au bu : Nat → Bool) :
    (∀ i, i < n1 + n2 → OkS (jW n1 aw bw i) (un (n1 + n2) (jU n1 (un m1 au) (un m2 bu)) i)) ↔ ((∀ i, i < n1 → OkS (aw i) (un m1 au i)) ∧ (∀ i, i < n2 → OkS (bw i) (un m2 bu i))) := by
  constructor
  · intro h
    refine ⟨fun i hi => ?_, fun i hi => ?_⟩
    · have := h i (by omega)
      rw [un_lt (by omega), jW_lt hi, jU_lt hi] at this
      exact this
    · have := h (n1 + i) (by omega)
      rw [un_lt (by omega), jW_ge, jU_ge] at this
      exact this
  · intro h i hi
    rw [un_lt hi]
    by_cases e : i < n1
    · rw [jW_lt e, jU_lt e]
      exact h.1 i e
    · obtain ⟨k, rfl⟩ : ∃ k, i = n1 + k := ⟨i - n1, by omega⟩
      rw [jW_ge, jU_ge]
      exact h.2 k (by omega)

theorem info_of22 : ∃ i, Try.prog.info? 22 = some i ∧ i.size = 5 := by obtain ⟨i, h2, _, h4, _⟩ := info_parts info22; exact ⟨i, h2, h4⟩
theorem info_of4 : ∃ i, Try.prog.info? 4 = some i ∧ i.size = 1 := by obtain ⟨i, h2, _, h4, _⟩ := info_parts info4; exact ⟨i, h2, h4⟩

theorem make36c (n1 n2 : Nat) (h1 : n1 ≤ 65536) (h2 : n2 ≤ 65536) (w : World) : (Instr.makeSlice 36 (.int .i64 0) (.int .i64 ((n1 : Int) + (n2 : Int)))).run Try.prog w = .ok (.slice (some ⟨w.heap.size, 0, none⟩) 0 (n1 + n2)) (w.alloc (.cells (madeW (n1 + n2)) 22)) := by
  obtain ⟨i, g2, g3, g4, g5⟩ := info_parts info22
  have h := run_make (P := Try.prog) w 36 22 i z5 Try.underlying36 g2 g3 .i64 .i64 0 ((n1 : Int) + (n2 : Int)) (by omega) (by omega) (by rw [g5]; omega) (by omega)
  rw [g4, show ((n1 : Int) + (n2 : Int)).toNat = n1 + n2 from by omega] at h
  exact h
theorem make37c (n1 n2 : Nat) (h1 : n1 ≤ 65536) (h2 : n2 ≤ 65536) (w : World) : (Instr.makeSlice 37 (.int .i64 0) (.int .i64 ((n1 : Int) + (n2 : Int)))).run Try.prog w = .ok (.slice (some ⟨w.heap.size, 0, none⟩) 0 (n1 + n2)) (w.alloc (.cells (madeB (n1 + n2)) 4)) := by
  obtain ⟨i, g2, g3, g4, g5⟩ := info_parts info4
  have h := run_make (P := Try.prog) w 37 4 i (.bool false) Try.underlying37 g2 g3 .i64 .i64 0 ((n1 : Int) + (n2 : Int)) (by omega) (by omega) (by rw [g5]; omega) (by omega)
  rw [g4, show ((n1 : Int) + (n2 : Int)).toNat = n1 + n2 from by omega] at h
  exact h

/-- The four lists in a later world. -/
structure Four (w : World) (c1 c2 c3 c4 : Option Addr) (n1 m1 n2 m2 : Nat) (aw bw : Nat → Words) (au bu : Nat → Bool) : Prop where
  l1 : IsWs w c1 n1 aw
  l2 : IsBs w c2 m1 au
  l3 : IsWs w c3 n2 bw
  l4 : IsBs w c4 m2 bu
theorem Four.later {w wx : World} {c1 c2 c3 c4 : Option Addr} {n1 m1 n2 m2 : Nat} {aw bw : Nat → Words} {au bu : Nat → Bool} (h : Four w c1 c2 c3 c4 n1 m1 n2 m2 aw bw au bu) (hb : Below w.heap.size w wx) : Four wx c1 c2 c3 c4 n1 m1 n2 m2 aw bw au bu :=
  ⟨h.l1.later hb, h.l2.later hb, h.l3.later hb, h.l4.later hb⟩

/-- What the two rows hold behind t appends. -/
structure Own2 (w wr : World) (N t : Nat) (cw : Nat → Words) (cu : Nat → Bool) : Prop where
  bel : Below w.heap.size w wr
  own1 : wr.ownsRow w.heap.size 22 5 (.slice (some ⟨w.heap.size, 0, none⟩) t N) t (flatW cw t)
  own2 : wr.ownsRow w.heap.size 4 1 (.slice (some ⟨w.heap.size + 1, 0, none⟩) t N) t (flatB cu t)

theorem own2_start (w : World) (N : Nat) (hN : N ≤ 131072) (cw : Nat → Words) (cu : Nat → Bool) : Own2 w ((w.alloc (.cells (madeW N) 22)).alloc (.cells (madeB N) 4)) N 0 cw cu := by
  have hm : N ≤ maxLen := by unfold maxLen; omega
  have o1 := World.ownsRow_made (base := w.heap.size) (e := 22) (size := 5) w (madeW N) N (Nat.le_refl _) hm (madeW_size N)
  have o2 := World.ownsRow_made (base := w.heap.size) (e := 4) (size := 1) (w.alloc (.cells (madeW N) 22)) (madeB N) N (by simp) hm (by rw [madeB_size]; omega)
  refine ⟨((Below.refl _ _).alloc (Nat.le_refl _) _).alloc (by simp) _, o1.kept (World.grownBy_alloc _ _ none) (.inr (by simp [Value.ownBlock])), ?_⟩
  simpa [flatB] using o2

theorem cells_five (w : World) (s : Words) (t : TypeId) : ∀ j u, (five s)[j]? = some u → (w.alloc (.cells #[.string s.a0, .string s.a1, .string s.a2, .string s.a3, .string s.a4] t)).cell? ((⟨w.heap.size, 0, none⟩ : Addr).add j) = some u := by
  intro j u h
  rw [Addr.add_lit, Nat.zero_add, World.cell?_alloc_new]
  rw [← h]
  simp [five]
theorem one_five (s : Words) : ∀ u ∈ five s, u.oneCell' = true := by
  intro u hu
  simp only [five, List.mem_cons, List.not_mem_nil, or_false] at hu
  rcases hu with rfl | rfl | rfl | rfl | rfl <;> rfl
theorem one_bool (b : Bool) : ∀ u ∈ [Value.bool b], u.oneCell' = true := by
  intro u hu
  simp only [List.mem_cons, List.not_mem_nil, or_false] at hu
  subst hu
  rfl

/-- Behind the append of an element to the first row. -/
structure Mid (w w9 : World) (N t : Nat) (cw : Nat → Words) (cu : Nat → Bool) : Prop where
  bel : Below w.heap.size w w9
  own1 : w9.ownsRow w.heap.size 22 5 (.slice (some ⟨w.heap.size, 0, none⟩) (t + 1) N) (t + 1) (flatW cw (t + 1))
  own2 : w9.ownsRow w.heap.size 4 1 (.slice (some ⟨w.heap.size + 1, 0, none⟩) t N) t (flatB cu t)

theorem mid_of {w wr w9 : World} {N t : Nat} {cw : Nat → Words} {cu : Nat → Bool} {s : Words} {X : Obj} (h : Own2 w wr N t cw cu) (hs : cw t = s)
    (ho : w9.ownsRow w.heap.size 22 5 (.slice (some ⟨w.heap.size, 0, none⟩) (t + 1) N) (t + 1) (flatW cw t ++ five s)) (hg : (wr.alloc X).grownBy w9 (some w.heap.size)) : Mid w w9 N t cw cu := by
  have hsz := h.bel.size
  refine ⟨(h.bel.alloc hsz X).grown hg (by simp; omega) (fun k hk => by cases hk; exact Nat.le_refl _), ?_, (h.own2.alloc X).kept hg (.inr (by simp [Value.ownBlock]))⟩
  rw [flatW, hs]
  exact ho

theorem own_of {w w9 w10 : World} {N t : Nat} {cw : Nat → Words} {cu : Nat → Bool} {v : Bool} {X : Obj} (h : Mid w w9 N t cw cu) (hs : cu t = v)
    (ho : w10.ownsRow w.heap.size 4 1 (.slice (some ⟨w.heap.size + 1, 0, none⟩) (t + 1) N) (t + 1) (flatB cu t ++ [.bool v])) (hg : (w9.alloc X).grownBy w10 (some (w.heap.size + 1))) : Own2 w w10 N (t + 1) cw cu := by
  have hsz := h.bel.size
  refine ⟨(h.bel.alloc hsz X).grown hg (by simp; omega) (fun k hk => by cases hk; omega), (h.own1.alloc X).kept hg (.inr (by simp [Value.ownBlock])), ?_⟩
  rw [flatB, hs]
  exact ho
end Go.Proofs.Qxb6600079a
