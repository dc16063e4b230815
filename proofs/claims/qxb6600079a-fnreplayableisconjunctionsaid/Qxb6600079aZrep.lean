/-
  ZZReplayable: statement i bears words[i] and unspelled[i] (false where that list is shorter); the answer is 'replayable's.
-/
import Derived.Test.Qxb6600079aRep
namespace Go.Proofs.Qxb6600079a
open Go.RowKit

/-- The zero value of a statement. -/
def zSt : Value := .agg #[.int .i64 0, .int .i64 0, .int .i64 0, .int .i64 0, .string ⟨#[]⟩, .string ⟨#[]⟩, .string ⟨#[]⟩, .string ⟨#[]⟩, .string ⟨#[]⟩, .int .i64 0, .bool false, .slice none 0 0, .bool false]
theorem info49 : (Try.prog.info? 49).map (fun i => (i.zero, i.size, i.bytes)) = some (some zSt, 13, 160) := by kernel_rfl

def madeSt (n : Nat) : Array Value := madeCells zSt.cells (n * 13)
theorem make49 (n : Nat) (hn : n ≤ 131072) (w : World) : (Instr.makeSlice 52 (.int .i64 (n : Int)) (.int .i64 (n : Int))).run Try.prog w = .ok (.slice (some ⟨w.heap.size, 0, none⟩) n n) (w.alloc (.cells (madeSt n) 49)) := by
  obtain ⟨i, h2, h3, h4, h5⟩ := info_parts info49
  have h := run_make (P := Try.prog) w 52 49 i zSt Try.underlying52 h2 h3 .i64 .i64 (n : Int) (n : Int) (by omega) (by omega) (by rw [h5]; omega) (by omega)
  rw [h4] at h
  unfold madeSt
  simpa using h

theorem madeSt_get (n i j : Nat) (hi : i < n) (hj : j < 13) : (madeSt n)[i * 13 + j]? = zSt.cells[j]? := by
  have e1 : i * 13 + j < n * 13 := by omega
  have e2 : (i * 13 + j) % 13 = j := by omega
  have e3 : zSt.cells.size = 13 := rfl
  unfold madeSt madeCells
  rw [Array.getElem?_map, Array.getElem?_range, if_pos e1]
  simp only [Option.map_some, e3, e2]
  match j, hj with
  | 0, _ => rfl
  | 1, _ => rfl
  | 2, _ => rfl
  | 3, _ => rfl
  | 4, _ => rfl
  | 5, _ => rfl
  | 6, _ => rfl
  | 7, _ => rfl
  | 8, _ => rfl
  | 9, _ => rfl
  | 10, _ => rfl
  | 11, _ => rfl
  | 12, _ => rfl

/-- Five empty words. -/
def zW : Words := ⟨⟨#[]⟩, ⟨#[]⟩, ⟨#[]⟩, ⟨#[]⟩, ⟨#[]⟩⟩

/-- Element i of a list of words. -/
structure WAt (w : World) (b off i : Nat) (s : Words) : Prop where
  c0 : w.cell? ⟨b, off + i * 5, none⟩ = some (.string s.a0)
  c1 : w.cell? ⟨b, off + i * 5 + 1, none⟩ = some (.string s.a1)
  c2 : w.cell? ⟨b, off + i * 5 + 2, none⟩ = some (.string s.a2)
  c3 : w.cell? ⟨b, off + i * 5 + 3, none⟩ = some (.string s.a3)
  c4 : w.cell? ⟨b, off + i * 5 + 4, none⟩ = some (.string s.a4)

/-- unspelled[i], false where the list is shorter -/
def un (m : Nat) (u : Nat → Bool) (i : Nat) : Bool := if i < m then u i else false

/-- k statements are laid, the others are as they were made. -/
structure Inv (wr : World) (B n k : Nat) (aw : Nat → Words) (u : Nat → Bool) : Prop where
  st : ∀ i, i < n → StAt wr B i (if i < k then aw i else zW) (if i < k then u i else false)
  fz : ∀ o, wr.frozen? ⟨B, o, none⟩ = false

theorem inv_start (w : World) (n : Nat) (aw : Nat → Words) (u : Nat → Bool) : Inv (w.alloc (.cells (madeSt n) 49)) w.heap.size n 0 aw u := by
  refine ⟨fun i hi => ?_, fun o => World.frozen?_alloc_new ..⟩
  simp only [Nat.not_lt_zero, if_false]
  have g : ∀ j, j < 13 → (w.alloc (.cells (madeSt n) 49)).cell? ⟨w.heap.size, i * 13 + j, none⟩ = zSt.cells[j]? := by
    intro j hj
    rw [World.cell?_alloc_new, madeSt_get n i j hi hj]
  exact ⟨g 0 (by omega), g 1 (by omega), g 2 (by omega), g 3 (by omega), g 4 (by omega), g 5 (by omega), g 6 (by omega), g 7 (by omega), g 8 (by omega), g 9 (by omega), g 10 (by omega), g 11 (by omega), g 12 (by omega)⟩

theorem cell_set (w : World) (B o o' : Nat) (v : Value) {x : Value} (h : w.cell? ⟨B, o', none⟩ = some x) : (w.setCell ⟨B, o, none⟩ v).cell? ⟨B, o', none⟩ = some (if o = o' then v else x) := by
  by_cases e : o = o'
  · subst e
    rw [if_pos rfl]
    exact World.cell?_setCell_same _ _ _ h
  · rw [if_neg e]
    rw [World.cell?_setCell_other _ _ _ _ (by intro hh; apply e; injection hh)]
    exact h

/-- The world behind the store of the five words of statement k. -/
def set5 (wr : World) (B k : Nat) (s : Words) : World :=
  ((((wr.setCell ⟨B, k * 13 + 4, none⟩ (.string s.a0)).setCell ⟨B, k * 13 + 4 + 1, none⟩ (.string s.a1)).setCell ⟨B, k * 13 + 4 + 2, none⟩ (.string s.a2)).setCell ⟨B, k * 13 + 4 + 3, none⟩ (.string s.a3)).setCell ⟨B, k * 13 + 4 + 4, none⟩ (.string s.a4)

theorem cell_set5 (wr : World) (B k o' : Nat) (s : Words) {x : Value} (h : wr.cell? ⟨B, o', none⟩ = some x) :
    (set5 wr B k s).cell? ⟨B, o', none⟩ = some (if k * 13 + 8 = o' then .string s.a4 else if k * 13 + 7 = o' then .string s.a3 else if k * 13 + 6 = o' then .string s.a2 else if k * 13 + 5 = o' then .string s.a1 else if k * 13 + 4 = o' then .string s.a0 else x) :=
  cell_set _ _ _ _ _ (cell_set _ _ _ _ _ (cell_set _ _ _ _ _ (cell_set _ _ _ _ _ (cell_set _ _ _ _ _ h))))

theorem frozen_set5 (wr : World) (B k : Nat) (s : Words) (a : Addr) : (set5 wr B k s).frozen? a = wr.frozen? a := by
  unfold set5
  simp only [World.frozen?_setCell]

/-- Another statement stays. -/
theorem st_set5_other {wr : World} {B k i : Nat} {s t : Words} {u : Bool} (hne : i ≠ k) (h : StAt wr B i t u) : StAt (set5 wr B k s) B i t u := by
  obtain ⟨c0, c1, c2, c3, c4, c5, c6, c7, c8, c9, c10, c11, c12⟩ := h
  refine ⟨(cell_set5 wr B k _ s c0).trans ?_, (cell_set5 wr B k _ s c1).trans ?_, (cell_set5 wr B k _ s c2).trans ?_, (cell_set5 wr B k _ s c3).trans ?_, (cell_set5 wr B k _ s c4).trans ?_, (cell_set5 wr B k _ s c5).trans ?_, (cell_set5 wr B k _ s c6).trans ?_, (cell_set5 wr B k _ s c7).trans ?_, (cell_set5 wr B k _ s c8).trans ?_, (cell_set5 wr B k _ s c9).trans ?_, (cell_set5 wr B k _ s c10).trans ?_, (cell_set5 wr B k _ s c11).trans ?_, (cell_set5 wr B k _ s c12).trans ?_⟩
  all_goals (rw [if_neg (by omega), if_neg (by omega), if_neg (by omega), if_neg (by omega), if_neg (by omega)])

/-- Statement k has its words. -/
theorem st_set5_same {wr : World} {B k : Nat} {s t : Words} {u : Bool} (h : StAt wr B k t u) : StAt (set5 wr B k s) B k s u := by
  obtain ⟨c0, c1, c2, c3, c4, c5, c6, c7, c8, c9, c10, c11, c12⟩ := h
  refine ⟨(cell_set5 wr B k _ s c0).trans ?_, (cell_set5 wr B k _ s c1).trans ?_, (cell_set5 wr B k _ s c2).trans ?_, (cell_set5 wr B k _ s c3).trans ?_, (cell_set5 wr B k _ s c4).trans ?_, (cell_set5 wr B k _ s c5).trans ?_, (cell_set5 wr B k _ s c6).trans ?_, (cell_set5 wr B k _ s c7).trans ?_, (cell_set5 wr B k _ s c8).trans ?_, (cell_set5 wr B k _ s c9).trans ?_, (cell_set5 wr B k _ s c10).trans ?_, (cell_set5 wr B k _ s c11).trans ?_, (cell_set5 wr B k _ s c12).trans ?_⟩
  · rw [if_neg (by omega), if_neg (by omega), if_neg (by omega), if_neg (by omega), if_neg (by omega)]
  · rw [if_neg (by omega), if_neg (by omega), if_neg (by omega), if_neg (by omega), if_neg (by omega)]
  · rw [if_neg (by omega), if_neg (by omega), if_neg (by omega), if_neg (by omega), if_neg (by omega)]
  · rw [if_neg (by omega), if_neg (by omega), if_neg (by omega), if_neg (by omega), if_neg (by omega)]
  · rw [if_neg (by omega), if_neg (by omega), if_neg (by omega), if_neg (by omega), if_pos rfl]
  · rw [if_neg (by omega), if_neg (by omega), if_neg (by omega), if_pos rfl]
  · rw [if_neg (by omega), if_neg (by omega), if_pos rfl]
  · rw [if_neg (by omega), if_pos rfl]
  · rw [if_pos rfl]
  · rw [if_neg (by omega), if_neg (by omega), if_neg (by omega), if_neg (by omega), if_neg (by omega)]
  · rw [if_neg (by omega), if_neg (by omega), if_neg (by omega), if_neg (by omega), if_neg (by omega)]
  · rw [if_neg (by omega), if_neg (by omega), if_neg (by omega), if_neg (by omega), if_neg (by omega)]
  · rw [if_neg (by omega), if_neg (by omega), if_neg (by omega), if_neg (by omega), if_neg (by omega)]

theorem st_set1 {wr : World} {B k i : Nat} {t : Words} {u : Bool} (v : Bool) (h : StAt wr B i t u) : StAt (wr.setCell ⟨B, k * 13 + 12, none⟩ (.bool v)) B i t (if i = k then v else u) := by
  obtain ⟨c0, c1, c2, c3, c4, c5, c6, c7, c8, c9, c10, c11, c12⟩ := h
  refine ⟨(cell_set wr B _ _ _ c0).trans ?_, (cell_set wr B _ _ _ c1).trans ?_, (cell_set wr B _ _ _ c2).trans ?_, (cell_set wr B _ _ _ c3).trans ?_, (cell_set wr B _ _ _ c4).trans ?_, (cell_set wr B _ _ _ c5).trans ?_, (cell_set wr B _ _ _ c6).trans ?_, (cell_set wr B _ _ _ c7).trans ?_, (cell_set wr B _ _ _ c8).trans ?_, (cell_set wr B _ _ _ c9).trans ?_, (cell_set wr B _ _ _ c10).trans ?_, (cell_set wr B _ _ _ c11).trans ?_, (cell_set wr B _ _ _ c12).trans ?_⟩
  · rw [if_neg (by omega)]
  · rw [if_neg (by omega)]
  · rw [if_neg (by omega)]
  · rw [if_neg (by omega)]
  · rw [if_neg (by omega)]
  · rw [if_neg (by omega)]
  · rw [if_neg (by omega)]
  · rw [if_neg (by omega)]
  · rw [if_neg (by omega)]
  · rw [if_neg (by omega)]
  · rw [if_neg (by omega)]
  · rw [if_neg (by omega)]
  · by_cases e : i = k
    · subst e
      rw [if_pos rfl, if_pos rfl]
    · rw [if_neg (by omega), if_neg e]

/-- A round that lays the words and leaves 'unspelled' at false. -/
theorem inv_step0 {wr : World} {B n k : Nat} {aw : Nat → Words} {u : Nat → Bool} (h : Inv wr B n k aw u) (hu : u k = false) : Inv (set5 wr B k (aw k)) B n (k + 1) aw u := by
  refine ⟨fun i hi => ?_, fun o => (frozen_set5 ..).trans (h.fz o)⟩
  by_cases e : i = k
  · subst e
    have := h.st i hi
    simp only [Nat.lt_irrefl, if_false] at this
    rw [if_pos (by omega), if_pos (by omega), hu]
    exact st_set5_same this
  · have := h.st i hi
    by_cases hlt : i < k
    · rw [if_pos hlt, if_pos hlt] at this
      rw [if_pos (by omega), if_pos (by omega)]
      exact st_set5_other e this
    · rw [if_neg hlt, if_neg hlt] at this
      rw [if_neg (by omega), if_neg (by omega)]
      exact st_set5_other e this

/-- A round that lays both. -/
theorem inv_step1 {wr : World} {B n k : Nat} {aw : Nat → Words} {u : Nat → Bool} (h : Inv wr B n k aw u) : Inv ((set5 wr B k (aw k)).setCell ⟨B, k * 13 + 12, none⟩ (.bool (u k))) B n (k + 1) aw u := by
  refine ⟨fun i hi => ?_, fun o => (World.frozen?_setCell ..).trans ((frozen_set5 ..).trans (h.fz o))⟩
  by_cases e : i = k
  · subst e
    have := h.st i hi
    simp only [Nat.lt_irrefl, if_false] at this
    have g := st_set1 (k := i) (u i) (st_set5_same (s := aw i) this)
    rw [if_pos rfl] at g
    rw [if_pos (by omega), if_pos (by omega)]
    exact g
  · have := h.st i hi
    by_cases hlt : i < k
    · rw [if_pos hlt, if_pos hlt] at this
      have g := st_set1 (k := k) (u k) (st_set5_other (s := aw k) e this)
      rw [if_neg e] at g
      rw [if_pos (by omega), if_pos (by omega)]
      exact g
    · rw [if_neg hlt, if_neg hlt] at this
      have g := st_set1 (k := k) (u k) (st_set5_other (s := aw k) e this)
      rw [if_neg e] at g
      rw [if_neg (by omega), if_neg (by omega)]
      exact g

theorem below_set5 {w wr : World} {k : Nat} (s : Words) (h : Below w.heap.size w wr) : Below w.heap.size w (set5 wr w.heap.size k s) :=
  ((((h.setCell (Nat.le_refl _) _).setCell (Nat.le_refl _) _).setCell (Nat.le_refl _) _).setCell (Nat.le_refl _) _).setCell (Nat.le_refl _) _

theorem RetIff.back {w wr w' : World} {P : Prop} {r : Bool} {e : Ending} (he : e = .returned (.bool r)) (h : (r = true ↔ P) ∧ Below wr.heap.size wr w') (hb : Below w.heap.size w wr) : RetIff w P e w' :=
  ⟨r, he, h.1, hb.trans (h.2.mono hb.size)⟩

theorem un_lt {m i : Nat} {u : Nat → Bool} (h : i < m) : un m u i = u i := if_pos h
theorem un_ge {m i : Nat} {u : Nat → Bool} (h : ¬ i < m) : un m u i = false := if_neg h

theorem inv_done {wr : World} {B n : Nat} {aw : Nat → Words} {u : Nat → Bool} (h : Inv wr B n n aw u) : ∀ i, i < n → StAt wr B i (aw i) (u i) := by
  intro i hi
  have := h.st i hi
  rw [if_pos hi, if_pos hi] at this
  exact this

set_option maxHeartbeats 1000000 in
theorem zrep_any (aw : Nat → Words) (u : Nat → Bool) (a : Option Addr) (n cap : Nat) (c : Option Addr) (m cap' : Nat) (w : World) (hn : n ≤ 131072) (_hm : m ≤ 131072)
    (HW : ∀ i, i < n → ∃ b off, a = some ⟨b, off, none⟩ ∧ WAt w b off i (aw i)) (HU : ∀ i, i < m → ∃ b off, c = some ⟨b, off, none⟩ ∧ w.cell? ⟨b, off + i, none⟩ = some (.bool (u i))) :
    Calls Try.prog 30 #[.slice a n cap, .slice c m cap'] w fun e w' => RetIff w (∀ i, i < n → OkS (aw i) (un m u i)) e w' := by
  have hW := hid HW
  have hU := hid HU
  clear HW HU
  have hmk := make49 n hn
  go_enter Try.func30, Try.ntmps30
  go_wp2
  go_loopw [6] (fun i wr => ∃ k : Nat, k ≤ n ∧ i = .int .i64 k ∧ Hid (Below w.heap.size w wr) ∧ Hid (Inv wr w.heap.size n k aw (un m u))) (fun i _ => n - (intOf i).toNat)
  case atStart => exact ⟨0, Nat.zero_le _, rfl, (Below.refl _ _).alloc (Nat.le_refl _) _, inv_start w n aw _⟩
  case round =>
    clear hmk
    obtain ⟨k, hk, rfl, hb, hI⟩ := hrel
    by_cases hlt : k < n
    · obtain ⟨b, off, rfl, g0, g1, g2, g3, g4⟩ := hW.out k hlt
      replace g0 := cell_later hb.out g0
      replace g1 := cell_later hb.out g1
      replace g2 := cell_later hb.out g2
      replace g3 := cell_later hb.out g3
      replace g4 := cell_later hb.out g4
      obtain ⟨_, _, _, _, z0, z1, z2, z3, z4, _, _, _, z5⟩ := hI.out.st k hlt
      have f0 := hI.out.fz (k * 13 + 4)
      have f1 : wr.frozen? ⟨w.heap.size, k * 13 + 4 + 1, none⟩ = false := hI.out.fz _
      have f2 : wr.frozen? ⟨w.heap.size, k * 13 + 4 + 2, none⟩ = false := hI.out.fz _
      have f3 : wr.frozen? ⟨w.heap.size, k * 13 + 4 + 3, none⟩ = false := hI.out.fz _
      have f4 : wr.frozen? ⟨w.heap.size, k * 13 + 4 + 4, none⟩ = false := hI.out.fz _
      have f5 := hI.out.fz (k * 13 + 12)
      obtain ⟨x0, y0⟩ : ∃ x, wr.cell? ⟨w.heap.size, k * 13 + 4, none⟩ = some x := ⟨_, z0⟩
      obtain ⟨x1, y1⟩ : ∃ x, wr.cell? ⟨w.heap.size, k * 13 + 4 + 1, none⟩ = some x := ⟨_, z1⟩
      obtain ⟨x2, y2⟩ : ∃ x, wr.cell? ⟨w.heap.size, k * 13 + 4 + 2, none⟩ = some x := ⟨_, z2⟩
      obtain ⟨x3, y3⟩ : ∃ x, wr.cell? ⟨w.heap.size, k * 13 + 4 + 3, none⟩ = some x := ⟨_, z3⟩
      obtain ⟨x4, y4⟩ : ∃ x, wr.cell? ⟨w.heap.size, k * 13 + 4 + 4, none⟩ = some x := ⟨_, z4⟩
      obtain ⟨x5, y5⟩ : ∃ x, wr.cell? ⟨w.heap.size, k * 13 + 12, none⟩ = some x := ⟨_, z5⟩
      clear z0 z1 z2 z3 z4 z5
      by_cases hkm : k < m
      · obtain ⟨b', off', rfl, gu⟩ := hU.out k hkm
        have hlu : b' < w.heap.size := World.block_lt_of_cell? _ _ gu
        replace gu := cell_later hb.out gu
        have hne : ¬ w.heap.size = b' := by omega
        have hne' : ¬ b' = w.heap.size := by omega
        have hJ := inv_step1 hI.out
        rw [un_lt hkm] at hJ
        have hK := hid hJ
        clear hJ hI hW hU
        go_wp2
        go_roundw
        case rel => exact ⟨k + 1, by omega, by go_num, (below_set5 (aw k) hb.out).setCell (Nat.le_refl _) _, hK.out⟩
        case measure => simp [intOf]; omega
      · have hK := hid (inv_step0 hI.out (un_ge hkm))
        clear hI hW hU
        go_wp2
        go_roundw
        case rel => exact ⟨k + 1, by omega, by go_num, below_set5 (aw k) hb.out, hK.out⟩
        case measure => simp [intOf]; omega
    · have e : k = n := by omega
      subst e
      have hs := hid (inv_done hI.out)
      clear hI hW hU
      go_wp2_with fail
      refine (rep_any aw (un m u) _ _ _ hn hs.out).mono ?_
      rintro e w1 ⟨r, rfl, hr⟩
      have hR := hid hr
      clear hr
      go_wp2
      go_ret
      exact RetIff.back rfl hR.out hb.out

/-- One statement, spelled, with a first word of the list. -/
theorem zrep_one (a0 a1 a2 a3 a4 : ByteArray) (w : World) (h : IsRep a0) :
    Calls Try.prog 30 #[.slice (some ⟨w.heap.size, 0, none⟩) 1 1, .slice (some ⟨w.heap.size + 1, 0, none⟩) 1 1] ((w.alloc (.cells #[.string a0, .string a1, .string a2, .string a3, .string a4] 22)).alloc (.cells #[.bool false] 4)) fun e w' => e = .returned (.bool true) ∧ Below w.heap.size w w' := by
  refine (zrep_any (fun _ => ⟨a0, a1, a2, a3, a4⟩) (fun _ => false) _ 1 1 _ 1 1 _ (by omega) (by omega) (fun i hi => ?_) (fun i hi => ?_)).mono ?_
  · obtain rfl : i = 0 := by omega
    exact ⟨_, _, rfl, by simp, by simp, by simp, by simp, by simp⟩
  · obtain rfl : i = 0 := by omega
    exact ⟨_, _, rfl, by simp [World.cell?_alloc_at]⟩
  · rintro e w' ⟨r, rfl, hr, hb⟩
    have hr' : r = true := hr.2 (fun i hi => by
      refine ⟨?_, .inl h⟩
      unfold un
      split <;> rfl)
    subst hr'
    exact ⟨rfl, (((Below.refl _ _).alloc (Nat.le_refl _) _).alloc (by simp) _).trans (hb.mono (by simp; omega))⟩
end Go.Proofs.Qxb6600079a
