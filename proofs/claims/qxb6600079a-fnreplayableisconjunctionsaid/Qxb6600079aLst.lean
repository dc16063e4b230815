/-
  LISTS OF WORDS AND OF BOOLS THAT CAME IN, OR THAT THE LAW HAS COPIED: zzUnsp, zzCopyBools, zzCopyWords, zzListBytes.
-/
import Derived.Test.Qxb6600079aZrep
import Derived.Lib.SliceRun
namespace Go.Proofs.Qxb6600079a
open Go.RowKit

def IsWs (w : World) (a : Option Addr) (n : Nat) (aw : Nat → Words) : Prop := ∀ i, i < n → ∃ b off, a = some ⟨b, off, none⟩ ∧ WAt w b off i (aw i)
def IsBs (w : World) (c : Option Addr) (m : Nat) (u : Nat → Bool) : Prop := ∀ i, i < m → ∃ b off, c = some ⟨b, off, none⟩ ∧ w.cell? ⟨b, off + i, none⟩ = some (.bool (u i))
def FitW (n : Nat) (aw : Nat → Words) : Prop := ∀ i, i < n → Fit5 (aw i).a0 (aw i).a1 (aw i).a2 (aw i).a3 (aw i).a4

theorem IsWs.later {w wx : World} {a : Option Addr} {n : Nat} {aw : Nat → Words} (h : IsWs w a n aw) (hb : Below w.heap.size w wx) : IsWs wx a n aw := by
  intro i hi
  obtain ⟨b, off, e, g0, g1, g2, g3, g4⟩ := h i hi
  exact ⟨b, off, e, cell_later hb g0, cell_later hb g1, cell_later hb g2, cell_later hb g3, cell_later hb g4⟩
theorem IsBs.later {w wx : World} {c : Option Addr} {m : Nat} {u : Nat → Bool} (h : IsBs w c m u) (hb : Below w.heap.size w wx) : IsBs wx c m u := by
  intro i hi
  obtain ⟨b, off, e, g⟩ := h i hi
  exact ⟨b, off, e, cell_later hb g⟩

set_option maxHeartbeats 400000 in
theorem unsp_any (u : Nat → Bool) (c : Option Addr) (m cap i : Nat) (w : World) (_hm : m ≤ 65536) (_hi : i ≤ 131072) (HU : IsBs w c m u) :
    Calls Try.prog 31 #[.slice c m cap, .int .i64 (i : Int)] w fun e w' => e = .returned (.bool (un m u i)) ∧ w' = w := by
  by_cases h : i < m
  · obtain ⟨b, off, rfl, g⟩ := HU i h
    rw [un_lt h]
    clear HU
    go_enter Try.func31, Try.ntmps31
    go_wp2
    go_ret
    exact ⟨rfl, rfl⟩
  · rw [un_ge h]
    clear HU
    go_enter Try.func31, Try.ntmps31
    go_wp2
    go_ret
    exact ⟨rfl, rfl⟩

/-! ### zzCopyBools -/
def RetBs (w : World) (u : Nat → Bool) (m : Nat) (e : Ending) (w' : World) : Prop := ∃ c cap, e = .returned (.slice c m cap) ∧ IsBs w' c m u ∧ Below w.heap.size w w'
theorem RetBs.mk {w w' : World} {u : Nat → Bool} {m : Nat} {e : Ending} {c : Option Addr} {cap : Nat} (he : e = .returned (.slice c m cap)) (h : IsBs w' c m u) (hb : Below w.heap.size w w') : RetBs w u m e w' := ⟨c, cap, he, h, hb⟩

theorem info4 : (Try.prog.info? 4).map (fun i => (i.zero, i.size, i.bytes)) = some (some (.bool false), 1, 1) := by kernel_rfl
def madeB (m : Nat) : Array Value := madeCells (Value.bool false).cells (m * 1)
theorem madeB_size (m : Nat) : (madeB m).size = m := by unfold madeB; rw [size_madeCells]; omega
theorem make37 (m : Nat) (hm : m ≤ 131072) (w : World) : (Instr.makeSlice 37 (.int .i64 (m : Int)) (.int .i64 (m : Int))).run Try.prog w = .ok (.slice (some ⟨w.heap.size, 0, none⟩) m m) (w.alloc (.cells (madeB m) 4)) := by
  obtain ⟨i, h2, h3, h4, h5⟩ := info_parts info4
  have h := run_make (P := Try.prog) w 37 4 i (.bool false) Try.underlying37 h2 h3 .i64 .i64 (m : Int) (m : Int) (by omega) (by omega) (by rw [h5]; omega) (by omega)
  rw [h4] at h
  unfold madeB
  simpa using h

/-- k bools are copied into the row in block B. -/
structure InvB (wr : World) (B m k : Nat) (u : Nat → Bool) : Prop where
  st : ∀ i, i < k → wr.cell? ⟨B, i, none⟩ = some (.bool (u i))
  ex : ∀ i, i < m → ∃ x, wr.cell? ⟨B, i, none⟩ = some x
  fz : ∀ o, wr.frozen? ⟨B, o, none⟩ = false

theorem invB_start (w : World) (m : Nat) (u : Nat → Bool) : InvB (w.alloc (.cells (madeB m) 4)) w.heap.size m 0 u := by
  refine ⟨fun i hi => absurd hi (Nat.not_lt_zero _), fun i hi => ?_, fun o => World.frozen?_alloc_new ..⟩
  rw [World.cell?_alloc_new]
  exact ⟨_, Array.getElem?_eq_getElem (by rw [madeB_size]; exact hi)⟩

theorem invB_step {wr : World} {B m k : Nat} {u : Nat → Bool} (h : InvB wr B m k u) (hk : k < m) : InvB (wr.setCell ⟨B, k, none⟩ (.bool (u k))) B m (k + 1) u := by
  refine ⟨fun i hi => ?_, fun i hi => ?_, fun o => (World.frozen?_setCell ..).trans (h.fz o)⟩
  · by_cases e : i = k
    · subst e
      obtain ⟨x, hx⟩ := h.ex i hk
      rw [cell_set _ _ _ _ _ hx, if_pos rfl]
    · rw [cell_set _ _ _ _ _ (h.st i (by omega)), if_neg (by omega)]
  · obtain ⟨x, hx⟩ := h.ex i hi
    exact ⟨_, cell_set _ _ _ _ _ hx⟩

theorem invB_done {wr : World} {B m : Nat} {u : Nat → Bool} (h : InvB wr B m m u) : IsBs wr (some ⟨B, 0, none⟩) m u := by
  intro i hi
  exact ⟨B, 0, rfl, by rw [Nat.zero_add]; exact h.st i hi⟩

set_option maxHeartbeats 1000000 in
theorem copyB_any (u : Nat → Bool) (c : Option Addr) (m cap : Nat) (w : World) (hm : m ≤ 65536) (hnil : c = none → m = 0) (HU : IsBs w c m u) :
    Calls Try.prog 29 #[.slice c m cap] w fun e w' => RetBs w u m e w' := by
  have q37 : ∀ (w : World) (a : Option Addr) (n c n' c' : Nat), (binOp .eql 37 (.slice a n c) (.slice none n' c')).run Try.prog w = .ok (.bool a.isNone) w := fun w a n c n' c' => Lib.run_eql_slice_nil w _ _ a n c n' c' Try.underlying37
  have hU := hid HU
  clear HU
  cases c with
  | none =>
    obtain rfl := hnil rfl
    clear hnil
    go_enter Try.func29, Try.ntmps29
    go_wp2
    go_ret
    exact RetBs.mk rfl (fun i hi => absurd hi (Nat.not_lt_zero _)) (Below.refl _ _)
  | some ad =>
    clear hnil
    have hmk := make37 m (by omega)
    go_enter Try.func29, Try.ntmps29
    go_wp2
    go_loopw [4] (fun i wr => ∃ k : Nat, k ≤ m ∧ i = .int .i64 k ∧ Hid (Below w.heap.size w wr) ∧ Hid (InvB wr w.heap.size m k u)) (fun i _ => m - (intOf i).toNat)
    case atStart => exact ⟨0, Nat.zero_le _, rfl, (Below.refl _ _).alloc (Nat.le_refl _) _, invB_start w m u⟩
    case round =>
      clear hmk q37
      obtain ⟨k, hk, rfl, hb, hI⟩ := hrel
      by_cases hlt : k < m
      · obtain ⟨b, off, e, g⟩ := hU.out k hlt
        obtain rfl := Option.some.inj e
        clear e
        replace g := cell_later hb.out g
        obtain ⟨x, hx⟩ := hI.out.ex k hlt
        have f0 := hI.out.fz k
        have hK := hid (invB_step hI.out hlt)
        clear hI hU
        go_wp2
        go_roundw
        case rel => exact ⟨k + 1, by omega, by go_num, hb.out.setCell (Nat.le_refl _) _, hK.out⟩
        case measure => simp [intOf]; omega
      · have e : k = m := by omega
        subst e
        clear hU
        go_wp2
        go_ret
        exact RetBs.mk rfl (invB_done hI.out) hb.out

/-! ### zzCopyWords -/
def RetWs (w : World) (aw : Nat → Words) (n : Nat) (e : Ending) (w' : World) : Prop := ∃ c cap, e = .returned (.slice c n cap) ∧ IsWs w' c n aw ∧ Below w.heap.size w w'
theorem RetWs.mk {w w' : World} {aw : Nat → Words} {n : Nat} {e : Ending} {c : Option Addr} {cap : Nat} (he : e = .returned (.slice c n cap)) (h : IsWs w' c n aw) (hb : Below w.heap.size w w') : RetWs w aw n e w' := ⟨c, cap, he, h, hb⟩

def z5 : Value := .agg #[.string ⟨#[]⟩, .string ⟨#[]⟩, .string ⟨#[]⟩, .string ⟨#[]⟩, .string ⟨#[]⟩]
theorem info22 : (Try.prog.info? 22).map (fun i => (i.zero, i.size, i.bytes)) = some (some z5, 5, 80) := by kernel_rfl
def madeW (n : Nat) : Array Value := madeCells z5.cells (n * 5)
theorem madeW_size (n : Nat) : (madeW n).size = n * 5 := by unfold madeW; rw [size_madeCells]
theorem make36 (n : Nat) (hn : n ≤ 131072) (w : World) : (Instr.makeSlice 36 (.int .i64 (n : Int)) (.int .i64 (n : Int))).run Try.prog w = .ok (.slice (some ⟨w.heap.size, 0, none⟩) n n) (w.alloc (.cells (madeW n) 22)) := by
  obtain ⟨i, h2, h3, h4, h5⟩ := info_parts info22
  have h := run_make (P := Try.prog) w 36 22 i z5 Try.underlying36 h2 h3 .i64 .i64 (n : Int) (n : Int) (by omega) (by omega) (by rw [h5]; omega) (by omega)
  rw [h4] at h
  unfold madeW
  simpa using h

/-- k elements are copied into the row in block B. -/
structure InvW (wr : World) (B n k : Nat) (aw : Nat → Words) : Prop where
  st : ∀ i, i < k → WAt wr B 0 i (aw i)
  ex : ∀ o, o < n * 5 → ∃ x, wr.cell? ⟨B, o, none⟩ = some x
  fz : ∀ o, wr.frozen? ⟨B, o, none⟩ = false

theorem invW_start (w : World) (n : Nat) (aw : Nat → Words) : InvW (w.alloc (.cells (madeW n) 22)) w.heap.size n 0 aw := by
  refine ⟨fun i hi => absurd hi (Nat.not_lt_zero _), fun i hi => ?_, fun o => World.frozen?_alloc_new ..⟩
  rw [World.cell?_alloc_new]
  exact ⟨_, Array.getElem?_eq_getElem (by rw [madeW_size]; exact hi)⟩

/-- The world behind the store of element k. -/
def setW (wr : World) (B k : Nat) (s : Words) : World :=
  ((((wr.setCell ⟨B, k * 5, none⟩ (.string s.a0)).setCell ⟨B, k * 5 + 1, none⟩ (.string s.a1)).setCell ⟨B, k * 5 + 2, none⟩ (.string s.a2)).setCell ⟨B, k * 5 + 3, none⟩ (.string s.a3)).setCell ⟨B, k * 5 + 4, none⟩ (.string s.a4)

theorem cell_setW (wr : World) (B k o' : Nat) (s : Words) {x : Value} (h : wr.cell? ⟨B, o', none⟩ = some x) :
    (setW wr B k s).cell? ⟨B, o', none⟩ = some (if k * 5 + 4 = o' then .string s.a4 else if k * 5 + 3 = o' then .string s.a3 else if k * 5 + 2 = o' then .string s.a2 else if k * 5 + 1 = o' then .string s.a1 else if k * 5 = o' then .string s.a0 else x) :=
  cell_set _ _ _ _ _ (cell_set _ _ _ _ _ (cell_set _ _ _ _ _ (cell_set _ _ _ _ _ (cell_set _ _ _ _ _ h))))

theorem frozen_setW (wr : World) (B k : Nat) (s : Words) (a : Addr) : (setW wr B k s).frozen? a = wr.frozen? a := by
  unfold setW
  simp only [World.frozen?_setCell]

theorem invW_step {wr : World} {B n k : Nat} {aw : Nat → Words} (h : InvW wr B n k aw) (hk : k < n) : InvW (setW wr B k (aw k)) B n (k + 1) aw := by
  refine ⟨fun i hi => ?_, fun i hi => ?_, fun o => (frozen_setW ..).trans (h.fz o)⟩
  · by_cases e : i = k
    · subst e
      obtain ⟨x0, hx0⟩ := h.ex (0 + i * 5) (by omega)
      obtain ⟨x1, hx1⟩ := h.ex (0 + i * 5 + 1) (by omega)
      obtain ⟨x2, hx2⟩ := h.ex (0 + i * 5 + 2) (by omega)
      obtain ⟨x3, hx3⟩ := h.ex (0 + i * 5 + 3) (by omega)
      obtain ⟨x4, hx4⟩ := h.ex (0 + i * 5 + 4) (by omega)
      refine ⟨(cell_setW _ _ _ _ _ hx0).trans ?_, (cell_setW _ _ _ _ _ hx1).trans ?_, (cell_setW _ _ _ _ _ hx2).trans ?_, (cell_setW _ _ _ _ _ hx3).trans ?_, (cell_setW _ _ _ _ _ hx4).trans ?_⟩
      · rw [if_neg (by omega), if_neg (by omega), if_neg (by omega), if_neg (by omega), if_pos (by omega)]
      · rw [if_neg (by omega), if_neg (by omega), if_neg (by omega), if_pos (by omega)]
      · rw [if_neg (by omega), if_neg (by omega), if_pos (by omega)]
      · rw [if_neg (by omega), if_pos (by omega)]
      · rw [if_pos (by omega)]
    · obtain ⟨c0, c1, c2, c3, c4⟩ := h.st i (by omega)
      refine ⟨(cell_setW _ _ _ _ _ c0).trans ?_, (cell_setW _ _ _ _ _ c1).trans ?_, (cell_setW _ _ _ _ _ c2).trans ?_, (cell_setW _ _ _ _ _ c3).trans ?_, (cell_setW _ _ _ _ _ c4).trans ?_⟩
      all_goals (rw [if_neg (by omega), if_neg (by omega), if_neg (by omega), if_neg (by omega), if_neg (by omega)])
  · obtain ⟨x, hx⟩ := h.ex i hi
    exact ⟨_, cell_setW _ _ _ _ _ hx⟩

theorem below_setW {w wr : World} {k : Nat} (s : Words) (h : Below w.heap.size w wr) : Below w.heap.size w (setW wr w.heap.size k s) :=
  ((((h.setCell (Nat.le_refl _) _).setCell (Nat.le_refl _) _).setCell (Nat.le_refl _) _).setCell (Nat.le_refl _) _).setCell (Nat.le_refl _) _

theorem invW_done {wr : World} {B n : Nat} {aw : Nat → Words} (h : InvW wr B n n aw) : IsWs wr (some ⟨B, 0, none⟩) n aw := fun i hi => ⟨B, 0, rfl, h.st i hi⟩

set_option maxHeartbeats 1000000 in
theorem copyW_any (aw : Nat → Words) (c : Option Addr) (n cap : Nat) (w : World) (hn : n ≤ 65536) (hnil : c = none → n = 0) (HW : IsWs w c n aw) :
    Calls Try.prog 28 #[.slice c n cap] w fun e w' => RetWs w aw n e w' := by
  have q36 : ∀ (w : World) (a : Option Addr) (n c n' c' : Nat), (binOp .eql 36 (.slice a n c) (.slice none n' c')).run Try.prog w = .ok (.bool a.isNone) w := fun w a n c n' c' => Lib.run_eql_slice_nil w _ _ a n c n' c' Try.underlying36
  have hW := hid HW
  clear HW
  cases c with
  | none =>
    obtain rfl := hnil rfl
    clear hnil
    go_enter Try.func28, Try.ntmps28
    go_wp2
    go_ret
    exact RetWs.mk rfl (fun i hi => absurd hi (Nat.not_lt_zero _)) (Below.refl _ _)
  | some ad =>
    clear hnil
    have hmk := make36 n (by omega)
    go_enter Try.func28, Try.ntmps28
    go_wp2
    go_loopw [4] (fun i wr => ∃ k : Nat, k ≤ n ∧ i = .int .i64 k ∧ Hid (Below w.heap.size w wr) ∧ Hid (InvW wr w.heap.size n k aw)) (fun i _ => n - (intOf i).toNat)
    case atStart => exact ⟨0, Nat.zero_le _, rfl, (Below.refl _ _).alloc (Nat.le_refl _) _, invW_start w n aw⟩
    case round =>
      clear hmk q36
      obtain ⟨k, hk, rfl, hb, hI⟩ := hrel
      by_cases hlt : k < n
      · obtain ⟨b, off, e, g0, g1, g2, g3, g4⟩ := hW.out k hlt
        obtain rfl := Option.some.inj e
        clear e
        replace g0 := cell_later hb.out g0
        replace g1 := cell_later hb.out g1
        replace g2 := cell_later hb.out g2
        replace g3 := cell_later hb.out g3
        replace g4 := cell_later hb.out g4
        obtain ⟨x0, y0⟩ := hI.out.ex (k * 5) (by omega)
        obtain ⟨x1, y1⟩ := hI.out.ex (k * 5 + 1) (by omega)
        obtain ⟨x2, y2⟩ := hI.out.ex (k * 5 + 2) (by omega)
        obtain ⟨x3, y3⟩ := hI.out.ex (k * 5 + 3) (by omega)
        obtain ⟨x4, y4⟩ := hI.out.ex (k * 5 + 4) (by omega)
        have f0 := hI.out.fz (k * 5)
        have f1 := hI.out.fz (k * 5 + 1)
        have f2 := hI.out.fz (k * 5 + 2)
        have f3 := hI.out.fz (k * 5 + 3)
        have f4 := hI.out.fz (k * 5 + 4)
        have hK := hid (invW_step hI.out hlt)
        clear hI hW
        go_wp2
        go_roundw
        case rel => exact ⟨k + 1, by omega, by go_num, below_setW (aw k) hb.out, hK.out⟩
        case measure => simp [intOf]; omega
      · have e : k = n := by omega
        subst e
        clear hW
        go_wp2
        go_ret
        exact RetWs.mk rfl (invW_done hI.out) hb.out

/-! ### zzListBytes -/
set_option maxHeartbeats 1000000 in
theorem listBytes_any (aw : Nat → Words) (c : Option Addr) (n cap : Nat) (w : World) (hn : n ≤ 65536) (HW : IsWs w c n aw) (HF : FitW n aw) :
    Calls Try.prog 27 #[.slice c n cap] w fun e w' => ∃ r : Int, e = .returned (.int .i64 r) ∧ 0 ≤ r ∧ r ≤ 1048577 ∧ Below w.heap.size w w' := by
  have hW := hid HW
  have hF := hid HF
  clear HW HF
  go_enter Try.func27, Try.ntmps27
  go_wp2
  go_loopw [3, 4] (fun s i wr => ∃ (k : Nat) (m : Int), k ≤ n ∧ i = .int .i64 k ∧ s = .int .i64 m ∧ 0 ≤ m ∧ m ≤ 1048576 ∧ Hid (Below w.heap.size w wr)) (fun _ i _ => n - (intOf i).toNat)
  case atStart => exact ⟨0, 0, Nat.zero_le _, rfl, rfl, by omega, by omega, Below.refl _ _⟩
  case round =>
    obtain ⟨k, m, hk, rfl, rfl, hm0, hm1, hb⟩ := hrel
    by_cases hlt : k < n
    · obtain ⟨b, off, rfl, g0, g1, g2, g3, g4⟩ := hW.out k hlt
      replace g0 := cell_later hb.out g0
      replace g1 := cell_later hb.out g1
      replace g2 := cell_later hb.out g2
      replace g3 := cell_later hb.out g3
      replace g4 := cell_later hb.out g4
      clear hW
      go_wp2_with fail
      refine (sum5_any _ _ _ _ _ _ (hF.out k hlt)).mono ?_
      rintro e w1 ⟨r, rfl, hr0, hr1, hb1⟩
      have hB := hid (hb.out.trans (hb1.mono hb.out.size))
      clear hb hb1 g0 g1 g2 g3 g4 hF
      by_cases hc : 1048576 < m + r
      · go_wp2
        go_ret
        exact ⟨_, rfl, by omega, by omega, hB.out⟩
      · go_wp2
        go_roundw
        case rel => exact ⟨k + 1, m + r, by omega, by go_num, rfl, by omega, by omega, hB.out⟩
        case measure => simp [intOf]; omega
    · clear hW hF
      go_wp2
      go_ret
      exact ⟨_, rfl, by omega, by omega, hb.out⟩
end Go.Proofs.Qxb6600079a
