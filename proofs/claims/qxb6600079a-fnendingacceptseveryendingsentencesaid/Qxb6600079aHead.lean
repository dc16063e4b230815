/-
  THE CLOSED FACTS OF A ROW THAT READ THE TRANSLATION's HEAD (over a thousand signs: ten roots), BY LEMMAS: the kernel's own run over the head outgrows the memory lid. Of the head's words only the first three are looked at: 'harness', a sum, 'cut'.
-/
import Derived.Test.Qxb6600079aOpen
namespace Go.Proofs.Qxb6600079a
open Go.RowKit

theorem words_cons (v r : List Char) (h : v.all (fun c => !(c == ' ')) = true) : wordsSigns (v ++ ' ' :: r) = v :: wordsSigns r := by
  induction v with
  | nil => rfl
  | cons c v ih =>
    simp only [List.all_cons, Bool.and_eq_true, Bool.not_eq_true', beq_eq_false_iff_ne, ne_eq] at h
    have e := ih h.2
    show wordsSigns (c :: (v ++ ' ' :: r)) = _
    have k : ∀ l : List Char, wordsSigns (c :: l) = match wordsSigns l with | u :: us => (c :: u) :: us | [] => [[c]] := by
      intro l
      rw [wordsSigns]
      · cases wordsSigns l <;> rfl
      · exact h.1
    rw [k, e]

def headSum : List Char := [53, 49, 49, 98, 57, 97, 51, 56, 55, 101, 101, 97, 52, 50, 52, 48, 54, 55, 53, 97, 55, 97, 100, 54, 48, 97, 54, 50, 51, 50, 101, 57, 99, 49, 97, 100, 99, 53, 48, 99, 49, 101, 53, 56, 55, 102, 55, 51, 53, 56, 52, 54, 101, 98, 102, 101, 56, 56, 56, 53, 50, 50, 101, 49].map Char.ofNat
def headTail : List Char := [97, 116, 32, 101, 120, 97, 109, 112, 108, 101, 46, 99, 111, 109, 47, 105, 115, 111, 98, 97, 110, 100, 47, 105, 115, 111, 98, 97, 110, 100, 47, 122, 122, 108, 97, 119, 115, 95, 105, 110, 116, 101, 114, 110, 97, 108, 95, 112, 114, 111, 120, 121, 95, 98, 49, 46, 70, 110, 69, 110, 100, 105, 110, 103, 65, 99, 99, 101, 112, 116, 115, 69, 118, 101, 114, 121, 69, 110, 100, 105, 110, 103, 83, 101, 110, 116, 101, 110, 99, 101, 32, 101, 120, 97, 109, 112, 108, 101, 46, 99, 111, 109, 47, 105, 115, 111, 98, 97, 110, 100, 47, 105, 115, 111, 98, 97, 110, 100, 47, 122, 122, 108, 97, 119, 115, 95, 105, 110, 116, 101, 114, 110, 97, 108, 95, 112, 114, 111, 120, 121, 95, 98, 49, 46, 70, 110, 69, 110, 100, 105, 110, 103, 65, 99, 99, 101, 112, 116, 115, 79, 110, 108, 121, 69, 110, 100, 105, 110, 103, 83, 101, 110, 116, 101, 110, 99, 101, 115, 32, 101, 120, 97, 109, 112, 108, 101, 46, 99, 111, 109, 47, 105, 115, 111, 98, 97, 110, 100, 47, 105, 115, 111, 98, 97, 110, 100, 47, 122, 122, 108, 97, 119, 115, 95, 105, 110, 116, 101, 114, 110, 97, 108, 95, 112, 114, 111, 120, 121, 95, 98, 49, 46, 70, 110, 69, 110, 100, 105, 110, 103, 82, 101, 97, 100, 115, 79, 110, 108, 121, 73, 116, 115, 84, 111, 107, 101, 110, 115, 32, 101, 120, 97, 109, 112, 108, 101, 46, 99, 111, 109, 47, 105, 115, 111, 98, 97, 110, 100, 47, 105, 115, 111, 98, 97, 110, 100, 47, 122, 122, 108, 97, 119, 115, 95, 105, 110, 116, 101, 114, 110, 97, 108, 95, 112, 114, 111, 120, 121, 95, 98, 49, 46, 70, 110, 65, 110, 97, 108, 121, 115, 101, 100, 79, 117, 116, 115, 105, 100, 101, 67, 114, 101, 97, 116, 101, 72, 97, 110, 103, 115, 79, 110, 70, 105, 114, 115, 116, 87, 111, 114, 100, 32, 101, 120, 97, 109, 112, 108, 101, 46, 99, 111, 109, 47, 105, 115, 111, 98, 97, 110, 100, 47, 105, 115, 111, 98, 97, 110, 100, 47, 122, 122, 108, 97, 119, 115, 95, 105, 110, 116, 101, 114, 110, 97, 108, 95, 112, 114, 111, 120, 121, 95, 98, 49, 46, 70, 110, 65, 110, 97, 108, 121, 115, 101, 100, 67, 114, 101, 97, 116, 101, 78, 101, 101, 100, 115, 65, 115, 65, 110, 100, 84, 97, 98, 108, 101, 32, 101, 120, 97, 109, 112, 108, 101, 46, 99, 111, 109, 47, 105, 115, 111, 98, 97, 110, 100, 47, 105, 115, 111, 98, 97, 110, 100, 47, 122, 122, 108, 97, 119, 115, 95, 105, 110, 116, 101, 114, 110, 97, 108, 95, 112, 114, 111, 120, 121, 95, 98, 49, 46, 70, 110, 65, 110, 97, 108, 121, 115, 101, 100, 65, 99, 99, 101, 112, 116, 115, 67, 114, 101, 97, 116, 101, 84, 97, 98, 108, 101, 65, 115, 32, 101, 120, 97, 109, 112, 108, 101, 46, 99, 111, 109, 47, 105, 115, 111, 98, 97, 110, 100, 47, 105, 115, 111, 98, 97, 110, 100, 47, 122, 122, 108, 97, 119, 115, 95, 105, 110, 116, 101, 114, 110, 97, 108, 95, 112, 114, 111, 120, 121, 95, 98, 49, 46, 70, 110, 82, 101, 112, 108, 97, 121, 97, 98, 108, 101, 73, 115, 67, 111, 110, 106, 117, 110, 99, 116, 105, 111, 110, 32, 101, 120, 97, 109, 112, 108, 101, 46, 99, 111, 109, 47, 105, 115, 111, 98, 97, 110, 100, 47, 105, 115, 111, 98, 97, 110, 100, 47, 122, 122, 108, 97, 119, 115, 95, 105, 110, 116, 101, 114, 110, 97, 108, 95, 112, 114, 111, 120, 121, 95, 98, 49, 46, 70, 110, 82, 101, 112, 108, 97, 121, 97, 98, 108, 101, 82, 101, 102, 117, 115, 101, 115, 85, 110, 115, 112, 101, 108, 108, 101, 100, 65, 110, 100, 79, 117, 116, 108, 105, 118, 105, 110, 103, 75, 105, 110, 100, 115, 32, 101, 120, 97, 109, 112, 108, 101, 46, 99, 111, 109, 47, 105, 115, 111, 98, 97, 110, 100, 47, 105, 115, 111, 98, 97, 110, 100, 47, 122, 122, 108, 97, 119, 115, 95, 105, 110, 116, 101, 114, 110, 97, 108, 95, 112, 114, 111, 120, 121, 95, 98, 49, 46, 70, 110, 69, 110, 100, 105, 110, 103, 83, 116, 97, 116, 101, 109, 101, 110, 116, 115, 65, 114, 101, 82, 101, 112, 108, 97, 121, 97, 98, 108, 101, 32, 101, 120, 97, 109, 112, 108, 101, 46, 99, 111, 109, 47, 105, 115, 111, 98, 97, 110, 100, 47, 105, 115, 111, 98, 97, 110, 100, 47, 122, 122, 108, 97, 119, 115, 95, 105, 110, 116, 101, 114, 110, 97, 108, 95, 112, 114, 111, 120, 121, 95, 98, 49, 46, 70, 110, 65, 110, 97, 108, 121, 115, 101, 100, 81, 117, 101, 114, 105, 101, 115, 65, 114, 101, 82, 101, 112, 108, 97, 121, 97, 98, 108, 101].map Char.ofNat

theorem head_is : Try.prog.initOrder = String.ofList ("harness".toList ++ ' ' :: (headSum ++ ' ' :: ("cut".toList ++ ' ' :: headTail))) := by kernel_rfl

theorem behind_any (T : List (List Char)) : behindMainWord ("harness".toList :: headSum :: T) = T := by
  have g : (("harness".toList == "harness".toList || "harness".toList == "ownmain".toList) && isSumSigns headSum) = true := by kernel_rfl
  simp only [behindMainWord, g, if_true]

theorem head_words : ∃ T, behindMainWord (wordsSigns Try.prog.initOrder.toList) = "cut".toList :: T := by
  refine ⟨wordsSigns headTail, ?_⟩
  rw [head_is, String.toList_ofList, words_cons _ _ (by kernel_rfl), words_cons _ _ (by kernel_rfl), words_cons _ _ (by kernel_rfl)]
  generalize wordsSigns headTail = T
  exact behind_any _

theorem strip_cut (T : List (List Char)) : stripLifts liftWords ("cut".toList :: T) = ([], "cut".toList :: T) := by kernel_rfl

theorem mayEnter_any (P : Program) (T : List (List Char)) (h : behindMainWord (wordsSigns P.initOrder.toList) = "cut".toList :: T) (h1 : P.laysLater = false) (h2 : P.bearsReflect = false) (h3 : P.doorFits [] = true) : P.mayEnter = true := by
  unfold Program.mayEnter
  rw [h]
  have e : stripLifts liftWords (['c', 'u', 't'] :: T) = ([], ['c', 'u', 't'] :: T) := strip_cut T
  simp [e, h1, h2, h3]

theorem headLifts_any (P : Program) (T : List (List Char)) (h : behindMainWord (wordsSigns P.initOrder.toList) = "cut".toList :: T) : P.headLifts = [] := by
  unfold Program.headLifts
  rw [h, strip_cut]
  simp

theorem liftsFinal_any (P : Program) (T : List (List Char)) (h : behindMainWord (wordsSigns P.initOrder.toList) = "cut".toList :: T) : P.liftsFinal = false := by
  unfold Program.liftsFinal
  rw [headLifts_any _ _ h, h]
  simp

theorem make_any (P : Program) (T : List (List Char)) (h : behindMainWord (wordsSigns P.initOrder.toList) = "cut".toList :: T) : P.make = some .cut := by
  unfold Program.make
  rw [h]
  simp

theorem Try.mayEnter : Try.prog.mayEnter = true := head_words.elim fun _ h => mayEnter_any _ _ h (by kernel_rfl) (by kernel_rfl) (by kernel_rfl)
theorem Try.liftsFinal : Try.prog.liftsFinal = false := head_words.elim fun _ h => liftsFinal_any _ _ h
theorem Try.make : Try.prog.make = some .cut := head_words.elim fun _ h => make_any _ _ h
end Go.Proofs.Qxb6600079a
