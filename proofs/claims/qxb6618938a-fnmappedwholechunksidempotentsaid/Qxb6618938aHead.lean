/- The closed facts of the two rows. Three of them read the head's words; over the head as one text the kernel falls for want of memory, so the head is taken as a list of signs, and its words apart by a law. -/
import Derived.Test.Qxb6618938aMap
import Derived.OpenShut
namespace Go.Proofs.Qxb6618938a
open Go

theorem word_first : ∀ (a b : List Char), (a.all fun c => c != ' ') = true → wordsSigns (a ++ ' ' :: b) = a :: wordsSigns b
  | [], b, _ => rfl
  | c :: a, b, h => by
    simp only [List.all_cons, Bool.and_eq_true, bne_iff_ne, ne_eq] at h
    have ih := word_first a b h.2
    have e : wordsSigns (c :: (a ++ ' ' :: b)) = match wordsSigns (a ++ ' ' :: b) with
      | w :: ws => (c :: w) :: ws
      | [] => [[c]] := wordsSigns.eq_3 c (a ++ ' ' :: b) h.1
    show wordsSigns (c :: (a ++ ' ' :: b)) = _
    rw [e, ih]

theorem behind_of (s : List Char) (r : List (List Char)) (h : isSumSigns s = true) : behindMainWord (['h', 'a', 'r', 'n', 'e', 's', 's'] :: s :: r) = r := by
  simp only [behindMainWord, h]
  rfl

theorem strip_is (r : List (List Char)) : stripLifts liftWords (['c', 'u', 't'] :: r) = ([], ['c', 'u', 't'] :: r) := by kernel_rfl

theorem make_of {P : Program} {r : List (List Char)} (h : behindMainWord (wordsSigns P.initOrder.toList) = ['c', 'u', 't'] :: r) : P.make = some .cut := by
  unfold Program.make
  rw [h]
  rfl
theorem headLifts_of {P : Program} {r : List (List Char)} (h : behindMainWord (wordsSigns P.initOrder.toList) = ['c', 'u', 't'] :: r) : P.headLifts = [] := by
  unfold Program.headLifts
  rw [h, strip_is]
  rfl
theorem lifts_of {P : Program} {r : List (List Char)} (h : behindMainWord (wordsSigns P.initOrder.toList) = ['c', 'u', 't'] :: r) : P.liftsFinal = false := by
  unfold Program.liftsFinal
  rw [headLifts_of h, h]
  rfl
theorem enter_of {P : Program} {r : List (List Char)} (h : behindMainWord (wordsSigns P.initOrder.toList) = ['c', 'u', 't'] :: r) (h1 : P.laysLater = false) (h2 : P.bearsReflect = false) (h3 : P.doorFits [] = true) : P.mayEnter = true := by
  unfold Program.mayEnter
  rw [h]
  simp only [strip_is, h1, h2, h3]
  rfl

def sumSigns : List Char := [99, 51, 53, 101, 99, 50, 57, 49, 55, 55, 49, 51, 52, 55, 53, 52, 97, 48, 100, 100, 50, 49, 99, 57, 54, 100, 97, 101, 56, 100, 100, 50, 49, 98, 50, 98, 48, 53, 97, 54, 99, 100, 51, 102, 55, 101, 54, 52, 55, 99, 56, 52, 54, 49, 50, 97, 101, 99, 50, 102, 49, 100, 49, 51].map Char.ofNat
/-- The head's words behind the third, sign by sign. -/
def tailSigns : List Char := [97, 116, 32, 101, 120, 97, 109, 112, 108, 101, 46, 99, 111, 109, 47, 99, 111, 114, 116, 105, 99, 97, 108, 45, 108, 101, 97, 114, 110, 105, 110, 103, 45, 110, 101, 116, 115, 47, 99, 111, 114, 116, 105, 99, 97, 108, 45, 108, 101, 97, 114, 110, 105, 110, 103, 45, 110, 101, 116, 115, 47, 122, 122, 108, 97, 119, 115, 95, 105, 110, 116, 101, 114, 110, 97, 108, 95, 103, 111, 104, 101, 97, 112, 95, 98, 49, 46, 70, 110, 82, 111, 117, 110, 100, 85, 112, 76, 101, 97, 115, 116, 77, 117, 108, 116, 105, 112, 108, 101, 83, 104, 105, 102, 116, 32, 101, 120, 97, 109, 112, 108, 101, 46, 99, 111, 109, 47, 99, 111, 114, 116, 105, 99, 97, 108, 45, 108, 101, 97, 114, 110, 105, 110, 103, 45, 110, 101, 116, 115, 47, 99, 111, 114, 116, 105, 99, 97, 108, 45, 108, 101, 97, 114, 110, 105, 110, 103, 45, 110, 101, 116, 115, 47, 122, 122, 108, 97, 119, 115, 95, 105, 110, 116, 101, 114, 110, 97, 108, 95, 103, 111, 104, 101, 97, 112, 95, 98, 49, 46, 70, 110, 82, 111, 117, 110, 100, 85, 112, 84, 104, 114, 111, 117, 103, 104, 70, 105, 110, 101, 114, 85, 110, 105, 116, 32, 101, 120, 97, 109, 112, 108, 101, 46, 99, 111, 109, 47, 99, 111, 114, 116, 105, 99, 97, 108, 45, 108, 101, 97, 114, 110, 105, 110, 103, 45, 110, 101, 116, 115, 47, 99, 111, 114, 116, 105, 99, 97, 108, 45, 108, 101, 97, 114, 110, 105, 110, 103, 45, 110, 101, 116, 115, 47, 122, 122, 108, 97, 119, 115, 95, 105, 110, 116, 101, 114, 110, 97, 108, 95, 103, 111, 104, 101, 97, 112, 95, 98, 49, 46, 70, 110, 77, 97, 112, 112, 101, 100, 87, 104, 111, 108, 101, 67, 104, 117, 110, 107, 115, 73, 100, 101, 109, 112, 111, 116, 101, 110, 116, 32, 101, 120, 97, 109, 112, 108, 101, 46, 99, 111, 109, 47, 99, 111, 114, 116, 105, 99, 97, 108, 45, 108, 101, 97, 114, 110, 105, 110, 103, 45, 110, 101, 116, 115, 47, 99, 111, 114, 116, 105, 99, 97, 108, 45, 108, 101, 97, 114, 110, 105, 110, 103, 45, 110, 101, 116, 115, 47, 122, 122, 108, 97, 119, 115, 95, 105, 110, 116, 101, 114, 110, 97, 108, 95, 103, 111, 104, 101, 97, 112, 95, 98, 49, 46, 70, 110, 77, 97, 112, 112, 101, 100, 83, 112, 108, 105, 116, 67, 111, 115, 116, 115, 65, 116, 77, 111, 115, 116, 79, 110, 101, 67, 104, 117, 110, 107, 32, 101, 120, 97, 109, 112, 108, 101, 46, 99, 111, 109, 47, 99, 111, 114, 116, 105, 99, 97, 108, 45, 108, 101, 97, 114, 110, 105, 110, 103, 45, 110, 101, 116, 115, 47, 99, 111, 114, 116, 105, 99, 97, 108, 45, 108, 101, 97, 114, 110, 105, 110, 103, 45, 110, 101, 116, 115, 47, 122, 122, 108, 97, 119, 115, 95, 105, 110, 116, 101, 114, 110, 97, 108, 95, 103, 111, 104, 101, 97, 112, 95, 98, 49, 46, 70, 110, 65, 100, 100, 114, 101, 115, 115, 83, 112, 97, 99, 101, 76, 101, 97, 115, 116, 65, 114, 101, 110, 97, 65, 98, 111, 118, 101, 84, 104, 101, 110, 79, 110, 101, 77, 111, 114, 101, 32, 101, 120, 97, 109, 112, 108, 101, 46, 99, 111, 109, 47, 99, 111, 114, 116, 105, 99, 97, 108, 45, 108, 101, 97, 114, 110, 105, 110, 103, 45, 110, 101, 116, 115, 47, 99, 111, 114, 116, 105, 99, 97, 108, 45, 108, 101, 97, 114, 110, 105, 110, 103, 45, 110, 101, 116, 115, 47, 122, 122, 108, 97, 119, 115, 95, 105, 110, 116, 101, 114, 110, 97, 108, 95, 103, 111, 104, 101, 97, 112, 95, 98, 49, 46, 70, 110, 65, 100, 100, 114, 101, 115, 115, 83, 112, 97, 99, 101, 72, 97, 110, 103, 115, 79, 110, 67, 104, 117, 110, 107, 115, 65, 110, 100, 83, 104, 105, 102, 116, 115, 66, 121, 65, 114, 101, 110, 97, 115, 32, 101, 120, 97, 109, 112, 108, 101, 46, 99, 111, 109, 47, 99, 111, 114, 116, 105, 99, 97, 108, 45, 108, 101, 97, 114, 110, 105, 110, 103, 45, 110, 101, 116, 115, 47, 99, 111, 114, 116, 105, 99, 97, 108, 45, 108, 101, 97, 114, 110, 105, 110, 103, 45, 110, 101, 116, 115, 47, 122, 122, 108, 97, 119, 115, 95, 105, 110, 116, 101, 114, 110, 97, 108, 95, 103, 111, 104, 101, 97, 112, 95, 98, 49, 46, 70, 110, 87, 105, 116, 104, 73, 110, 100, 101, 120, 83, 104, 105, 102, 116, 65, 110, 100, 76, 101, 97, 115, 116, 73, 110, 100, 101, 120, 32, 101, 120, 97, 109, 112, 108, 101, 46, 99, 111, 109, 47, 99, 111, 114, 116, 105, 99, 97, 108, 45, 108, 101, 97, 114, 110, 105, 110, 103, 45, 110, 101, 116, 115, 47, 99, 111, 114, 116, 105, 99, 97, 108, 45, 108, 101, 97, 114, 110, 105, 110, 103, 45, 110, 101, 116, 115, 47, 122, 122, 108, 97, 119, 115, 95, 105, 110, 116, 101, 114, 110, 97, 108, 95, 103, 111, 104, 101, 97, 112, 95, 98, 49, 46, 70, 110, 87, 105, 116, 104, 73, 110, 100, 101, 120, 83, 112, 108, 105, 116, 65, 100, 100, 115, 65, 116, 77, 111, 115, 116, 79, 110, 101].map Char.ofNat
theorem head_is : Try.prog.initOrder = String.ofList (['h', 'a', 'r', 'n', 'e', 's', 's'] ++ ' ' :: (sumSigns ++ ' ' :: (['c', 'u', 't'] ++ ' ' :: tailSigns))) := by kernel_rfl
theorem head_words : wordsSigns Try.prog.initOrder.toList = ['h', 'a', 'r', 'n', 'e', 's', 's'] :: sumSigns :: ['c', 'u', 't'] :: wordsSigns tailSigns := by
  rw [head_is, String.toList_ofList, word_first _ _ (by decide), word_first _ _ (by decide), word_first _ _ (by decide)]
theorem sum_is : isSumSigns sumSigns = true := by kernel_rfl
theorem behind_is : behindMainWord (wordsSigns Try.prog.initOrder.toList) = ['c', 'u', 't'] :: wordsSigns tailSigns := by
  rw [head_words, behind_of _ _ sum_is]

theorem make_is : Try.prog.make = some .cut := make_of behind_is
theorem lifts_is : Try.prog.liftsFinal = false := lifts_of behind_is
theorem later_is : Try.prog.laysLater = false := by kernel_rfl
theorem refl_is : Try.prog.bearsReflect = false := by kernel_rfl
theorem door_is : Try.prog.doorFits [] = true := by kernel_rfl
theorem enter_is : Try.prog.mayEnter = true := enter_of behind_is later_is refl_is door_is

theorem joinedA : joinedFacts Try.prog 5 Try.f5 Rows.fnMappedWholeChunksIdempotentSpec Rows.fnMappedWholeChunksIdempotentRow = true := by
  unfold joinedFacts
  rw [enter_is, lifts_is, make_is]
  kernel_rfl

theorem joinedB : joinedFacts Try.prog 6 Try.f6 Rows.fnMappedSplitCostsAtMostOneChunkSpec Rows.fnMappedSplitCostsAtMostOneChunkRow = true := by
  unfold joinedFacts
  rw [enter_is, lifts_is, make_is]
  kernel_rfl
end Go.Proofs.Qxb6618938a
