/- The closed facts of the two rows. Three of them read the head's words; over the head as one text the kernel falls for want of memory, so the head is taken as a list of signs, and its words apart by a law. -/
import Derived.Test.Qxb6618938aMap
import Derived.OpenShut
namespace Go.Proofs.Qxb6618938a
open Go

theorem word_first : ∀ (a b : List Char), (a.all fun c => c != ' ') = true → wordsSigns (a ++ ' ' :: b) = a :: wordsSigns b
  | [], b, _ => rfl
  | c :: a, b, h => by
    simp only [List.all_cons, Bool.and_eq_true, bne_iff_ne, ne_eq] at h
    have ih := word_first a b h.2
    have e : wordsSigns (c :: (a ++ ' ' :: b)) = match wordsSigns (a ++ ' ' :: b) with
      | w :: ws => (c :: w) :: ws
      | [] => [[c]] := wordsSigns.eq_3 c (a ++ ' ' :: b) h.1
    show wordsSigns (c :: (a ++ ' ' :: b)) = _
    rw [e, ih]

theorem behind_of (s : List Char) (r : List (List Char)) (h : isSumSigns s = true) : behindMainWord (['h', 'a', 'r', 'n', 'e', 's', 's'] :: s :: r) = r := by
  simp only [behindMainWord, h]
  rfl

theorem strip_is (r : List (List Char)) : stripLifts liftWords (['c', 'u', 't'] :: r) = ([], ['c', 'u', 't'] :: r) := by kernel_rfl

section
variable {P : Program} {r : List (List Char)} (h : behindMainWord (wordsSigns P.initOrder.toList) = ['c', 'u', 't'] :: r)
include h
theorem make_of : P.make = some .cut := by
  unfold Program.make
  rw [h]
  rfl
theorem headLifts_of : P.headLifts = [] := by
  unfold Program.headLifts
  rw [h, strip_is]
  rfl
theorem lifts_of : P.liftsFinal = false := by
  unfold Program.liftsFinal
  rw [headLifts_of h, h]
  rfl
theorem enter_of (h1 : P.laysLater = false) (h2 : P.bearsReflect = false) (h3 : P.doorFits [] = true) : P.mayEnter = true := by
  unfold Program.mayEnter
  rw [h]
  simp only [strip_is, h1, h2, h3]
  rfl
end

def sumSigns : List Char := ['c', '3', '5', 'e', 'c', '2', '9', '1', '7', '7', '1', '3', '4', '7', '5', '4', 'a', '0', 'd', 'd', '2', '1', 'c', '9', '6', 'd', 'a', 'e', '8', 'd', 'd', '2', '1', 'b', '2', 'b', '0', '5', 'a', '6', 'c', 'd', '3', 'f', '7', 'e', '6', '4', '7', 'c', '8', '4', '6', '1', '2', 'a', 'e', 'c', '2', 'f', '1', 'd', '1', '3']
/-- The head's words behind the third, sign by sign. -/
def tailSigns : List Char := ['a', 't', ' ', 'e', 'x', 'a', 'm', 'p', 'l', 'e', '.', 'c', 'o', 'm', '/', 'c', 'o', 'r', 't', 'i', 'c', 'a', 'l', '-', 'l', 'e', 'a', 'r', 'n', 'i', 'n', 'g', '-', 'n', 'e', 't', 's', '/', 'c', 'o', 'r', 't', 'i', 'c', 'a', 'l', '-', 'l', 'e', 'a', 'r', 'n', 'i', 'n', 'g', '-', 'n', 'e', 't', 's', '/', 'z', 'z', 'l', 'a', 'w', 's', '_', 'i', 'n', 't', 'e', 'r', 'n', 'a', 'l', '_', 'g', 'o', 'h', 'e', 'a', 'p', '_', 'b', '1', '.', 'F', 'n', 'R', 'o', 'u', 'n', 'd', 'U', 'p', 'L', 'e', 'a', 's', 't', 'M', 'u', 'l', 't', 'i', 'p', 'l', 'e', 'S', 'h', 'i', 'f', 't', ' ', 'e', 'x', 'a', 'm', 'p', 'l', 'e', '.', 'c', 'o', 'm', '/', 'c', 'o', 'r', 't', 'i', 'c', 'a', 'l', '-', 'l', 'e', 'a', 'r', 'n', 'i', 'n', 'g', '-', 'n', 'e', 't', 's', '/', 'c', 'o', 'r', 't', 'i', 'c', 'a', 'l', '-', 'l', 'e', 'a', 'r', 'n', 'i', 'n', 'g', '-', 'n', 'e', 't', 's', '/', 'z', 'z', 'l', 'a', 'w', 's', '_', 'i', 'n', 't', 'e', 'r', 'n', 'a', 'l', '_', 'g', 'o', 'h', 'e', 'a', 'p', '_', 'b', '1', '.', 'F', 'n', 'R', 'o', 'u', 'n', 'd', 'U', 'p', 'T', 'h', 'r', 'o', 'u', 'g', 'h', 'F', 'i', 'n', 'e', 'r', 'U', 'n', 'i', 't', ' ', 'e', 'x', 'a', 'm', 'p', 'l', 'e', '.', 'c', 'o', 'm', '/', 'c', 'o', 'r', 't', 'i', 'c', 'a', 'l', '-', 'l', 'e', 'a', 'r', 'n', 'i', 'n', 'g', '-', 'n', 'e', 't', 's', '/', 'c', 'o', 'r', 't', 'i', 'c', 'a', 'l', '-', 'l', 'e', 'a', 'r', 'n', 'i', 'n', 'g', '-', 'n', 'e', 't', 's', '/', 'z', 'z', 'l', 'a', 'w', 's', '_', 'i', 'n', 't', 'e', 'r', 'n', 'a', 'l', '_', 'g', 'o', 'h', 'e', 'a', 'p', '_', 'b', '1', '.', 'F', 'n', 'M', 'a', 'p', 'p', 'e', 'd', 'W', 'h', 'o', 'l', 'e', 'C', 'h', 'u', 'n', 'k', 's', 'I', 'd', 'e', 'm', 'p', 'o', 't', 'e', 'n', 't', ' ', 'e', 'x', 'a', 'm', 'p', 'l', 'e', '.', 'c', 'o', 'm', '/', 'c', 'o', 'r', 't', 'i', 'c', 'a', 'l', '-', 'l', 'e', 'a', 'r', 'n', 'i', 'n', 'g', '-', 'n', 'e', 't', 's', '/', 'c', 'o', 'r', 't', 'i', 'c', 'a', 'l', '-', 'l', 'e', 'a', 'r', 'n', 'i', 'n', 'g', '-', 'n', 'e', 't', 's', '/', 'z', 'z', 'l', 'a', 'w', 's', '_', 'i', 'n', 't', 'e', 'r', 'n', 'a', 'l', '_', 'g', 'o', 'h', 'e', 'a', 'p', '_', 'b', '1', '.', 'F', 'n', 'M', 'a', 'p', 'p', 'e', 'd', 'S', 'p', 'l', 'i', 't', 'C', 'o', 's', 't', 's', 'A', 't', 'M', 'o', 's', 't', 'O', 'n', 'e', 'C', 'h', 'u', 'n', 'k', ' ', 'e', 'x', 'a', 'm', 'p', 'l', 'e', '.', 'c', 'o', 'm', '/', 'c', 'o', 'r', 't', 'i', 'c', 'a', 'l', '-', 'l', 'e', 'a', 'r', 'n', 'i', 'n', 'g', '-', 'n', 'e', 't', 's', '/', 'c', 'o', 'r', 't', 'i', 'c', 'a', 'l', '-', 'l', 'e', 'a', 'r', 'n', 'i', 'n', 'g', '-', 'n', 'e', 't', 's', '/', 'z', 'z', 'l', 'a', 'w', 's', '_', 'i', 'n', 't', 'e', 'r', 'n', 'a', 'l', '_', 'g', 'o', 'h', 'e', 'a', 'p', '_', 'b', '1', '.', 'F', 'n', 'A', 'd', 'd', 'r', 'e', 's', 's', 'S', 'p', 'a', 'c', 'e', 'L', 'e', 'a', 's', 't', 'A', 'r', 'e', 'n', 'a', 'A', 'b', 'o', 'v', 'e', 'T', 'h', 'e', 'n', 'O', 'n', 'e', 'M', 'o', 'r', 'e', ' ', 'e', 'x', 'a', 'm', 'p', 'l', 'e', '.', 'c', 'o', 'm', '/', 'c', 'o', 'r', 't', 'i', 'c', 'a', 'l', '-', 'l', 'e', 'a', 'r', 'n', 'i', 'n', 'g', '-', 'n', 'e', 't', 's', '/', 'c', 'o', 'r', 't', 'i', 'c', 'a', 'l', '-', 'l', 'e', 'a', 'r', 'n', 'i', 'n', 'g', '-', 'n', 'e', 't', 's', '/', 'z', 'z', 'l', 'a', 'w', 's', '_', 'i', 'n', 't', 'e', 'r', 'n', 'a', 'l', '_', 'g', 'o', 'h', 'e', 'a', 'p', '_', 'b', '1', '.', 'F', 'n', 'A', 'd', 'd', 'r', 'e', 's', 's', 'S', 'p', 'a', 'c', 'e', 'H', 'a', 'n', 'g', 's', 'O', 'n', 'C', 'h', 'u', 'n', 'k', 's', 'A', 'n', 'd', 'S', 'h', 'i', 'f', 't', 's', 'B', 'y', 'A', 'r', 'e', 'n', 'a', 's', ' ', 'e', 'x', 'a', 'm', 'p', 'l', 'e', '.', 'c', 'o', 'm', '/', 'c', 'o', 'r', 't', 'i', 'c', 'a', 'l', '-', 'l', 'e', 'a', 'r', 'n', 'i', 'n', 'g', '-', 'n', 'e', 't', 's', '/', 'c', 'o', 'r', 't', 'i', 'c', 'a', 'l', '-', 'l', 'e', 'a', 'r', 'n', 'i', 'n', 'g', '-', 'n', 'e', 't', 's', '/', 'z', 'z', 'l', 'a', 'w', 's', '_', 'i', 'n', 't', 'e', 'r', 'n', 'a', 'l', '_', 'g', 'o', 'h', 'e', 'a', 'p', '_', 'b', '1', '.', 'F', 'n', 'W', 'i', 't', 'h', 'I', 'n', 'd', 'e', 'x', 'S', 'h', 'i', 'f', 't', 'A', 'n', 'd', 'L', 'e', 'a', 's', 't', 'I', 'n', 'd', 'e', 'x', ' ', 'e', 'x', 'a', 'm', 'p', 'l', 'e', '.', 'c', 'o', 'm', '/', 'c', 'o', 'r', 't', 'i', 'c', 'a', 'l', '-', 'l', 'e', 'a', 'r', 'n', 'i', 'n', 'g', '-', 'n', 'e', 't', 's', '/', 'c', 'o', 'r', 't', 'i', 'c', 'a', 'l', '-', 'l', 'e', 'a', 'r', 'n', 'i', 'n', 'g', '-', 'n', 'e', 't', 's', '/', 'z', 'z', 'l', 'a', 'w', 's', '_', 'i', 'n', 't', 'e', 'r', 'n', 'a', 'l', '_', 'g', 'o', 'h', 'e', 'a', 'p', '_', 'b', '1', '.', 'F', 'n', 'W', 'i', 't', 'h', 'I', 'n', 'd', 'e', 'x', 'S', 'p', 'l', 'i', 't', 'A', 'd', 'd', 's', 'A', 't', 'M', 'o', 's', 't', 'O', 'n', 'e']
theorem head_is : Try.prog.initOrder = String.ofList (['h', 'a', 'r', 'n', 'e', 's', 's'] ++ ' ' :: (sumSigns ++ ' ' :: (['c', 'u', 't'] ++ ' ' :: tailSigns))) := by kernel_rfl
theorem head_words : wordsSigns Try.prog.initOrder.toList = ['h', 'a', 'r', 'n', 'e', 's', 's'] :: sumSigns :: ['c', 'u', 't'] :: wordsSigns tailSigns := by
  rw [head_is, String.toList_ofList, word_first _ _ (by decide), word_first _ _ (by decide), word_first _ _ (by decide)]
theorem sum_is : isSumSigns sumSigns = true := by kernel_rfl
theorem behind_is : behindMainWord (wordsSigns Try.prog.initOrder.toList) = ['c', 'u', 't'] :: wordsSigns tailSigns := by
  rw [head_words, behind_of _ _ sum_is]

theorem make_is : Try.prog.make = some .cut := make_of behind_is
theorem lifts_is : Try.prog.liftsFinal = false := lifts_of behind_is
theorem later_is : Try.prog.laysLater = false := by kernel_rfl
theorem refl_is : Try.prog.bearsReflect = false := by kernel_rfl
theorem door_is : Try.prog.doorFits [] = true := by kernel_rfl
theorem enter_is : Try.prog.mayEnter = true := enter_of behind_is later_is refl_is door_is

theorem joinedA : joinedFacts Try.prog 5 Try.f5 Rows.fnMappedWholeChunksIdempotentSpec Rows.fnMappedWholeChunksIdempotentRow = true := by
  unfold joinedFacts
  rw [enter_is, lifts_is, make_is]
  kernel_rfl

theorem joinedB : joinedFacts Try.prog 6 Try.f6 Rows.fnMappedSplitCostsAtMostOneChunkSpec Rows.fnMappedSplitCostsAtMostOneChunkRow = true := by
  unfold joinedFacts
  rw [enter_is, lifts_is, make_is]
  kernel_rfl
end Go.Proofs.Qxb6618938a
