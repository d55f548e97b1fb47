import Derived.Test.Qxb6001664aRows
import Derived.JoinedOf
import Derived.KernelRfl
namespace Go.Proofs.Qxb6001664a

/-! The head of the dump, sign by sign: its text as one string is dear to the kernel (some 80 s and 9 GB a fact): here its first three words are taken off by a law. -/
def signs1 : List Char := ['h', 'a', 'r', 'n', 'e', 's', 's']
def signs2 : List Char := ['d', '6', '2', '2', 'c', '2', 'c', '4', '5', '6', '0', 'f', '4', 'd', '6', '4', '7', '9', '6', '6', '7', 'c', 'e', '0', '8', 'a', '2', 'f', '7', 'f', 'b', '5', '5', 'b', 'c', 'd', 'c', '4', '5', 'd', '0', '9', '3', '4', '5', '1', '9', '4', 'f', '6', '5', '2', '9', '7', 'c', '5', '4', 'b', '4', '3', '1', 'e', 'd', 'f']
def signs3 : List Char := ['c', 'u', 't']
def signs4 : List Char := ['a', 't', ' ', 'e', 'x', 'a', 'm', 'p', 'l', 'e', '.', 'c', 'o', 'm', '/', 'f', 'e', 'r', 'r', 'u', 'l', 'e', '/', 'f', 'e', 'r', 'r', 'u', 'l', 'e', '/', 'z', 'z', 'l', 'a', 'w', 's', '_', 'd', 'e', 'c', 'l', 'a', 'r', 'a', 't', 'i', 'o', 'n', '_', 'g', '1', '.', 'F', 'n', 'R', 'e', 'f', 'e', 'r', 'r', 'e', 'd', 'L', 'a', 'b', 'e', 'l', 's', 'F', 'i', 'r', 's', 't', 'O', 'c', 'c', 'u', 'r', 'r', 'e', 'n', 'c', 'e', 's', ' ', 'e', 'x', 'a', 'm', 'p', 'l', 'e', '.', 'c', 'o', 'm', '/', 'f', 'e', 'r', 'r', 'u', 'l', 'e', '/', 'f', 'e', 'r', 'r', 'u', 'l', 'e', '/', 'z', 'z', 'l', 'a', 'w', 's', '_', 'd', 'e', 'c', 'l', 'a', 'r', 'a', 't', 'i', 'o', 'n', '_', 'g', '1', '.', 'F', 'n', 'U', 'n', 'd', 'e', 'c', 'l', 'a', 'r', 'e', 'd', 'I', 's', 'R', 'e', 'f', 'e', 'r', 'r', 'e', 'd', 'M', 'i', 'n', 'u', 's', 'D', 'e', 'c', 'l', 'a', 'r', 'e', 'd', ' ', 'e', 'x', 'a', 'm', 'p', 'l', 'e', '.', 'c', 'o', 'm', '/', 'f', 'e', 'r', 'r', 'u', 'l', 'e', '/', 'f', 'e', 'r', 'r', 'u', 'l', 'e', '/', 'z', 'z', 'l', 'a', 'w', 's', '_', 'j', 's', 'o', 'n', 'p', 'a', 't', 'h', '_', 'g', '1', '.', 'F', 'n', 'S', 'k', 'i', 'p', 'D', 'i', 'g', 'i', 't', 's', 'M', 'a', 'x', 'i', 'm', 'a', 'l', 'R', 'u', 'n', ' ', 'e', 'x', 'a', 'm', 'p', 'l', 'e', '.', 'c', 'o', 'm', '/', 'f', 'e', 'r', 'r', 'u', 'l', 'e', '/', 'f', 'e', 'r', 'r', 'u', 'l', 'e', '/', 'z', 'z', 'l', 'a', 'w', 's', '_', 'j', 's', 'o', 'n', 'p', 'a', 't', 'h', '_', 'g', '1', '.', 'F', 'n', 'S', 'k', 'i', 'p', 'D', 'i', 'g', 'i', 't', 's', 'P', 'r', 'e', 'f', 'i', 'x', 'A', 'g', 'r', 'e', 'e', 'm', 'e', 'n', 't', ' ', 'e', 'x', 'a', 'm', 'p', 'l', 'e', '.', 'c', 'o', 'm', '/', 'f', 'e', 'r', 'r', 'u', 'l', 'e', '/', 'f', 'e', 'r', 'r', 'u', 'l', 'e', '/', 'z', 'z', 'l', 'a', 'w', 's', '_', 'r', 'e', 'd', 'a', 'c', 't', '_', 'g', '1', '.', 'F', 'n', 'L', 'i', 's', 't', 'e', 'd', 'R', 'e', 'p', 'l', 'a', 'c', 'e', 's', 'O', 'r', 'A', 'p', 'p', 'e', 'n', 'd', 's', ' ', 'e', 'x', 'a', 'm', 'p', 'l', 'e', '.', 'c', 'o', 'm', '/', 'f', 'e', 'r', 'r', 'u', 'l', 'e', '/', 'f', 'e', 'r', 'r', 'u', 'l', 'e', '/', 'z', 'z', 'l', 'a', 'w', 's', '_', 'r', 'e', 'd', 'a', 'c', 't', '_', 'g', '1', '.', 'F', 'n', 'S', 'h', 'a', 'r', 'e', 'M', 'a', 't', 'c', 'h', 'e', 's', 'B', 'i', 't', 'M', 'o', 'd', 'e', 'l', ' ', 'e', 'x', 'a', 'm', 'p', 'l', 'e', '.', 'c', 'o', 'm', '/', 'f', 'e', 'r', 'r', 'u', 'l', 'e', '/', 'f', 'e', 'r', 'r', 'u', 'l', 'e', '/', 'z', 'z', 'l', 'a', 'w', 's', '_', 'r', 'e', 'd', 'a', 'c', 't', '_', 'g', '1', '.', 'F', 'n', 'S', 'p', 'a', 'n', 'T', 'a', 'k', 'e', 's', 'W', 'h', 'o', 'l', 'e', 'B', 'a', 'c', 'k', 's', 'l', 'a', 's', 'h', 'R', 'u', 'n', 's', ' ', 'e', 'x', 'a', 'm', 'p', 'l', 'e', '.', 'c', 'o', 'm', '/', 'f', 'e', 'r', 'r', 'u', 'l', 'e', '/', 'f', 'e', 'r', 'r', 'u', 'l', 'e', '/', 'z', 'z', 'l', 'a', 'w', 's', '_', 'r', 'e', 'd', 'a', 'c', 't', '_', 'g', '1', '.', 'F', 'n', 'S', 'p', 'a', 'n', 'H', 'e', 'x', 'E', 's', 'c', 'a', 'p', 'e', 'E', 'i', 't', 'h', 'e', 'r', 'C', 'a', 's', 'e']
theorem head_is : Try.prog.initOrder = String.ofList (signs1 ++ ' ' :: (signs2 ++ ' ' :: (signs3 ++ ' ' :: signs4))) := by kernel_rfl
theorem word_step : ∀ (w r : List Char), w.all (fun c => c != ' ') = true → wordsSigns (w ++ ' ' :: r) = w :: wordsSigns r
  | [], r, _ => by simp [wordsSigns]
  | c :: w, r, h => by
    simp only [List.all_cons, Bool.and_eq_true, bne_iff_ne, ne_eq] at h
    have ih := word_step w r h.2
    rw [List.cons_append, wordsSigns, ih]
    exact h.1
theorem head_words : wordsSigns Try.prog.initOrder.toList = signs1 :: signs2 :: signs3 :: wordsSigns signs4 := by
  rw [head_is, String.toList_ofList, word_step _ _ (by decide), word_step _ _ (by decide), word_step _ _ (by decide)]
theorem behind_of {P : Program} {R : List (List Char)} (h : wordsSigns P.initOrder.toList = signs1 :: signs2 :: signs3 :: R) : behindMainWord (wordsSigns P.initOrder.toList) = signs3 :: R := by
  rw [h]
  kernel_rfl
theorem strip_of (R : List (List Char)) : stripLifts liftWords (signs3 :: R) = ([], signs3 :: R) := by kernel_rfl
theorem make_of {P : Program} {R : List (List Char)} (h : behindMainWord (wordsSigns P.initOrder.toList) = signs3 :: R) : P.make = some .cut := by
  unfold Program.make
  rw [h]
  kernel_rfl
theorem lifts_of {P : Program} {R : List (List Char)} (h : behindMainWord (wordsSigns P.initOrder.toList) = signs3 :: R) : P.liftsFinal = false := by
  unfold Program.liftsFinal Program.headLifts
  rw [h, strip_of]
  kernel_rfl
theorem enter_of {P : Program} {R : List (List Char)} (h : behindMainWord (wordsSigns P.initOrder.toList) = signs3 :: R) (h1 : P.laysLater = false) (h2 : P.bearsReflect = false) (h3 : P.doorFits [] = true) : P.mayEnter = true := by
  unfold Program.mayEnter
  rw [h]
  simp only [strip_of, h1, h2, h3]
  kernel_rfl
theorem head_behind : behindMainWord (wordsSigns Try.prog.initOrder.toList) = signs3 :: wordsSigns signs4 := behind_of head_words
theorem fact_later : Try.prog.laysLater = false := by kernel_rfl
theorem fact_reflect : Try.prog.bearsReflect = false := by kernel_rfl
theorem fact_door : Try.prog.doorFits [] = true := by kernel_rfl
theorem fact_enter : Try.prog.mayEnter = true := enter_of head_behind fact_later fact_reflect fact_door
theorem fact_lifts : Try.prog.liftsFinal = false := lifts_of head_behind
theorem fact_make : Try.prog.make = some .cut := make_of head_behind
theorem band {a b : Bool} (h1 : a = true) (h2 : b = true) : (a && b) = true := by rw [h1, h2]; rfl
end Go.Proofs.Qxb6001664a
