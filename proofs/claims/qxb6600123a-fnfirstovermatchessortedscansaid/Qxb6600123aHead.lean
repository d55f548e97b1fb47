import Derived.Test.Qxb6600123aRows
import Derived.JoinedOf
import Derived.KernelRfl
namespace Go.Proofs.Qxb6600123a

/-! The head of the dump, sign by sign: its text as one string is dear to the kernel (some 80 s and 9 GB a fact): here its first three words are taken off by a law. -/
def signs1 : List Char := ['h', 'a', 'r', 'n', 'e', 's', 's']
def signs2 : List Char := ['0', '3', '4', '8', '3', '3', 'f', 'd', 'b', '0', 'a', 'b', '6', '8', 'a', '8', 'e', 'b', '8', 'a', '4', '1', '2', '4', '0', '1', '1', 'b', '9', 'c', 'c', '6', 'c', '2', 'b', '5', 'f', '5', '5', '6', '9', 'c', '4', '9', '9', '8', '5', 'e', '9', 'b', 'd', '3', '5', '4', '3', '7', '3', 'c', '0', 'f', 'f', '6', 'a', 'f']
def signs3 : List Char := ['c', 'u', 't']
def signs4 : List Char := ['a', 't', ' ', 'e', 'x', 'a', 'm', 'p', 'l', 'e', '.', 'c', 'o', 'm', '/', 'n', 'u', 'm', 'a', 'l', 'i', 'n', 'e', '/', 'n', 'u', 'm', 'a', 'l', 'i', 'n', 'e', '/', 'z', 'z', 'l', 'a', 'w', 's', '_', 'i', 'n', 't', 'e', 'r', 'n', 'a', 'l', '_', 'e', 'n', 'g', 'i', 'n', 'e', '_', 'b', '1', '.', 'F', 'n', 'F', 'i', 'r', 's', 't', 'O', 'v', 'e', 'r', 'M', 'a', 't', 'c', 'h', 'e', 's', 'S', 'o', 'r', 't', 'e', 'd', 'S', 'c', 'a', 'n', ' ', 'e', 'x', 'a', 'm', 'p', 'l', 'e', '.', 'c', 'o', 'm', '/', 'n', 'u', 'm', 'a', 'l', 'i', 'n', 'e', '/', 'n', 'u', 'm', 'a', 'l', 'i', 'n', 'e', '/', 'z', 'z', 'l', 'a', 'w', 's', '_', 'i', 'n', 't', 'e', 'r', 'n', 'a', 'l', '_', 'e', 'n', 'g', 'i', 'n', 'e', '_', 'b', '1', '.', 'F', 'n', 'F', 'i', 'r', 's', 't', 'O', 'v', 'e', 'r', 'P', 'e', 'r', 'm', 'u', 't', 'e', 's', 'K', 'e', 'y', 's', ' ', 'e', 'x', 'a', 'm', 'p', 'l', 'e', '.', 'c', 'o', 'm', '/', 'n', 'u', 'm', 'a', 'l', 'i', 'n', 'e', '/', 'n', 'u', 'm', 'a', 'l', 'i', 'n', 'e', '/', 'z', 'z', 'l', 'a', 'w', 's', '_', 'i', 'n', 't', 'e', 'r', 'n', 'a', 'l', '_', 'e', 'n', 'g', 'i', 'n', 'e', '_', 'b', '1', '.', 'F', 'n', 'F', 'i', 'r', 's', 't', 'O', 'v', 'e', 'r', 'D', 'e', 'e', 'p', 'e', 'r', 'W', 'i', 't', 'h', 'M', 'o', 'r', 'e', 'R', 'o', 'o', 'm', ' ', 'e', 'x', 'a', 'm', 'p', 'l', 'e', '.', 'c', 'o', 'm', '/', 'n', 'u', 'm', 'a', 'l', 'i', 'n', 'e', '/', 'n', 'u', 'm', 'a', 'l', 'i', 'n', 'e', '/', 'z', 'z', 'l', 'a', 'w', 's', '_', 'i', 'n', 't', 'e', 'r', 'n', 'a', 'l', '_', 'e', 'n', 'g', 'i', 'n', 'e', '_', 'b', '1', '.', 'F', 'n', 'G', 'r', 'o', 'u', 'p', 'N', 'u', 'm', 'b', 'e', 'r', 's', 'D', 'i', 's', 't', 'i', 'n', 'c', 't', 'N', 'o', 'd', 'e', 'S', 'e', 't', 's', ' ', 'e', 'x', 'a', 'm', 'p', 'l', 'e', '.', 'c', 'o', 'm', '/', 'n', 'u', 'm', 'a', 'l', 'i', 'n', 'e', '/', 'n', 'u', 'm', 'a', 'l', 'i', 'n', 'e', '/', 'z', 'z', 'l', 'a', 'w', 's', '_', 'i', 'n', 't', 'e', 'r', 'n', 'a', 'l', '_', 'e', 'n', 'g', 'i', 'n', 'e', '_', 'b', '1', '.', 'F', 'n', 'G', 'r', 'o', 'u', 'p', 'F', 'r', 'e', 'e', 'C', 'h', 'a', 'n', 'g', 'e', 's', 'O', 'n', 'l', 'y', 'F', 'r', 'e', 'e', 'C', 'o', 'u', 'n', 't', 's', ' ', 'e', 'x', 'a', 'm', 'p', 'l', 'e', '.', 'c', 'o', 'm', '/', 'n', 'u', 'm', 'a', 'l', 'i', 'n', 'e', '/', 'n', 'u', 'm', 'a', 'l', 'i', 'n', 'e', '/', 'z', 'z', 'l', 'a', 'w', 's', '_', 'i', 'n', 't', 'e', 'r', 'n', 'a', 'l', '_', 'e', 'n', 'g', 'i', 'n', 'e', '_', 'b', '1', '.', 'F', 'n', 'F', 'a', 'i', 'l', 'u', 'r', 'e', 's', 'A', 'd', 'd', 'K', 'e', 'e', 'p', 's', 'U', 'n', 'c', 'o', 'v', 'e', 'r', 'e', 'd', 'A', 'n', 'd', 'N', 'e', 'w', ' ', 'e', 'x', 'a', 'm', 'p', 'l', 'e', '.', 'c', 'o', 'm', '/', 'n', 'u', 'm', 'a', 'l', 'i', 'n', 'e', '/', 'n', 'u', 'm', 'a', 'l', 'i', 'n', 'e', '/', 'z', 'z', 'l', 'a', 'w', 's', '_', 'i', 'n', 't', 'e', 'r', 'n', 'a', 'l', '_', 'e', 'n', 'g', 'i', 'n', 'e', '_', 'b', '1', '.', 'F', 'n', 'F', 'a', 'i', 'l', 'u', 'r', 'e', 's', 'U', 'n', 'p', 'r', 'u', 'n', 'e', 'd', 'K', 'e', 'e', 'p', 's', 'L', 'a', 's', 't', 'M', 'o', 's', 't', ' ', 'e', 'x', 'a', 'm', 'p', 'l', 'e', '.', 'c', 'o', 'm', '/', 'n', 'u', 'm', 'a', 'l', 'i', 'n', 'e', '/', 'n', 'u', 'm', 'a', 'l', 'i', 'n', 'e', '/', 'z', 'z', 'l', 'a', 'w', 's', '_', 'i', 'n', 't', 'e', 'r', 'n', 'a', 'l', '_', 'e', 'n', 'g', 'i', 'n', 'e', '_', 'b', '1', '.', 'F', 'n', 'F', 'a', 'i', 'l', 'u', 'r', 'e', 's', 'P', 'r', 'u', 'n', 'e', 'd', 'N', 'o', 'N', 'e', 'w', 'e', 'r', 'C', 'o', 'v', 'e', 'r', 's', 'O', 'l', 'd', 'e', 'r']
theorem head_is : Try.prog.initOrder = String.ofList (signs1 ++ ' ' :: (signs2 ++ ' ' :: (signs3 ++ ' ' :: signs4))) := by kernel_rfl
theorem word_step : ∀ (w r : List Char), w.all (fun c => c != ' ') = true → wordsSigns (w ++ ' ' :: r) = w :: wordsSigns r
  | [], r, _ => by simp [wordsSigns]
  | c :: w, r, h => by
    simp only [List.all_cons, Bool.and_eq_true, bne_iff_ne, ne_eq] at h
    have ih := word_step w r h.2
    rw [List.cons_append, wordsSigns, ih]
    exact h.1
theorem head_words : wordsSigns Try.prog.initOrder.toList = signs1 :: signs2 :: signs3 :: wordsSigns signs4 := by
  rw [head_is, String.toList_ofList, word_step _ _ (by decide), word_step _ _ (by decide), word_step _ _ (by decide)]
theorem behind_of {P : Program} {R : List (List Char)} (h : wordsSigns P.initOrder.toList = signs1 :: signs2 :: signs3 :: R) : behindMainWord (wordsSigns P.initOrder.toList) = signs3 :: R := by
  rw [h]
  kernel_rfl
theorem strip_of (R : List (List Char)) : stripLifts liftWords (signs3 :: R) = ([], signs3 :: R) := by kernel_rfl
theorem make_of {P : Program} {R : List (List Char)} (h : behindMainWord (wordsSigns P.initOrder.toList) = signs3 :: R) : P.make = some .cut := by
  unfold Program.make
  rw [h]
  kernel_rfl
theorem lifts_of {P : Program} {R : List (List Char)} (h : behindMainWord (wordsSigns P.initOrder.toList) = signs3 :: R) : P.liftsFinal = false := by
  unfold Program.liftsFinal Program.headLifts
  rw [h, strip_of]
  kernel_rfl
theorem enter_of {P : Program} {R : List (List Char)} (h : behindMainWord (wordsSigns P.initOrder.toList) = signs3 :: R) (h1 : P.laysLater = false) (h2 : P.bearsReflect = false) (h3 : P.doorFits [] = true) : P.mayEnter = true := by
  unfold Program.mayEnter
  rw [h]
  simp only [strip_of, h1, h2, h3]
  kernel_rfl
theorem head_behind : behindMainWord (wordsSigns Try.prog.initOrder.toList) = signs3 :: wordsSigns signs4 := behind_of head_words
theorem fact_later : Try.prog.laysLater = false := by kernel_rfl
theorem fact_reflect : Try.prog.bearsReflect = false := by kernel_rfl
theorem fact_door : Try.prog.doorFits [] = true := by kernel_rfl
theorem fact_enter : Try.prog.mayEnter = true := enter_of head_behind fact_later fact_reflect fact_door
theorem fact_lifts : Try.prog.liftsFinal = false := lifts_of head_behind
theorem fact_make : Try.prog.make = some .cut := make_of head_behind
theorem band {a b : Bool} (h1 : a = true) (h2 : b = true) : (a && b) = true := by rw [h1, h2]; rfl
end Go.Proofs.Qxb6600123a
