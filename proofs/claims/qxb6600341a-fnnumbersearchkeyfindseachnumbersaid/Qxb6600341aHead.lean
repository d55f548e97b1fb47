import Derived.Test.Qxb6600341aRows
import Derived.JoinedOf
import Derived.KernelRfl
namespace Go.Proofs.Qxb6600341a

/-! The head of the dump, sign by sign: its text as one string is dear to the kernel (some 80 s and 9 GB a fact): here its first three words are taken off by a law. -/
def signs1 : List Char := ['h', 'a', 'r', 'n', 'e', 's', 's']
def signs2 : List Char := ['9', '2', '2', '4', 'd', '2', '1', '1', 'f', '3', 'f', '2', '1', '7', 'b', 'a', 'e', '8', 'd', '2', 'c', '8', 'c', '8', '0', '2', '7', '2', 'b', 'c', 'a', 'c', '4', 'a', 'e', 'f', 'd', '8', '7', 'f', 'd', '5', 'e', '5', 'c', '0', 'e', '4', '4', '4', '6', '3', 'f', '9', '6', '3', '2', 'f', '7', '1', '3', '8', 'c', 'c']
def signs3 : List Char := ['c', 'u', 't']
def signs4 : List Char := ['a', 't', ' ', 'e', 'x', 'a', 'm', 'p', 'l', 'e', '.', 'c', 'o', 'm', '/', 'g', 'a', 't', 'e', 'h', 'o', 'u', 's', 'e', '/', 'g', 'a', 't', 'e', 'h', 'o', 'u', 's', 'e', '/', 'z', 'z', 'l', 'a', 'w', 's', '_', 'i', 'n', 't', 'e', 'r', 'n', 'a', 'l', '_', 'g', 'a', 't', 'e', '_', 'b', '1', '.', 'F', 'n', 'P', 'a', 'r', 't', 's', 'O', 'f', 'E', 'x', 'a', 'c', 't', ' ', 'e', 'x', 'a', 'm', 'p', 'l', 'e', '.', 'c', 'o', 'm', '/', 'g', 'a', 't', 'e', 'h', 'o', 'u', 's', 'e', '/', 'g', 'a', 't', 'e', 'h', 'o', 'u', 's', 'e', '/', 'z', 'z', 'l', 'a', 'w', 's', '_', 'i', 'n', 't', 'e', 'r', 'n', 'a', 'l', '_', 'g', 'a', 't', 'e', '_', 'b', '1', '.', 'F', 'n', 'P', 'a', 'r', 't', 's', 'O', 'f', 'I', 'g', 'n', 'o', 'r', 'e', 's', 'P', 'a', 'd', 'd', 'i', 'n', 'g', 'Z', 'e', 'r', 'o', 's', ' ', 'e', 'x', 'a', 'm', 'p', 'l', 'e', '.', 'c', 'o', 'm', '/', 'g', 'a', 't', 'e', 'h', 'o', 'u', 's', 'e', '/', 'g', 'a', 't', 'e', 'h', 'o', 'u', 's', 'e', '/', 'z', 'z', 'l', 'a', 'w', 's', '_', 'i', 'n', 't', 'e', 'r', 'n', 'a', 'l', '_', 'g', 'a', 't', 'e', '_', 'b', '1', '.', 'F', 'n', 'N', 'u', 'm', 'b', 'e', 'r', 'S', 'e', 'a', 'r', 'c', 'h', 'K', 'e', 'y', 'F', 'i', 'n', 'd', 's', 'E', 'a', 'c', 'h', 'N', 'u', 'm', 'b', 'e', 'r']
theorem head_is : Try.prog.initOrder = String.ofList (signs1 ++ ' ' :: (signs2 ++ ' ' :: (signs3 ++ ' ' :: signs4))) := by kernel_rfl
theorem word_step : ∀ (w r : List Char), w.all (fun c => c != ' ') = true → wordsSigns (w ++ ' ' :: r) = w :: wordsSigns r
  | [], r, _ => by simp [wordsSigns]
  | c :: w, r, h => by
    simp only [List.all_cons, Bool.and_eq_true, bne_iff_ne, ne_eq] at h
    have ih := word_step w r h.2
    rw [List.cons_append, wordsSigns, ih]
    exact h.1
theorem head_words : wordsSigns Try.prog.initOrder.toList = signs1 :: signs2 :: signs3 :: wordsSigns signs4 := by
  rw [head_is, String.toList_ofList, word_step _ _ (by decide), word_step _ _ (by decide), word_step _ _ (by decide)]
theorem behind_of {P : Program} {R : List (List Char)} (h : wordsSigns P.initOrder.toList = signs1 :: signs2 :: signs3 :: R) : behindMainWord (wordsSigns P.initOrder.toList) = signs3 :: R := by
  rw [h]
  kernel_rfl
theorem strip_of (R : List (List Char)) : stripLifts liftWords (signs3 :: R) = ([], signs3 :: R) := by kernel_rfl
theorem make_of {P : Program} {R : List (List Char)} (h : behindMainWord (wordsSigns P.initOrder.toList) = signs3 :: R) : P.make = some .cut := by
  unfold Program.make
  rw [h]
  kernel_rfl
theorem lifts_of {P : Program} {R : List (List Char)} (h : behindMainWord (wordsSigns P.initOrder.toList) = signs3 :: R) : P.liftsFinal = false := by
  unfold Program.liftsFinal Program.headLifts
  rw [h, strip_of]
  kernel_rfl
theorem enter_of {P : Program} {R : List (List Char)} (h : behindMainWord (wordsSigns P.initOrder.toList) = signs3 :: R) (h1 : P.laysLater = false) (h2 : P.bearsReflect = false) (h3 : P.doorFits [] = true) : P.mayEnter = true := by
  unfold Program.mayEnter
  rw [h]
  simp only [strip_of, h1, h2, h3]
  kernel_rfl
theorem head_behind : behindMainWord (wordsSigns Try.prog.initOrder.toList) = signs3 :: wordsSigns signs4 := behind_of head_words
theorem fact_later : Try.prog.laysLater = false := by kernel_rfl
theorem fact_reflect : Try.prog.bearsReflect = false := by kernel_rfl
theorem fact_door : Try.prog.doorFits [] = true := by kernel_rfl
theorem fact_enter : Try.prog.mayEnter = true := enter_of head_behind fact_later fact_reflect fact_door
theorem fact_lifts : Try.prog.liftsFinal = false := lifts_of head_behind
theorem fact_make : Try.prog.make = some .cut := make_of head_behind
theorem band {a b : Bool} (h1 : a = true) (h2 : b = true) : (a && b) = true := by rw [h1, h2]; rfl
end Go.Proofs.Qxb6600341a
