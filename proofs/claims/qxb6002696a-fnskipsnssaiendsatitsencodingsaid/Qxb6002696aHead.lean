/- The dump's head, read once: its signs as numbers, its words; the closed facts of a row that hang on it. -/
import Derived.Test.Qxb6002696aRows
import Derived.JoinedOf
import Derived.ProofKit
namespace Go.Proofs.Qxb6002696a

/-- The head's sum, and the rest behind the word 'cut', by the signs' numbers. -/
def headSum : List Nat := [
  50, 97, 55, 53, 98, 101, 53, 101, 49, 48, 49, 100, 97, 99, 101, 98, 52, 57, 49, 101, 55, 52, 55, 54, 48, 55, 97, 99, 56, 49, 102, 49, 51, 97, 57, 55, 56, 49, 55, 56,
  55, 102, 97, 56, 50, 49, 101, 98, 98, 101, 53, 98, 48, 101, 48, 57, 48, 55, 55, 100, 54, 51, 102, 102]
def headRest : List Nat := [
  97, 116, 32, 101, 120, 97, 109, 112, 108, 101, 46, 99, 111, 109, 47, 104, 117, 115, 104, 108, 105, 110, 101, 47, 104, 117, 115, 104, 108, 105, 110, 101, 47, 122, 122, 108, 97, 119, 115, 95,
  105, 110, 116, 101, 114, 110, 97, 108, 95, 99, 97, 112, 116, 117, 114, 101, 95, 98, 49, 46, 70, 110, 84, 115, 110, 76, 111, 103, 83, 101, 101, 110, 73, 115, 69, 97, 114, 108, 105, 101,
  114, 79, 99, 99, 117, 114, 114, 101, 110, 99, 101, 32, 101, 120, 97, 109, 112, 108, 101, 46, 99, 111, 109, 47, 104, 117, 115, 104, 108, 105, 110, 101, 47, 104, 117, 115, 104, 108, 105, 110,
  101, 47, 122, 122, 108, 97, 119, 115, 95, 105, 110, 116, 101, 114, 110, 97, 108, 95, 99, 97, 112, 116, 117, 114, 101, 95, 98, 49, 46, 70, 110, 84, 115, 110, 76, 111, 103, 82, 101, 109,
  101, 109, 98, 101, 114, 115, 69, 118, 101, 114, 121, 83, 101, 101, 110, 65, 110, 100, 78, 111, 79, 116, 104, 101, 114, 32, 101, 120, 97, 109, 112, 108, 101, 46, 99, 111, 109, 47, 104, 117,
  115, 104, 108, 105, 110, 101, 47, 104, 117, 115, 104, 108, 105, 110, 101, 47, 122, 122, 108, 97, 119, 115, 95, 105, 110, 116, 101, 114, 110, 97, 108, 95, 99, 97, 112, 116, 117, 114, 101, 95,
  98, 49, 46, 70, 110, 83, 107, 105, 112, 69, 120, 116, 101, 110, 115, 105, 111, 110, 115, 69, 110, 100, 115, 65, 116, 73, 116, 115, 69, 110, 99, 111, 100, 105, 110, 103, 32, 101, 120, 97,
  109, 112, 108, 101, 46, 99, 111, 109, 47, 104, 117, 115, 104, 108, 105, 110, 101, 47, 104, 117, 115, 104, 108, 105, 110, 101, 47, 122, 122, 108, 97, 119, 115, 95, 105, 110, 116, 101, 114, 110,
  97, 108, 95, 99, 97, 112, 116, 117, 114, 101, 95, 98, 49, 46, 70, 110, 83, 107, 105, 112, 69, 120, 116, 101, 110, 115, 105, 111, 110, 115, 82, 101, 102, 117, 115, 101, 115, 65, 67, 117,
  116, 69, 110, 99, 111, 100, 105, 110, 103, 32, 101, 120, 97, 109, 112, 108, 101, 46, 99, 111, 109, 47, 104, 117, 115, 104, 108, 105, 110, 101, 47, 104, 117, 115, 104, 108, 105, 110, 101, 47,
  122, 122, 108, 97, 119, 115, 95, 105, 110, 116, 101, 114, 110, 97, 108, 95, 99, 97, 112, 116, 117, 114, 101, 95, 98, 49, 46, 70, 110, 83, 107, 105, 112, 69, 120, 116, 101, 110, 115, 105,
  111, 110, 115, 83, 116, 97, 121, 115, 73, 110, 66, 111, 117, 110, 100, 115, 32, 101, 120, 97, 109, 112, 108, 101, 46, 99, 111, 109, 47, 104, 117, 115, 104, 108, 105, 110, 101, 47, 104, 117,
  115, 104, 108, 105, 110, 101, 47, 122, 122, 108, 97, 119, 115, 95, 105, 110, 116, 101, 114, 110, 97, 108, 95, 99, 97, 112, 116, 117, 114, 101, 95, 98, 49, 46, 70, 110, 83, 107, 105, 112,
  83, 78, 83, 83, 65, 73, 69, 110, 100, 115, 65, 116, 73, 116, 115, 69, 110, 99, 111, 100, 105, 110, 103, 32, 101, 120, 97, 109, 112, 108, 101, 46, 99, 111, 109, 47, 104, 117, 115, 104,
  108, 105, 110, 101, 47, 104, 117, 115, 104, 108, 105, 110, 101, 47, 122, 122, 108, 97, 119, 115, 95, 105, 110, 116, 101, 114, 110, 97, 108, 95, 99, 97, 112, 116, 117, 114, 101, 95, 98, 49,
  46, 70, 110, 83, 107, 105, 112, 83, 78, 83, 83, 65, 73, 82, 101, 102, 117, 115, 101, 115, 65, 67, 117, 116, 69, 110, 99, 111, 100, 105, 110, 103, 32, 101, 120, 97, 109, 112, 108, 101,
  46, 99, 111, 109, 47, 104, 117, 115, 104, 108, 105, 110, 101, 47, 104, 117, 115, 104, 108, 105, 110, 101, 47, 122, 122, 108, 97, 119, 115, 95, 105, 110, 116, 101, 114, 110, 97, 108, 95, 99,
  97, 112, 116, 117, 114, 101, 95, 98, 49, 46, 70, 110, 83, 107, 105, 112, 83, 78, 83, 83, 65, 73, 83, 116, 97, 121, 115, 73, 110, 66, 111, 117, 110, 100, 115]
def signs (l : List Nat) : List Char := l.map Char.ofNat
theorem head_is : Try.prog.initOrder = String.ofList ("harness".toList ++ ' ' :: (signs headSum ++ ' ' :: ("cut".toList ++ ' ' :: signs headRest))) := by kernel_rfl
theorem head_signs : Try.prog.initOrder.toList = "harness".toList ++ ' ' :: (signs headSum ++ ' ' :: ("cut".toList ++ ' ' :: signs headRest)) := by rw [head_is]; exact String.toList_ofList
theorem words_word : ∀ (w r : List Char), (w.all fun c => c != ' ') = true → wordsSigns (w ++ ' ' :: r) = w :: wordsSigns r
  | [], r, _ => by simp [wordsSigns]
  | c :: w, r, h => by
    simp only [List.all_cons, Bool.and_eq_true, bne_iff_ne] at h
    have ih := words_word w r h.2
    rw [List.cons_append, wordsSigns, ih]
    exact fun e => h.1 e
/-- The head's words behind 'cut'. -/
def headTail : List (List Char) := wordsSigns (signs headRest)
theorem head_words : behindMainWord (wordsSigns Try.prog.initOrder.toList) = "cut".toList :: headTail := by
  rw [head_signs, words_word _ _ (by kernel_rfl), words_word _ _ (by kernel_rfl), words_word _ _ (by kernel_rfl)]
  unfold behindMainWord
  show (if _ then _ else _) = _
  rw [if_pos (by rw [beq_self_eq_true]; kernel_rfl)]
  rfl
theorem strip_cut (T : List (List Char)) : stripLifts liftWords ("cut".toList :: T) = ([], "cut".toList :: T) := by kernel_rfl
theorem lifts_of {P : Program} {T : List (List Char)} (h : behindMainWord (wordsSigns P.initOrder.toList) = "cut".toList :: T) : P.headLifts = [] := by
  unfold Program.headLifts
  rw [h, strip_cut]
  simp
theorem make_of {P : Program} {T : List (List Char)} (h : behindMainWord (wordsSigns P.initOrder.toList) = "cut".toList :: T) : P.make = some .cut := by
  unfold Program.make
  rw [h]
  simp
theorem final_of {P : Program} {T : List (List Char)} (h : behindMainWord (wordsSigns P.initOrder.toList) = "cut".toList :: T) : P.liftsFinal = false := by
  have h2 : (some "cut".toList == some "carried".toList) = false := by kernel_rfl
  unfold Program.liftsFinal
  rw [lifts_of h, h]
  simp only [List.head?_cons, h2, Bool.false_and, Bool.false_or]
  rfl
theorem enter_of {P : Program} {T : List (List Char)} (h : behindMainWord (wordsSigns P.initOrder.toList) = "cut".toList :: T) (h1 : P.laysLater = false) (h2 : P.bearsReflect = false) (h3 : P.doorFits [] = true) : P.mayEnter = true := by
  unfold Program.mayEnter
  rw [h]
  simp only [strip_cut, h1, h2, h3, List.head?_cons, beq_self_eq_true]
  simp
theorem head_make : Try.prog.make = some .cut := make_of head_words
theorem head_final : Try.prog.liftsFinal = false := final_of head_words
theorem head_later : Try.prog.laysLater = false := by kernel_rfl
theorem head_reflect : Try.prog.bearsReflect = false := by kernel_rfl
theorem head_door : Try.prog.doorFits [] = true := by kernel_rfl
theorem head_enter : Try.prog.mayEnter = true := enter_of head_words head_later head_reflect head_door
end Go.Proofs.Qxb6002696a
