/-
  DERIVED. Closed facts on the head of this seat's translation ('mayEnter', 'liftsFinal', 'make') BY THE HEAD's SIGNS WRITTEN OUT AS NUMBERS: asked of the string itself the kernel takes more than ten gigabytes ('wordsSigns' over some thousand signs): here only the head's first three words are parted. No program text.
-/
import Derived.Test.Qxb6602372aRows
import Derived.KernelRfl
namespace Go.Proofs.Qxb6602372a
namespace Head
def n1 : List Nat := [104, 97, 114, 110, 101, 115, 115]
def n2 : List Nat := [101, 98, 50, 55, 50, 56, 51, 48, 97, 54, 48, 102, 55, 52, 48, 48, 48, 98, 100, 98, 57, 48, 54, 100, 50, 48, 102, 51, 102, 51, 48, 54, 101, 56, 100, 54, 52, 51, 56, 100,
  102, 55, 56, 53, 99, 55, 55, 52, 99, 53, 99, 97, 53, 48, 100, 51, 100, 100, 52, 54, 52, 100, 51, 56]
def n3 : List Nat := [99, 117, 116]
def n4 : List Nat := [97, 116, 32, 101, 120, 97, 109, 112, 108, 101, 46, 99, 111, 109, 47, 112, 97, 114, 108, 101, 121, 47, 112, 97, 114, 108, 101, 121, 47, 122, 122, 108, 97, 119, 115, 95, 105, 110, 116, 101,
  114, 110, 97, 108, 95, 106, 115, 111, 110, 115, 99, 97, 110, 95, 98, 49, 46, 70, 110, 67, 108, 111, 115, 105, 110, 103, 81, 117, 111, 116, 101, 77, 97, 116, 99, 104, 101, 115, 69, 115,
  99, 97, 112, 101, 83, 99, 97, 110, 110, 101, 114, 32, 101, 120, 97, 109, 112, 108, 101, 46, 99, 111, 109, 47, 112, 97, 114, 108, 101, 121, 47, 112, 97, 114, 108, 101, 121, 47, 122, 122,
  108, 97, 119, 115, 95, 105, 110, 116, 101, 114, 110, 97, 108, 95, 106, 115, 111, 110, 115, 99, 97, 110, 95, 98, 49, 46, 70, 110, 67, 108, 111, 115, 105, 110, 103, 81, 117, 111, 116, 101,
  73, 103, 110, 111, 114, 101, 115, 87, 104, 97, 116, 70, 111, 108, 108, 111, 119, 115, 32, 101, 120, 97, 109, 112, 108, 101, 46, 99, 111, 109, 47, 112, 97, 114, 108, 101, 121, 47, 112, 97,
  114, 108, 101, 121, 47, 122, 122, 108, 97, 119, 115, 95, 105, 110, 116, 101, 114, 110, 97, 108, 95, 106, 115, 111, 110, 115, 99, 97, 110, 95, 98, 49, 46, 70, 110, 67, 108, 111, 115, 105,
  110, 103, 81, 117, 111, 116, 101, 70, 105, 110, 100, 115, 84, 104, 101, 81, 117, 111, 116, 101, 65, 102, 116, 101, 114, 69, 115, 99, 97, 112, 101, 100, 84, 101, 120, 116, 32, 101, 120, 97,
  109, 112, 108, 101, 46, 99, 111, 109, 47, 112, 97, 114, 108, 101, 121, 47, 112, 97, 114, 108, 101, 121, 47, 122, 122, 108, 97, 119, 115, 95, 105, 110, 116, 101, 114, 110, 97, 108, 95, 106,
  115, 111, 110, 115, 99, 97, 110, 95, 98, 49, 46, 70, 110, 86, 97, 108, 117, 101, 69, 110, 100, 77, 97, 116, 99, 104, 101, 115, 79, 110, 101, 80, 97, 115, 115, 83, 99, 97, 110, 110,
  101, 114, 32, 101, 120, 97, 109, 112, 108, 101, 46, 99, 111, 109, 47, 112, 97, 114, 108, 101, 121, 47, 112, 97, 114, 108, 101, 121, 47, 122, 122, 108, 97, 119, 115, 95, 105, 110, 116, 101,
  114, 110, 97, 108, 95, 106, 115, 111, 110, 115, 99, 97, 110, 95, 98, 49, 46, 70, 110, 86, 97, 108, 117, 101, 69, 110, 100, 82, 101, 97, 100, 115, 84, 104, 101, 83, 97, 109, 101, 86,
  97, 108, 117, 101, 67, 117, 116, 79, 117, 116, 32, 101, 120, 97, 109, 112, 108, 101, 46, 99, 111, 109, 47, 112, 97, 114, 108, 101, 121, 47, 112, 97, 114, 108, 101, 121, 47, 122, 122, 108,
  97, 119, 115, 95, 105, 110, 116, 101, 114, 110, 97, 108, 95, 106, 115, 111, 110, 115, 99, 97, 110, 95, 98, 49, 46, 70, 110, 86, 97, 108, 117, 101, 69, 110, 100, 73, 103, 110, 111, 114,
  101, 115, 87, 104, 97, 116, 70, 111, 108, 108, 111, 119, 115, 65, 67, 108, 111, 115, 101, 100, 86, 97, 108, 117, 101, 32, 101, 120, 97, 109, 112, 108, 101, 46, 99, 111, 109, 47, 112, 97,
  114, 108, 101, 121, 47, 112, 97, 114, 108, 101, 121, 47, 122, 122, 108, 97, 119, 115, 95, 105, 110, 116, 101, 114, 110, 97, 108, 95, 106, 115, 111, 110, 115, 99, 97, 110, 95, 98, 49, 46,
  70, 110, 80, 117, 115, 104, 83, 101, 116, 115, 79, 110, 108, 121, 84, 104, 101, 78, 101, 119, 66, 105, 116, 32, 101, 120, 97, 109, 112, 108, 101, 46, 99, 111, 109, 47, 112, 97, 114, 108,
  101, 121, 47, 112, 97, 114, 108, 101, 121, 47, 122, 122, 108, 97, 119, 115, 95, 105, 110, 116, 101, 114, 110, 97, 108, 95, 106, 115, 111, 110, 115, 99, 97, 110, 95, 98, 49, 46, 70, 110,
  80, 117, 115, 104, 83, 99, 114, 105, 112, 116, 82, 101, 99, 111, 114, 100, 115, 69, 97, 99, 104, 70, 108, 97, 103]
def signs (l : List Nat) : List Char := l.map Char.ofNat
theorem headOf : Try.prog.initOrder = String.ofList (signs (n1 ++ 32 :: (n2 ++ 32 :: (n3 ++ 32 :: n4)))) := by kernel_rfl
theorem words_cons (w r : List Char) (h : w.all (fun c => c != ' ') = true) : wordsSigns (w ++ ' ' :: r) = w :: wordsSigns r := by
  induction w with
  | nil => rfl
  | cons c w ih =>
    simp only [List.all_cons, Bool.and_eq_true, bne_iff_ne, ne_eq] at h
    have ih' := ih h.2
    rw [List.cons_append, wordsSigns]
    · rw [ih']
    · exact h.1
theorem words : wordsSigns Try.prog.initOrder.toList = signs n1 :: signs n2 :: signs n3 :: wordsSigns (signs n4) := by
  rw [headOf, String.toList_ofList]
  have e : signs (n1 ++ 32 :: (n2 ++ 32 :: (n3 ++ 32 :: n4))) = signs n1 ++ ' ' :: (signs n2 ++ ' ' :: (signs n3 ++ ' ' :: signs n4)) := by
    simp only [signs, List.map_append, List.map_cons]
  rw [e, words_cons _ _ (by decide +kernel), words_cons _ _ (by decide +kernel), words_cons _ _ (by decide +kernel)]
theorem behind : behindMainWord (wordsSigns Try.prog.initOrder.toList) = signs n3 :: wordsSigns (signs n4) := by
  rw [words]
  generalize wordsSigns (signs n4) = r
  kernel_rfl
theorem make_of (P : Program) (rest : List (List Char)) (h : behindMainWord (wordsSigns P.initOrder.toList) = signs n3 :: rest) : P.make = some Make.cut := by
  unfold Program.make
  rw [h]
  kernel_rfl
theorem liftsFinal_of (P : Program) (rest : List (List Char)) (h : behindMainWord (wordsSigns P.initOrder.toList) = signs n3 :: rest) : P.liftsFinal = false := by
  unfold Program.liftsFinal Program.headLifts
  rw [h]
  kernel_rfl
theorem mayEnter_of (P : Program) (rest : List (List Char)) (h : behindMainWord (wordsSigns P.initOrder.toList) = signs n3 :: rest)
    (h1 : P.laysLater = false) (h2 : P.bearsReflect = false) (h3 : P.doorRows = []) : P.mayEnter = true := by
  unfold Program.mayEnter Program.doorFits
  rw [h, h1, h2, h3]
  kernel_rfl
theorem make : Try.prog.make = some Make.cut := make_of _ _ behind
theorem liftsFinal : Try.prog.liftsFinal = false := liftsFinal_of _ _ behind
theorem mayEnter : Try.prog.mayEnter = true := mayEnter_of _ _ behind (by kernel_rfl) (by kernel_rfl) (by kernel_rfl)
end Head
end Go.Proofs.Qxb6602372a
