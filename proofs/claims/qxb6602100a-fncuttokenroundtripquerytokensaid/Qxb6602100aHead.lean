/-
  DERIVED. Closed facts on the head of this seat's translation ('mayEnter', 'liftsFinal', 'make') BY THE HEAD's SIGNS WRITTEN OUT AS NUMBERS: asked of the string itself the kernel takes more than ten gigabytes ('wordsSigns' over some thousand signs): here only the head's first three words are parted. No program text.
-/
import Derived.Test.Qxb6602100aRows
import Derived.KernelRfl
namespace Go.Proofs.Qxb6602100a
namespace Head
def n1 : List Nat := [104, 97, 114, 110, 101, 115, 115]
def n2 : List Nat := [102, 55, 97, 49, 55, 49, 50, 52, 56, 102, 55, 98, 97, 53, 49, 49, 100, 49, 53, 54, 49, 97, 100, 57, 100, 52, 51, 101, 48, 55, 53, 53, 52, 98, 98, 97, 53, 97, 48, 99,
  54, 98, 56, 54, 100, 48, 101, 48, 49, 99, 98, 101, 54, 99, 54, 97, 52, 98, 57, 51, 97, 51, 56, 98]
def n3 : List Nat := [99, 117, 116]
def n4 : List Nat := [97, 116, 32, 101, 120, 97, 109, 112, 108, 101, 46, 99, 111, 109, 47, 103, 97, 116, 101, 109, 97, 114, 107, 47, 103, 97, 116, 101, 109, 97, 114, 107, 47, 122, 122, 108, 97, 119, 115, 95,
  114, 111, 111, 116, 95, 98, 49, 46, 70, 110, 73, 110, 116, 101, 114, 118, 97, 108, 76, 101, 110, 77, 97, 116, 99, 104, 101, 115, 66, 114, 97, 99, 101, 77, 111, 100, 101, 108, 32, 101,
  120, 97, 109, 112, 108, 101, 46, 99, 111, 109, 47, 103, 97, 116, 101, 109, 97, 114, 107, 47, 103, 97, 116, 101, 109, 97, 114, 107, 47, 122, 122, 108, 97, 119, 115, 95, 114, 111, 111, 116,
  95, 98, 49, 46, 70, 110, 73, 110, 116, 101, 114, 118, 97, 108, 76, 101, 110, 70, 111, 117, 110, 100, 73, 110, 116, 101, 114, 118, 97, 108, 73, 115, 69, 120, 97, 99, 116, 80, 114, 101,
  102, 105, 120, 32, 101, 120, 97, 109, 112, 108, 101, 46, 99, 111, 109, 47, 103, 97, 116, 101, 109, 97, 114, 107, 47, 103, 97, 116, 101, 109, 97, 114, 107, 47, 122, 122, 108, 97, 119, 115,
  95, 114, 111, 111, 116, 95, 98, 49, 46, 70, 110, 67, 117, 116, 84, 111, 107, 101, 110, 77, 97, 116, 99, 104, 101, 115, 83, 99, 97, 110, 77, 111, 100, 101, 108, 32, 101, 120, 97, 109,
  112, 108, 101, 46, 99, 111, 109, 47, 103, 97, 116, 101, 109, 97, 114, 107, 47, 103, 97, 116, 101, 109, 97, 114, 107, 47, 122, 122, 108, 97, 119, 115, 95, 114, 111, 111, 116, 95, 98, 49,
  46, 70, 110, 67, 117, 116, 84, 111, 107, 101, 110, 67, 117, 116, 115, 79, 110, 101, 66, 108, 111, 99, 107, 79, 114, 78, 111, 116, 104, 105, 110, 103, 32, 101, 120, 97, 109, 112, 108, 101,
  46, 99, 111, 109, 47, 103, 97, 116, 101, 109, 97, 114, 107, 47, 103, 97, 116, 101, 109, 97, 114, 107, 47, 122, 122, 108, 97, 119, 115, 95, 114, 111, 111, 116, 95, 98, 49, 46, 70, 110,
  67, 117, 116, 84, 111, 107, 101, 110, 82, 111, 117, 110, 100, 84, 114, 105, 112, 81, 117, 101, 114, 121, 84, 111, 107, 101, 110, 32, 101, 120, 97, 109, 112, 108, 101, 46, 99, 111, 109, 47,
  103, 97, 116, 101, 109, 97, 114, 107, 47, 103, 97, 116, 101, 109, 97, 114, 107, 47, 122, 122, 108, 97, 119, 115, 95, 114, 111, 111, 116, 95, 98, 49, 46, 70, 110, 78, 111, 114, 109, 97,
  108, 105, 122, 101, 80, 101, 114, 99, 101, 110, 116, 76, 111, 119, 101, 114, 73, 103, 110, 111, 114, 101, 115, 73, 110, 112, 117, 116, 67, 97, 115, 101, 32, 101, 120, 97, 109, 112, 108, 101,
  46, 99, 111, 109, 47, 103, 97, 116, 101, 109, 97, 114, 107, 47, 103, 97, 116, 101, 109, 97, 114, 107, 47, 122, 122, 108, 97, 119, 115, 95, 114, 111, 111, 116, 95, 98, 49, 46, 70, 110,
  78, 111, 114, 109, 97, 108, 105, 122, 101, 80, 101, 114, 99, 101, 110, 116, 77, 111, 100, 101, 115, 68, 105, 102, 102, 101, 114, 79, 110, 108, 121, 73, 110, 67, 97, 115, 101]
def signs (l : List Nat) : List Char := l.map Char.ofNat
theorem headOf : Try.prog.initOrder = String.ofList (signs (n1 ++ 32 :: (n2 ++ 32 :: (n3 ++ 32 :: n4)))) := by kernel_rfl
theorem words_cons (w r : List Char) (h : w.all (fun c => c != ' ') = true) : wordsSigns (w ++ ' ' :: r) = w :: wordsSigns r := by
  induction w with
  | nil => rfl
  | cons c w ih =>
    simp only [List.all_cons, Bool.and_eq_true, bne_iff_ne, ne_eq] at h
    have ih' := ih h.2
    rw [List.cons_append, wordsSigns]
    · rw [ih']
    · exact h.1
theorem words : wordsSigns Try.prog.initOrder.toList = signs n1 :: signs n2 :: signs n3 :: wordsSigns (signs n4) := by
  rw [headOf, String.toList_ofList]
  have e : signs (n1 ++ 32 :: (n2 ++ 32 :: (n3 ++ 32 :: n4))) = signs n1 ++ ' ' :: (signs n2 ++ ' ' :: (signs n3 ++ ' ' :: signs n4)) := by
    simp only [signs, List.map_append, List.map_cons]
  rw [e, words_cons _ _ (by decide +kernel), words_cons _ _ (by decide +kernel), words_cons _ _ (by decide +kernel)]
theorem behind : behindMainWord (wordsSigns Try.prog.initOrder.toList) = signs n3 :: wordsSigns (signs n4) := by
  rw [words]
  generalize wordsSigns (signs n4) = r
  kernel_rfl
theorem make_of (P : Program) (rest : List (List Char)) (h : behindMainWord (wordsSigns P.initOrder.toList) = signs n3 :: rest) : P.make = some Make.cut := by
  unfold Program.make
  rw [h]
  kernel_rfl
theorem liftsFinal_of (P : Program) (rest : List (List Char)) (h : behindMainWord (wordsSigns P.initOrder.toList) = signs n3 :: rest) : P.liftsFinal = false := by
  unfold Program.liftsFinal Program.headLifts
  rw [h]
  kernel_rfl
theorem mayEnter_of (P : Program) (rest : List (List Char)) (h : behindMainWord (wordsSigns P.initOrder.toList) = signs n3 :: rest)
    (h1 : P.laysLater = false) (h2 : P.bearsReflect = false) (h3 : P.doorRows = []) : P.mayEnter = true := by
  unfold Program.mayEnter Program.doorFits
  rw [h, h1, h2, h3]
  kernel_rfl
theorem make : Try.prog.make = some Make.cut := make_of _ _ behind
theorem liftsFinal : Try.prog.liftsFinal = false := liftsFinal_of _ _ behind
theorem mayEnter : Try.prog.mayEnter = true := mayEnter_of _ _ behind (by kernel_rfl) (by kernel_rfl) (by kernel_rfl)
end Head
end Go.Proofs.Qxb6602100a
