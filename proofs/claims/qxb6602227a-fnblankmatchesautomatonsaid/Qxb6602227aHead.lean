/-
  DERIVED. Closed facts on the head of this seat's translation ('mayEnter', 'liftsFinal', 'make') BY THE HEAD's SIGNS WRITTEN OUT AS NUMBERS: asked of the string itself the kernel takes more than ten gigabytes ('wordsSigns' over some thousand signs): here only the head's first three words are parted. No program text.
-/
import Derived.Test.Qxb6602227aRows
import Derived.KernelRfl
namespace Go.Proofs.Qxb6602227a
namespace Head
def n1 : List Nat := [104, 97, 114, 110, 101, 115, 115]
def n2 : List Nat := [57, 57, 52, 56, 56, 102, 56, 52, 102, 102, 50, 102, 50, 52, 53, 52, 48, 56, 49, 53, 54, 54, 57, 102, 52, 56, 100, 53, 98, 102, 98, 56, 97, 48, 101, 100, 101, 56, 102, 52,
  54, 49, 97, 48, 55, 98, 55, 100, 55, 101, 52, 48, 100, 56, 51, 51, 49, 102, 56, 98, 52, 51, 99, 101]
def n3 : List Nat := [99, 117, 116]
def n4 : List Nat := [97, 116, 32, 101, 120, 97, 109, 112, 108, 101, 46, 99, 111, 109, 47, 99, 97, 117, 115, 101, 119, 97, 121, 47, 99, 97, 117, 115, 101, 119, 97, 121, 47, 122, 122, 108, 97, 119, 115, 95,
  99, 112, 114, 111, 98, 101, 95, 98, 49, 46, 70, 110, 66, 108, 97, 110, 107, 77, 97, 116, 99, 104, 101, 115, 65, 117, 116, 111, 109, 97, 116, 111, 110, 32, 101, 120, 97, 109, 112, 108,
  101, 46, 99, 111, 109, 47, 99, 97, 117, 115, 101, 119, 97, 121, 47, 99, 97, 117, 115, 101, 119, 97, 121, 47, 122, 122, 108, 97, 119, 115, 95, 99, 112, 114, 111, 98, 101, 95, 98, 49,
  46, 70, 110, 66, 108, 97, 110, 107, 65, 102, 116, 101, 114, 66, 108, 97, 110, 107, 84, 101, 120, 116, 65, 110, 100, 66, 108, 97, 110, 107, 76, 105, 110, 101, 32, 101, 120, 97, 109, 112,
  108, 101, 46, 99, 111, 109, 47, 99, 97, 117, 115, 101, 119, 97, 121, 47, 99, 97, 117, 115, 101, 119, 97, 121, 47, 122, 122, 108, 97, 119, 115, 95, 99, 112, 114, 111, 98, 101, 95, 98,
  49, 46, 70, 110, 66, 108, 97, 110, 107, 67, 108, 111, 115, 101, 100, 66, 108, 111, 99, 107, 67, 111, 109, 109, 101, 110, 116, 73, 115, 83, 107, 105, 112, 112, 101, 100, 32, 101, 120, 97,
  109, 112, 108, 101, 46, 99, 111, 109, 47, 99, 97, 117, 115, 101, 119, 97, 121, 47, 99, 97, 117, 115, 101, 119, 97, 121, 47, 122, 122, 108, 97, 119, 115, 95, 99, 112, 114, 111, 98, 101,
  95, 98, 49, 46, 70, 110, 83, 112, 108, 105, 99, 101, 76, 105, 110, 101, 115, 77, 97, 116, 99, 104, 101, 115, 70, 111, 114, 119, 97, 114, 100, 83, 99, 97, 110, 32, 101, 120, 97, 109,
  112, 108, 101, 46, 99, 111, 109, 47, 99, 97, 117, 115, 101, 119, 97, 121, 47, 99, 97, 117, 115, 101, 119, 97, 121, 47, 122, 122, 108, 97, 119, 115, 95, 99, 112, 114, 111, 98, 101, 95,
  98, 49, 46, 70, 110, 83, 112, 108, 105, 99, 101, 76, 105, 110, 101, 115, 83, 112, 108, 105, 116, 115, 65, 116, 76, 105, 110, 101, 69, 110, 100, 115]
def signs (l : List Nat) : List Char := l.map Char.ofNat
theorem headOf : Try.prog.initOrder = String.ofList (signs (n1 ++ 32 :: (n2 ++ 32 :: (n3 ++ 32 :: n4)))) := by kernel_rfl
theorem words_cons (w r : List Char) (h : w.all (fun c => c != ' ') = true) : wordsSigns (w ++ ' ' :: r) = w :: wordsSigns r := by
  induction w with
  | nil => rfl
  | cons c w ih =>
    simp only [List.all_cons, Bool.and_eq_true, bne_iff_ne, ne_eq] at h
    have ih' := ih h.2
    rw [List.cons_append, wordsSigns]
    · rw [ih']
    · exact h.1
theorem words : wordsSigns Try.prog.initOrder.toList = signs n1 :: signs n2 :: signs n3 :: wordsSigns (signs n4) := by
  rw [headOf, String.toList_ofList]
  have e : signs (n1 ++ 32 :: (n2 ++ 32 :: (n3 ++ 32 :: n4))) = signs n1 ++ ' ' :: (signs n2 ++ ' ' :: (signs n3 ++ ' ' :: signs n4)) := by
    simp only [signs, List.map_append, List.map_cons]
  rw [e, words_cons _ _ (by decide +kernel), words_cons _ _ (by decide +kernel), words_cons _ _ (by decide +kernel)]
theorem behind : behindMainWord (wordsSigns Try.prog.initOrder.toList) = signs n3 :: wordsSigns (signs n4) := by
  rw [words]
  generalize wordsSigns (signs n4) = r
  kernel_rfl
theorem make_of (P : Program) (rest : List (List Char)) (h : behindMainWord (wordsSigns P.initOrder.toList) = signs n3 :: rest) : P.make = some Make.cut := by
  unfold Program.make
  rw [h]
  kernel_rfl
theorem liftsFinal_of (P : Program) (rest : List (List Char)) (h : behindMainWord (wordsSigns P.initOrder.toList) = signs n3 :: rest) : P.liftsFinal = false := by
  unfold Program.liftsFinal Program.headLifts
  rw [h]
  kernel_rfl
theorem mayEnter_of (P : Program) (rest : List (List Char)) (h : behindMainWord (wordsSigns P.initOrder.toList) = signs n3 :: rest)
    (h1 : P.laysLater = false) (h2 : P.bearsReflect = false) (h3 : P.doorRows = []) : P.mayEnter = true := by
  unfold Program.mayEnter Program.doorFits
  rw [h, h1, h2, h3]
  kernel_rfl
theorem make : Try.prog.make = some Make.cut := make_of _ _ behind
theorem liftsFinal : Try.prog.liftsFinal = false := liftsFinal_of _ _ behind
theorem mayEnter : Try.prog.mayEnter = true := mayEnter_of _ _ behind (by kernel_rfl) (by kernel_rfl) (by kernel_rfl)
end Head
end Go.Proofs.Qxb6602227a
