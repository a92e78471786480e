/-
  DERIVED. Closed facts on the head of this seat's translation ('mayEnter', 'liftsFinal', 'make') BY THE HEAD's SIGNS WRITTEN OUT AS NUMBERS: asked of the string itself the kernel takes more than ten gigabytes ('wordsSigns' over some thousand signs): here only the head's first three words are parted. No program text.
-/
import Derived.Test.Qxb6602061aRows
import Derived.KernelRfl
namespace Go.Proofs.Qxb6602061a
namespace Head
def n1 : List Nat := [104, 97, 114, 110, 101, 115, 115]
def n2 : List Nat := [57, 51, 51, 101, 100, 102, 98, 52, 100, 98, 51, 102, 101, 99, 98, 97, 52, 53, 52, 101, 55, 100, 51, 54, 57, 51, 51, 56, 48, 57, 97, 101, 51, 57, 54, 48, 99, 49, 99, 51,
  100, 52, 100, 55, 52, 102, 52, 101, 49, 51, 54, 97, 52, 56, 57, 99, 54, 57, 102, 98, 98, 99, 97, 51]
def n3 : List Nat := [99, 117, 116]
def n4 : List Nat := [97, 116, 32, 101, 120, 97, 109, 112, 108, 101, 46, 99, 111, 109, 47, 111, 115, 116, 114, 97, 99, 97, 47, 111, 115, 116, 114, 97, 99, 97, 47, 122, 122, 108, 97, 119, 115, 95, 105, 110,
  116, 101, 114, 110, 97, 108, 95, 117, 114, 105, 95, 98, 49, 46, 70, 110, 78, 111, 114, 109, 97, 108, 105, 122, 101, 83, 99, 104, 101, 109, 101, 84, 97, 98, 108, 101, 32, 101, 120, 97,
  109, 112, 108, 101, 46, 99, 111, 109, 47, 111, 115, 116, 114, 97, 99, 97, 47, 111, 115, 116, 114, 97, 99, 97, 47, 122, 122, 108, 97, 119, 115, 95, 105, 110, 116, 101, 114, 110, 97, 108,
  95, 117, 114, 105, 95, 98, 49, 46, 70, 110, 78, 111, 114, 109, 97, 108, 105, 122, 101, 73, 100, 101, 109, 112, 111, 116, 101, 110, 116, 32, 101, 120, 97, 109, 112, 108, 101, 46, 99, 111,
  109, 47, 111, 115, 116, 114, 97, 99, 97, 47, 111, 115, 116, 114, 97, 99, 97, 47, 122, 122, 108, 97, 119, 115, 95, 105, 110, 116, 101, 114, 110, 97, 108, 95, 117, 114, 105, 95, 98, 49,
  46, 70, 110, 65, 112, 112, 101, 110, 100, 78, 111, 114, 109, 97, 108, 73, 110, 100, 101, 112, 101, 110, 100, 101, 110, 116, 79, 102, 68, 115, 116, 32, 101, 120, 97, 109, 112, 108, 101, 46,
  99, 111, 109, 47, 111, 115, 116, 114, 97, 99, 97, 47, 111, 115, 116, 114, 97, 99, 97, 47, 122, 122, 108, 97, 119, 115, 95, 105, 110, 116, 101, 114, 110, 97, 108, 95, 117, 114, 105, 95,
  98, 49, 46, 70, 110, 65, 112, 112, 101, 110, 100, 78, 111, 114, 109, 97, 108, 75, 101, 101, 112, 115, 77, 101, 97, 110, 105, 110, 103, 32, 101, 120, 97, 109, 112, 108, 101, 46, 99, 111,
  109, 47, 111, 115, 116, 114, 97, 99, 97, 47, 111, 115, 116, 114, 97, 99, 97, 47, 122, 122, 108, 97, 119, 115, 95, 105, 110, 116, 101, 114, 110, 97, 108, 95, 117, 114, 105, 95, 98, 49,
  46, 70, 110, 65, 112, 112, 101, 110, 100, 78, 111, 114, 109, 97, 108, 73, 100, 101, 109, 112, 111, 116, 101, 110, 116, 32, 101, 120, 97, 109, 112, 108, 101, 46, 99, 111, 109, 47, 111, 115,
  116, 114, 97, 99, 97, 47, 111, 115, 116, 114, 97, 99, 97, 47, 122, 122, 108, 97, 119, 115, 95, 105, 110, 116, 101, 114, 110, 97, 108, 95, 117, 114, 105, 95, 98, 49, 46, 70, 110, 82,
  101, 109, 111, 118, 101, 68, 111, 116, 83, 101, 103, 109, 101, 110, 116, 115, 77, 97, 116, 99, 104, 101, 115, 83, 116, 97, 99, 107, 77, 111, 100, 101, 108, 32, 101, 120, 97, 109, 112, 108,
  101, 46, 99, 111, 109, 47, 111, 115, 116, 114, 97, 99, 97, 47, 111, 115, 116, 114, 97, 99, 97, 47, 122, 122, 108, 97, 119, 115, 95, 105, 110, 116, 101, 114, 110, 97, 108, 95, 117, 114,
  105, 95, 98, 49, 46, 70, 110, 82, 101, 109, 111, 118, 101, 68, 111, 116, 83, 101, 103, 109, 101, 110, 116, 115, 73, 100, 101, 109, 112, 111, 116, 101, 110, 116, 32, 101, 120, 97, 109, 112,
  108, 101, 46, 99, 111, 109, 47, 111, 115, 116, 114, 97, 99, 97, 47, 111, 115, 116, 114, 97, 99, 97, 47, 122, 122, 108, 97, 119, 115, 95, 105, 110, 116, 101, 114, 110, 97, 108, 95, 117,
  114, 105, 95, 98, 49, 46, 70, 110, 82, 101, 109, 111, 118, 101, 68, 111, 116, 83, 101, 103, 109, 101, 110, 116, 115, 76, 101, 97, 118, 101, 115, 78, 111, 68, 111, 116, 83, 101, 103, 109,
  101, 110, 116, 32, 101, 120, 97, 109, 112, 108, 101, 46, 99, 111, 109, 47, 111, 115, 116, 114, 97, 99, 97, 47, 111, 115, 116, 114, 97, 99, 97, 47, 122, 122, 108, 97, 119, 115, 95, 105,
  110, 116, 101, 114, 110, 97, 108, 95, 117, 114, 105, 95, 98, 49, 46, 70, 110, 78, 111, 114, 109, 97, 108, 105, 122, 101, 73, 103, 110, 111, 114, 101, 115, 67, 97, 115, 101, 79, 102, 83,
  99, 104, 101, 109, 101, 65, 110, 100, 69, 115, 99, 97, 112, 101, 115]
def signs (l : List Nat) : List Char := l.map Char.ofNat
theorem headOf : Try.prog.initOrder = String.ofList (signs (n1 ++ 32 :: (n2 ++ 32 :: (n3 ++ 32 :: n4)))) := by kernel_rfl
theorem words_cons (w r : List Char) (h : w.all (fun c => c != ' ') = true) : wordsSigns (w ++ ' ' :: r) = w :: wordsSigns r := by
  induction w with
  | nil => rfl
  | cons c w ih =>
    simp only [List.all_cons, Bool.and_eq_true, bne_iff_ne, ne_eq] at h
    have ih' := ih h.2
    rw [List.cons_append, wordsSigns]
    · rw [ih']
    · exact h.1
theorem words : wordsSigns Try.prog.initOrder.toList = signs n1 :: signs n2 :: signs n3 :: wordsSigns (signs n4) := by
  rw [headOf, String.toList_ofList]
  have e : signs (n1 ++ 32 :: (n2 ++ 32 :: (n3 ++ 32 :: n4))) = signs n1 ++ ' ' :: (signs n2 ++ ' ' :: (signs n3 ++ ' ' :: signs n4)) := by
    simp only [signs, List.map_append, List.map_cons]
  rw [e, words_cons _ _ (by decide +kernel), words_cons _ _ (by decide +kernel), words_cons _ _ (by decide +kernel)]
theorem behind : behindMainWord (wordsSigns Try.prog.initOrder.toList) = signs n3 :: wordsSigns (signs n4) := by
  rw [words]
  generalize wordsSigns (signs n4) = r
  kernel_rfl
theorem make_of (P : Program) (rest : List (List Char)) (h : behindMainWord (wordsSigns P.initOrder.toList) = signs n3 :: rest) : P.make = some Make.cut := by
  unfold Program.make
  rw [h]
  kernel_rfl
theorem liftsFinal_of (P : Program) (rest : List (List Char)) (h : behindMainWord (wordsSigns P.initOrder.toList) = signs n3 :: rest) : P.liftsFinal = false := by
  unfold Program.liftsFinal Program.headLifts
  rw [h]
  kernel_rfl
theorem mayEnter_of (P : Program) (rest : List (List Char)) (h : behindMainWord (wordsSigns P.initOrder.toList) = signs n3 :: rest)
    (h1 : P.laysLater = false) (h2 : P.bearsReflect = false) (h3 : P.doorRows = []) : P.mayEnter = true := by
  unfold Program.mayEnter Program.doorFits
  rw [h, h1, h2, h3]
  kernel_rfl
theorem make : Try.prog.make = some Make.cut := make_of _ _ behind
theorem liftsFinal : Try.prog.liftsFinal = false := liftsFinal_of _ _ behind
theorem mayEnter : Try.prog.mayEnter = true := mayEnter_of _ _ behind (by kernel_rfl) (by kernel_rfl) (by kernel_rfl)
end Head
end Go.Proofs.Qxb6602061a
