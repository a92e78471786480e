/-
  DERIVED. PLAIN LAWS: the automaton over C's white space and comments.
-/
import Derived.Test.Qxb6602227aModel
namespace Go.Proofs.Qxb6602227a
open Go.RowKit
/-- A state: its number, and what it remembers. -/
structure St where
  q : Nat
  a : Bool
  b : Bool
def St.out : St := ⟨0, false, false⟩
def St.sl : St := ⟨1, false, false⟩
def St.ln (ab cr : Bool) : St := ⟨2, ab, cr⟩
def St.bl (st : Bool) : St := ⟨3, st, false⟩
/-- C's white space. -/
def csp (c : UInt8) : Bool := [32, 10, 9, 13, 12, 11].contains c
def stepA (s : St) (c : UInt8) : Option St :=
  if s.q = 0 then (if c = 47 then some .sl else if csp c = true then some .out else none)
  else if s.q = 1 then (if c = 47 then some (.ln false false) else if c = 42 then some (.bl false) else none)
  else if s.q = 2 then (if c = 10 ∧ s.a = false ∧ s.b = false then some .out else some (.ln (c == 92) (c == 13 && s.a)))
  else (if s.a = true ∧ c = 47 then some .out else some (.bl (c == 42)))
theorem step_out (c : UInt8) : stepA .out c = if c = 47 then some .sl else if csp c = true then some .out else none := rfl
theorem step_sl (c : UInt8) : stepA .sl c = if c = 47 then some (.ln false false) else if c = 42 then some (.bl false) else none := rfl
theorem step_ln (ab cr : Bool) (c : UInt8) : stepA (.ln ab cr) c = if c = 10 ∧ ab = false ∧ cr = false then some .out else some (.ln (c == 92) (c == 13 && ab)) := rfl
theorem step_bl (st : Bool) (c : UInt8) : stepA (.bl st) c = if st = true ∧ c = 47 then some .out else some (.bl (c == 42)) := rfl
def endA (s : St) : Bool := s.q == 0 || s.q == 2
def run : St → List UInt8 → Bool
  | s, [] => endA s
  | s, c :: l => match stepA s c with
    | none => false
    | some s' => run s' l
theorem run_some (s s' : St) (c : UInt8) (l : List UInt8) (h : stepA s c = some s') : run s (c :: l) = run s' l := by
  rw [run, h]
theorem run_none (s : St) (c : UInt8) (l : List UInt8) (h : stepA s c = none) : run s (c :: l) = false := by
  rw [run, h]
theorem csp47 : csp 47 = false := by decide
theorem out_sp (c : UInt8) (l : List UInt8) (h : csp c = true) : run .out (c :: l) = run .out l := by
  apply run_some
  have hc : c ≠ 47 := fun e => by rw [e, csp47] at h; cases h
  rw [step_out, if_neg hc, if_pos h]
theorem out_47 (l : List UInt8) : run .out (47 :: l) = run .sl l := rfl
theorem out_no (c : UInt8) (l : List UInt8) (h : csp c = false) (h47 : c ≠ 47) : run .out (c :: l) = false := by
  apply run_none
  rw [step_out, if_neg h47, if_neg (by rw [h]; decide)]
theorem sl_47 (l : List UInt8) : run .sl (47 :: l) = run (.ln false false) l := rfl
theorem sl_42 (l : List UInt8) : run .sl (42 :: l) = run (.bl false) l := rfl
theorem sl_no (c : UInt8) (l : List UInt8) (h47 : c ≠ 47) (h42 : c ≠ 42) : run .sl (c :: l) = false := by
  apply run_none
  rw [step_sl, if_neg h47, if_neg h42]
theorem ln_end (l : List UInt8) : run (.ln false false) (10 :: l) = run .out l := rfl
theorem ln_go (ab cr : Bool) (c : UInt8) (l : List UInt8) (h : ¬ (c = 10 ∧ ab = false ∧ cr = false)) : run (.ln ab cr) (c :: l) = run (.ln (c == 92) (c == 13 && ab)) l := by
  apply run_some
  rw [step_ln, if_neg h]
theorem bl_end (l : List UInt8) : run (.bl true) (47 :: l) = run .out l := rfl
theorem bl_go (st : Bool) (c : UInt8) (l : List UInt8) (h : ¬ (st = true ∧ c = 47)) : run (.bl st) (c :: l) = run (.bl (c == 42)) l := by
  apply run_some
  rw [step_bl, if_neg h]
def up (x : Int) : Int := if x = -1 then -1 else x + 1
theorem index_cons' (b : UInt8) (l : List UInt8) (a : UInt8) (p : List UInt8) : Lib.index (b :: l) (a :: p) = if b = a ∧ p.isPrefixOf l = true then 0 else up (Lib.index l (a :: p)) := by
  have hc : ((a :: p).isPrefixOf (b :: l) = true) ↔ (b = a ∧ p.isPrefixOf l = true) := by
    simp only [List.isPrefixOf, Bool.and_eq_true, beq_iff_eq]
    constructor <;> rintro ⟨h1, h2⟩ <;> exact ⟨h1.symm, h2⟩
  have hu : (if (Lib.index l (a :: p) == -1) = true then (-1 : Int) else Lib.index l (a :: p) + 1) = up (Lib.index l (a :: p)) := by
    unfold up
    simp
  rw [Lib.index, hu]
  by_cases h : b = a ∧ p.isPrefixOf l = true
  · rw [if_pos (hc.2 h), if_pos h]
  · rw [if_neg (fun e => h (hc.1 e)), if_neg h]
theorem bl_true (l : List UInt8) : run (.bl true) l = if l.head? = some 47 then run .out (l.drop 1) else run (.bl false) l := by
  cases l with
  | nil => rfl
  | cons c l =>
    by_cases h : c = 47
    · subst h
      rfl
    · rw [if_neg (by simpa using h), bl_go true c l (fun e => h e.2), bl_go false c l (fun e => absurd e.1 (by decide))]
/-- The first star and slash end the comment. -/
theorem bl_index : ∀ l : List UInt8, run (.bl false) l = if Lib.index l [42, 47] = -1 then false else run .out (l.drop ((Lib.index l [42, 47]).toNat + 2))
  | [] => rfl
  | c :: l => by
    have ih := bl_index l
    have hg := Lib.index_ge l [42, 47]
    rw [bl_go false c l (fun e => absurd e.1 (by decide))]
    by_cases hz : c = 42 ∧ [47].isPrefixOf l = true
    · have hx : Lib.index (c :: l) [42, 47] = 0 := by rw [index_cons', if_pos hz]
      rw [hx, if_neg (by decide)]
      obtain ⟨rfl, hp⟩ := hz
      cases l with
      | nil => simp at hp
      | cons d r =>
        have hd : 47 = d := by simpa [List.isPrefixOf] using hp
        subst hd
        rfl
    · have hx : Lib.index (c :: l) [42, 47] = up (Lib.index l [42, 47]) := by rw [index_cons', if_neg hz]
      have hr : run (.bl (c == 42)) l = run (.bl false) l := by
        by_cases hc : c = 42
        · subst hc
          rw [show ((42 : UInt8) == 42) = true from rfl, bl_true, if_neg]
          intro hh
          apply hz
          refine ⟨rfl, ?_⟩
          cases l with
          | nil => simp at hh
          | cons d r =>
            simp only [List.head?_cons, Option.some.injEq] at hh
            subst hh
            simp
        · rw [show (c == 42) = false from by simpa using hc]
      rw [hx, hr, ih]
      unfold up
      by_cases h1 : Lib.index l [42, 47] = -1
      · rw [if_pos h1, if_pos h1, if_pos rfl]
      · rw [if_neg h1, if_neg h1, if_neg (by omega), show (Lib.index l [42, 47] + 1).toNat + 2 = ((Lib.index l [42, 47]).toNat + 2) + 1 from by omega]
        rfl
/-- What stands right ahead of place j: a backslash; a backslash and one carriage return. -/
def abAt (R : List UInt8) (j : Nat) : Bool := R[j - 1]? == some 92
def crAt (R : List UInt8) (j : Nat) : Bool := R[j - 1]? == some 13 && R[j - 2]? == some 92
theorem suffix_one (l : List UInt8) (c : UInt8) : Lib.hasSuffix l [c] = (l.getLast? == some c) := by
  unfold Lib.hasSuffix
  rw [Bool.eq_iff_iff, List.isSuffixOf_iff_suffix, beq_iff_eq]
  constructor
  · rintro ⟨t, rfl⟩
    simp
  · intro h
    obtain ⟨t, ht⟩ := List.getLast?_eq_some_iff.1 h
    exact ⟨t, ht.symm⟩
theorem last_take (R : List UInt8) (j : Nat) (hj : 0 < j) (hl : j ≤ R.length) : (R.take j).getLast? = R[j - 1]? := by
  rw [List.getLast?_eq_getElem?, List.length_take, Nat.min_eq_left hl, List.getElem?_take, if_pos (by omega)]
/-- The backslash's test at place j. -/
theorem suff_at (R : List UInt8) (j : Nat) (hj : 2 ≤ j) (hl : j ≤ R.length) : Lib.hasSuffix (Lib.trimSuffix (R.take j) [13]) [92] = (abAt R j || crAt R j) := by
  have hs : Lib.hasSuffix (R.take j) [13] = (R[j - 1]? == some 13) := by rw [suffix_one, last_take R j (by omega) hl]
  unfold Lib.trimSuffix
  rw [hs]
  by_cases h : (R[j - 1]? == some 13) = true
  · rw [if_pos h]
    have e : (R.take j).take ((R.take j).length - ([13] : List UInt8).length) = R.take (j - 1) := by
      rw [List.take_take, List.length_take, Nat.min_eq_left hl]
      congr 1
      simp
    rw [e, suffix_one, last_take R (j - 1) (by omega) (by omega), show j - 1 - 1 = j - 2 from by omega]
    unfold abAt crAt
    rw [beq_iff_eq] at h
    rw [h]
    simp
  · rw [if_neg h, suffix_one, last_take R j (by omega) hl]
    unfold abAt crAt
    have e : (R[j - 1]? == some 13) = false := by simpa using h
    rw [e]
    simp
theorem ab_next (R : List UInt8) (j : Nat) (c : UInt8) (h : R[j]? = some c) : abAt R (j + 1) = (c == 92) := by
  unfold abAt
  rw [show j + 1 - 1 = j from by omega, h]
  simp
theorem cr_next (R : List UInt8) (j : Nat) (c : UInt8) (h : R[j]? = some c) : crAt R (j + 1) = (c == 13 && abAt R j) := by
  unfold crAt abAt
  rw [show j + 1 - 1 = j from by omega, show j + 1 - 2 = j - 1 from by omega, h]
  simp
end Go.Proofs.Qxb6602227a
