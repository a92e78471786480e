/-
  DERIVED. PLAIN LAWS: lines that a backslash splices.
-/
import Derived.Test.Qxb6602227aShelf
import Derived.Test.Qxb6602227aLaws
import Derived.Lib.IndexLaws
namespace Go.Proofs.Qxb6602227a
open Go.RowKit
/-- The white space within a line. -/
def ws (c : UInt8) : Bool := [32, 9, 12, 11, 13].contains c
/-- The forward scan; 'sk': a backslash has been dropped, and all up to the newline goes with it. -/
def spS : List UInt8 → Bool → List UInt8
  | [], _ => []
  | c :: l, sk =>
    if sk = true then (if c = 10 then spS l false else spS l true)
    else if c = 92 ∧ (l.dropWhile ws).head? = some 10 then spS l true
    else c :: spS l false
def sp (l : List UInt8) : List UInt8 := spS l false
theorem sp_nil : sp [] = [] := rfl
theorem sp_skip : ∀ l : List UInt8, (l.dropWhile ws).head? = some 10 → spS l true = sp ((l.dropWhile ws).drop 1)
  | [], h => by simp at h
  | c :: l, h => by
    have hw : ws 10 = false := by decide
    rw [List.dropWhile_cons] at h ⊢
    by_cases hc : ws c = true
    · rw [if_pos hc] at h ⊢
      have h10 : c ≠ 10 := fun e => by rw [e, hw] at hc; cases hc
      rw [← sp_skip l h, spS, if_pos rfl, if_neg h10]
    · rw [if_neg hc] at h ⊢
      simp only [List.head?_cons, Option.some.injEq] at h
      rw [spS, if_pos rfl, if_pos h]
      rfl
theorem sp_cons (c : UInt8) (l : List UInt8) : sp (c :: l) = if c = 92 ∧ (l.dropWhile ws).head? = some 10 then sp ((l.dropWhile ws).drop 1) else c :: sp l := by
  unfold sp
  rw [spS, if_neg (by decide)]
  by_cases h : c = 92 ∧ (l.dropWhile ws).head? = some 10
  · rw [if_pos h, if_pos h, sp_skip l h.2]
    rfl
  · rw [if_neg h, if_neg h]
/-- One line with its newline. -/
def line : List UInt8 → List UInt8
  | [] => [10]
  | c :: s => if c = 92 ∧ s.all ws = true then [] else c :: line s
theorem ws10 : ws 10 = false := by decide
theorem ws92 : ws 92 = false := by decide
theorem drop_all : ∀ (s r : List UInt8), s.all ws = true → (s ++ 10 :: r).dropWhile ws = 10 :: r
  | [], r, _ => by simp [ws10]
  | c :: s, r, h => by
    simp only [List.all_cons, Bool.and_eq_true] at h
    rw [List.cons_append, List.dropWhile_cons, if_pos h.1, drop_all s r h.2]
theorem head_not : ∀ (s r : List UInt8), (10 : UInt8) ∉ s → s.all ws = false → ((s ++ r).dropWhile ws).head? ≠ some 10
  | [], r, _, h => by simp at h
  | c :: s, r, hn, h => by
    rw [List.cons_append, List.dropWhile_cons]
    by_cases hc : ws c = true
    · rw [if_pos hc]
      simp only [List.all_cons, hc, Bool.true_and] at h
      exact head_not s r (fun e => hn (by simp [e])) h
    · rw [if_neg hc]
      simp only [List.head?_cons, ne_eq, Option.some.injEq]
      intro e
      exact hn (by simp [e])
theorem sp_line : ∀ (s r : List UInt8), (10 : UInt8) ∉ s → sp (s ++ 10 :: r) = line s ++ sp r
  | [], r, _ => by
    rw [List.nil_append, sp_cons, if_neg (fun h => absurd h.1 (by decide))]
    rfl
  | c :: s, r, hn => by
    have hn' : (10 : UInt8) ∉ s := fun e => hn (by simp [e])
    rw [List.cons_append, sp_cons, line]
    by_cases ha : s.all ws = true
    · rw [drop_all s r ha]
      by_cases hc : c = 92
      · rw [if_pos ⟨hc, rfl⟩, if_pos ⟨hc, ha⟩]
        rfl
      · rw [if_neg (fun h => hc h.1), if_neg (fun h => hc h.1), sp_line s r hn']
        rfl
    · rw [if_neg (fun h => head_not s _ hn' (by simpa using ha) h.2), if_neg (fun h => ha h.2), sp_line s r hn']
      rfl
theorem sp_last : ∀ s : List UInt8, (10 : UInt8) ∉ s → sp s = s
  | [], _ => sp_nil
  | c :: s, hn => by
    have hn' : (10 : UInt8) ∉ s := fun e => hn (by simp [e])
    rw [sp_cons, if_neg, sp_last s hn']
    rintro ⟨_, h⟩
    have hm : (10 : UInt8) ∈ s.dropWhile ws := List.mem_of_mem_head? (by rw [h]; rfl)
    exact hn' ((List.dropWhile_suffix ws).subset hm)
/-- All white space from place e on: no backslash ends the line. -/
theorem line_all : ∀ s : List UInt8, s.all ws = true → line s = s ++ [10]
  | [], _ => rfl
  | c :: s, h => by
    simp only [List.all_cons, Bool.and_eq_true] at h
    have hc : c ≠ 92 := fun e => by rw [e, ws92] at h; exact absurd h.1 (by decide)
    rw [line, if_neg (fun e => hc e.1), line_all s h.2]
    rfl
/-- A backslash at place e, only white space behind it. -/
theorem line_cut : ∀ (s : List UInt8) (e : Nat), s[e]? = some 92 → (s.drop (e + 1)).all ws = true → line s = s.take e
  | [], e, h, _ => by simp at h
  | c :: s, 0, h, ha => by
    simp only [List.getElem?_cons_zero, Option.some.injEq] at h
    rw [line, if_pos ⟨h, by simpa using ha⟩]
    rfl
  | c :: s, e + 1, h, ha => by
    rw [List.getElem?_cons_succ] at h
    have hn : s.all ws = false := by
      rw [Bool.eq_false_iff]
      intro hall
      have := List.all_eq_true.1 hall 92 (List.mem_of_getElem? h)
      rw [ws92] at this
      cases this
    rw [line, if_neg (fun x => by rw [hn] at x; exact absurd x.2 (by decide)), line_cut s e h (by simpa using ha)]
    rfl
/-- At place e neither white space nor a backslash, only white space behind it. -/
theorem line_keep : ∀ (s : List UInt8) (e : Nat) (d : UInt8), s[e]? = some d → ws d = false → d ≠ 92 → (s.drop (e + 1)).all ws = true → line s = s ++ [10]
  | [], e, d, h, _, _, _ => by simp at h
  | c :: s, 0, d, h, hd, hd2, ha => by
    simp only [List.getElem?_cons_zero, Option.some.injEq] at h
    subst h
    rw [line, if_neg (fun x => hd2 x.1), line_all s (by simpa using ha)]
    rfl
  | c :: s, e + 1, d, h, hd, hd2, ha => by
    rw [List.getElem?_cons_succ] at h
    have hn : s.all ws = false := by
      rw [Bool.eq_false_iff]
      intro hall
      have := List.all_eq_true.1 hall d (List.mem_of_getElem? h)
      rw [hd] at this
      cases this
    rw [line, if_neg (fun x => by rw [hn] at x; exact absurd x.2 (by decide)), line_keep s e d h hd hd2 (by simpa using ha)]
    rfl
end Go.Proofs.Qxb6602227a
