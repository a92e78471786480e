/-
  DERIVED. PLAIN LAWS: backslashes ahead of a quote.
-/
import Derived.Test.Qxb6602372aShelf
import Derived.Test.Qxb6602372aLaws
namespace Go.Proofs.Qxb6602372a
open Go.RowKit
def step (n : Nat) (c : UInt8) : Nat := if c = 92 then n + 1 else 0
/-- How many backslashes stand at the end. -/
def tb (n : Nat) (l : List UInt8) : Nat := l.foldl step n
/-- One byte, as it is escaped. -/
def esc (c : UInt8) : List UInt8 := if c = 34 ∨ c = 92 then [92, c] else [c]
def escs (t : List UInt8) : List UInt8 := t.flatMap esc
theorem escs_cons (c : UInt8) (t : List UInt8) : escs (c :: t) = esc c ++ escs t := rfl
theorem escs_snoc (t : List UInt8) (c : UInt8) : escs (t ++ [c]) = escs t ++ esc c := by
  simp [escs]
theorem esc_len (c : UInt8) : (esc c).length ≤ 2 := by
  unfold esc
  split <;> simp
theorem escs_len : ∀ t : List UInt8, (escs t).length ≤ 2 * t.length
  | [] => by simp [escs]
  | c :: t => by
    have h1 := escs_len t
    have h2 := esc_len c
    rw [escs_cons, List.length_append, List.length_cons]
    omega
theorem tb_cons (n : Nat) (c : UInt8) (l : List UInt8) : tb n (c :: l) = tb (step n c) l := rfl
theorem tb_snoc (n : Nat) (l : List UInt8) (c : UInt8) : tb n (l ++ [c]) = step (tb n l) c := by
  simp [tb]
theorem tb_escs : ∀ (t : List UInt8) (n : Nat), n % 2 = 0 → tb n (escs t) % 2 = 0
  | [], n, h => h
  | c :: t, n, h => by
    rw [escs_cons]
    by_cases h1 : c = 34
    · subst h1
      exact tb_escs t 0 rfl
    · by_cases h2 : c = 92
      · subst h2
        exact tb_escs t (n + 2) (by omega)
      · have e : esc c = [c] := by simp [esc, h1, h2]
        rw [e]
        show tb (step n c) (escs t) % 2 = 0
        simp only [step, h2, if_false]
        exact tb_escs t 0 rfl
theorem tb_quote : ∀ (t : List UInt8) (n q : Nat), n % 2 = 0 → (escs t)[q]? = some 34 → tb n ((escs t).take q) % 2 = 1
  | [], n, q, _, hq => by simp [escs] at hq
  | c :: t, n, q, h, hq => by
    rw [escs_cons] at hq ⊢
    by_cases h1 : c = 34
    · subst h1
      rcases q with _ | _ | q
      · simp [esc] at hq
      · show (n + 1) % 2 = 1
        omega
      · exact tb_quote t 0 q rfl hq
    · by_cases h2 : c = 92
      · subst h2
        rcases q with _ | _ | q
        · simp [esc] at hq
        · simp [esc] at hq
        · exact tb_quote t (n + 2) q (by omega) hq
      · have e : esc c = [c] := by simp [esc, h1, h2]
        rw [e] at hq ⊢
        rcases q with _ | q
        · simp at hq
          exact absurd hq h1
        · show tb (step n c) ((escs t).take q) % 2 = 1
          simp only [step, h2, if_false]
          exact tb_quote t 0 q rfl hq
/-- The backslashes right ahead of place q in l. -/
def back (l : List UInt8) (q : Nat) : Nat := tb 0 (l.take q)
theorem back_zero (l : List UInt8) : back l 0 = 0 := rfl
theorem back_succ (l : List UInt8) (q : Nat) (hq : q < l.length) : back l (q + 1) = if l[q] = 92 then back l q + 1 else 0 := by
  unfold back
  rw [List.take_add_one, List.getElem?_eq_getElem hq]
  show tb 0 (l.take q ++ [l[q]]) = _
  rw [tb_snoc]
  rfl
/-- What the loop over D from place s on finds: every quote ahead of place e is escaped; the quote at e is not. -/
structure Ends (D : List UInt8) (s e : Nat) : Prop where
  le : s ≤ e
  lt : e < D.length
  at_ : D[e]? = some 34
  even : back (D.drop s) (e - s) % 2 = 0
  odd : ∀ q, s ≤ q → q < e → D[q]? = some 34 → back (D.drop s) (q - s) % 2 = 1
theorem ends_of (P t T : List UInt8) : Ends (P ++ escs t ++ 34 :: T) P.length (P.length + (escs t).length) := by
  have hd : (P ++ escs t ++ 34 :: T).drop P.length = escs t ++ 34 :: T := by rw [List.append_assoc, List.drop_left]
  refine ⟨by omega, by simp, ?_, ?_, ?_⟩
  · rw [List.getElem?_append_right (by simp)]
    simp
  · rw [hd]
    unfold back
    rw [show P.length + (escs t).length - P.length = (escs t).length from by omega, List.take_left]
    exact tb_escs t 0 rfl
  · intro q h1 h2 hq
    rw [hd]
    unfold back
    rw [List.take_append_of_le_length (by omega)]
    apply tb_quote t 0 _ rfl
    rw [List.append_assoc, List.getElem?_append_right h1, List.getElem?_append_left (by omega)] at hq
    exact hq
end Go.Proofs.Qxb6602372a
