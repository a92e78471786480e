/-
  DERIVED. WALK: spliceLines computes 'sp'.
-/
import Derived.Test.Qxb6602227aModel
namespace Go.Proofs.Qxb6602227a
open Go.RowKit
/-- The bytes from place a to place b. -/
def seg (l : List UInt8) (a b : Nat) : List UInt8 := (l.drop a).take (b - a)
theorem seg_len (l : List UInt8) (a b : Nat) (hb : b ≤ l.length) : (seg l a b).length = b - a := by
  unfold seg
  rw [List.length_take, List.length_drop]
  omega
theorem seg_self (l : List UInt8) (a : Nat) : seg l a a = [] := by simp [seg]
theorem seg_app (l : List UInt8) (a b c : Nat) (hab : a ≤ b) (hbc : b ≤ c) : seg l a b ++ seg l b c = seg l a c := by
  unfold seg
  have e : l.drop b = (l.drop a).drop (b - a) := by rw [List.drop_drop]; congr 1; omega
  rw [e, show c - a = (b - a) + (c - b) from by omega, List.take_add]
theorem seg_drop (l : List UInt8) (a b : Nat) (hab : a ≤ b) : seg l a b ++ l.drop b = l.drop a := by
  unfold seg
  have e : l.drop b = (l.drop a).drop (b - a) := by rw [List.drop_drop]; congr 1; omega
  rw [e, List.take_append_drop]
theorem seg_get (l : List UInt8) (a b i : Nat) (hi : i < b - a) : (seg l a b)[i]? = l[a + i]? := by
  unfold seg
  rw [List.getElem?_take, if_pos hi, List.getElem?_drop]
theorem seg_one (l : List UInt8) (a : Nat) (c : UInt8) (h : l[a]? = some c) : seg l a (a + 1) = [c] := by
  unfold seg
  rw [show a + 1 - a = 1 from by omega]
  have hl : a < l.length := (List.getElem?_eq_some_iff.1 h).1
  rw [List.drop_eq_getElem_cons hl]
  rw [List.getElem?_eq_getElem hl] at h
  simp only [Option.some.injEq] at h
  simp [h]
theorem seg_take (l : List UInt8) (a b c : Nat) (h : a + c ≤ b) : (seg l a b).take c = seg l a (a + c) := by
  unfold seg
  rw [List.take_take, Nat.min_eq_left (by omega), show a + c - a = c from by omega]
theorem seg_drop2 (l : List UInt8) (a b c : Nat) : (seg l a b).drop c = seg l (a + c) b := by
  unfold seg
  rw [List.drop_take, List.drop_drop, show b - a - c = b - (a + c) from by omega]
theorem seg_ext (s : ByteArray) (a b : Nat) : (s.extract a b).data.toList = seg s.data.toList a b := by
  unfold seg
  simp [ByteArray.data_extract]
/-- The next newline. -/
theorem next_nl (l : List UInt8) (f : Nat) (k : Nat) (h : Lib.indexByte (l.drop f) 10 = k) : f + k < l.length ∧ (10 : UInt8) ∉ seg l f (f + k) ∧ l[f + k]? = some 10 ∧ l.drop f = seg l f (f + k) ++ 10 :: l.drop (f + k + 1) := by
  obtain ⟨h1, h2⟩ := Lib.indexByte_some h
  rw [List.getElem?_drop] at h1
  have hl : f + k < l.length := (List.getElem?_eq_some_iff.1 h1).1
  refine ⟨hl, ?_, h1, ?_⟩
  · intro hm
    obtain ⟨i, hi⟩ := List.mem_iff_getElem?.1 hm
    have hi' : i < k := by
      have := (List.getElem?_eq_some_iff.1 hi).1
      rw [seg_len _ _ _ (by omega)] at this
      omega
    rw [seg_get _ _ _ _ (by omega)] at hi
    exact h2 i hi' (by rw [List.getElem?_drop]; exact hi)
  · rw [← seg_drop l f (f + k) (by omega)]
    congr 1
    rw [List.drop_eq_getElem_cons hl]
    rw [List.getElem?_eq_getElem hl] at h1
    simp only [Option.some.injEq] at h1
    rw [h1]
/-- What the loop has written, and how far. -/
structure Sofar (l o : List UInt8) (d f : Nat) : Prop where
  df : d ≤ f
  fl : f ≤ l.length
  nl : f = 0 ∨ l[f - 1]? = some 10
  eq : sp l = o ++ seg l d f ++ sp (l.drop f)
  o0 : d = 0 → o = []
  ol : o.length ≤ d
theorem sofar_start (l : List UInt8) : Sofar l [] 0 0 := ⟨Nat.le_refl _, Nat.zero_le _, .inl rfl, by simp [seg], fun _ => rfl, Nat.le_refl _⟩
/-- No newline any more. -/
theorem sofar_end {l o : List UInt8} {d f : Nat} (h : Sofar l o d f) (hn : Lib.indexByte (l.drop f) 10 = -1) : sp l = o ++ l.drop d := by
  have h1 : (10 : UInt8) ∉ l.drop f := by
    intro hm
    obtain ⟨i, hi⟩ := List.mem_iff_getElem?.1 hm
    exact Lib.indexByte_none hn i hi
  rw [h.eq, sp_last _ h1, List.append_assoc, seg_drop l d f h.df]
/-- A backslash at place e - 1, white space from e to the newline at n. -/
theorem sofar_cut {l o : List UInt8} {d f : Nat} (h : Sofar l o d f) (k e : Nat) (hk : Lib.indexByte (l.drop f) 10 = k) (he : f ≤ e) (hen : e ≤ f + k) (hw : (seg l e (f + k)).all ws = true) (h0 : 0 < e) (h92 : l[e - 1]? = some 92) :
    d ≤ e - 1 ∧ Sofar l (o ++ seg l d (e - 1)) (f + k + 1) (f + k + 1) := by
  obtain ⟨n1, n2, n3, n4⟩ := next_nl l f k hk
  have hfe : f < e := by
    rcases Nat.lt_or_ge f e with h' | h'
    · exact h'
    · have : f = e := by omega
      subst this
      rcases h.nl with h2 | h2
      · omega
      · rw [h2] at h92
        cases h92
  have hdf := h.df
  have hol := h.ol
  refine ⟨by omega, ⟨Nat.le_refl _, by omega, .inr (by rw [show f + k + 1 - 1 = f + k from by omega]; exact n3), ?_, fun h => by omega, ?_⟩⟩
  · rw [h.eq, n4, sp_line _ _ n2, seg_self]
    have hc := line_cut (seg l f (f + k)) (e - 1 - f) (by rw [seg_get _ _ _ _ (by omega), show f + (e - 1 - f) = e - 1 from by omega]; exact h92) (by rw [seg_drop2, show f + (e - 1 - f + 1) = e from by omega]; exact hw)
    rw [hc, seg_take _ _ _ _ (by omega), show f + (e - 1 - f) = e - 1 from by omega, ← seg_app l d f (e - 1) hdf (by omega)]
    simp
  · rw [List.length_append, seg_len _ _ _ (by omega)]
    omega
/-- No backslash. -/
theorem sofar_keep {l o : List UInt8} {d f : Nat} (h : Sofar l o d f) (k e : Nat) (hk : Lib.indexByte (l.drop f) 10 = k) (he : f ≤ e) (hen : e ≤ f + k) (hw : (seg l e (f + k)).all ws = true)
    (h0 : e = 0 ∨ ∃ c, l[e - 1]? = some c ∧ ws c = false ∧ c ≠ 92) : Sofar l o d (f + k + 1) := by
  obtain ⟨n1, n2, n3, n4⟩ := next_nl l f k hk
  have hdf := h.df
  refine ⟨by omega, by omega, .inr (by rw [show f + k + 1 - 1 = f + k from by omega]; exact n3), ?_, h.o0, h.ol⟩
  have hline : line (seg l f (f + k)) = seg l f (f + k) ++ [10] := by
    by_cases hfe : f = e
    · subst hfe
      exact line_all _ hw
    · rcases h0 with h0 | ⟨c, hc, hc1, hc2⟩
      · omega
      · exact line_keep _ (e - 1 - f) c (by rw [seg_get _ _ _ _ (by omega), show f + (e - 1 - f) = e - 1 from by omega]; exact hc) hc1 hc2 (by rw [seg_drop2, show f + (e - 1 - f + 1) = e from by omega]; exact hw)
  rw [h.eq, n4, sp_line _ _ n2, hline, ← seg_one l (f + k) 10 n3, seg_app l f (f + k) (f + k + 1) (by omega) (by omega), ← seg_app l d f (f + k + 1) hdf (by omega)]
  simp
end Go.Proofs.Qxb6602227a
