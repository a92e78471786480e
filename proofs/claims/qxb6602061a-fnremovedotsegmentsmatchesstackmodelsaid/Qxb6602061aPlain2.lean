/-
  DERIVED. PLAIN: small laws for the walk of the model.
-/
import Derived.Test.Qxb6602061aPlain
namespace Go.Proofs.Qxb6602061a
namespace Rd
theorem split_cons (a b : Seg) (ha : (47 : UInt8) ∉ a) : split (a ++ 47 :: b) = a :: split b := by
  induction a with
  | nil => simp [split]
  | cons c a ih =>
    have hc : c ≠ 47 := fun e => ha (by simp [e])
    have ih' := ih (fun h => ha (by simp [h]))
    simp [split, hc, ih']
theorem split_last (a : Seg) (ha : (47 : UInt8) ∉ a) : split a = [a] := by
  induction a with
  | nil => rfl
  | cons c a ih =>
    have hc : c ≠ 47 := fun e => ha (by simp [e])
    have ih' := ih (fun h => ha (by simp [h]))
    simp [split, hc, ih']
/-- no slash among places st .. k - 1 -/
def clean (p : Seg) (st k : Nat) : Prop := ∀ j, st ≤ j → j < k → p[j]? ≠ some 47
theorem clean_self (p : Seg) (k : Nat) : clean p k k := by intro j h1 h2; omega
theorem clean_succ {p : Seg} {st k : Nat} (h : clean p st k) (hk : p[k]? ≠ some 47) : clean p st (k + 1) := by
  intro j h1 h2
  by_cases e : j = k
  · subst e; exact hk
  · exact h j h1 (by omega)
theorem clean_not_mem {p : Seg} {st k : Nat} (h : clean p st k) : (47 : UInt8) ∉ (p.drop st).take (k - st) := by
  intro hm
  obtain ⟨j, hj, e⟩ := List.getElem_of_mem hm
  simp only [List.length_take, List.length_drop] at hj
  refine h (st + j) (by omega) (by omega) ?_
  have h2 : ((p.drop st).take (k - st))[j]? = some 47 := by rw [List.getElem?_eq_getElem (by simp; omega), e]
  rw [List.getElem?_take, if_pos (by omega), List.getElem?_drop] at h2
  exact h2
theorem split_at {p : Seg} {st k : Nat} (h : clean p st k) (hst : st ≤ k) (hk : p[k]? = some 47) : split (p.drop st) = (p.drop st).take (k - st) :: split (p.drop (k + 1)) := by
  have hlt : k < p.length := by
    rcases Nat.lt_or_ge k p.length with h | h
    · exact h
    · rw [List.getElem?_eq_none h] at hk; cases hk
  have e : p.drop st = (p.drop st).take (k - st) ++ 47 :: p.drop (k + 1) := by
    have e1 : p.drop st = (p.drop st).take (k - st) ++ (p.drop st).drop (k - st) := (List.take_append_drop _ _).symm
    have e2 : (p.drop st).drop (k - st) = 47 :: p.drop (k + 1) := by
      rw [List.drop_drop, show st + (k - st) = k from by omega, List.drop_eq_getElem_cons hlt]
      rw [List.getElem?_eq_getElem hlt] at hk
      simp at hk
      rw [hk]
    rw [e2] at e1
    exact e1
  have := split_cons _ (p.drop (k + 1)) (clean_not_mem h)
  rw [← e] at this
  exact this
theorem split_end {p : Seg} {st : Nat} (h : clean p st p.length) : split (p.drop st) = [p.drop st] := by
  apply split_last
  have := clean_not_mem h
  rwa [List.take_of_length_le (by simp)] at this
theorem split_join_length (p : Seg) : (join (split p)).length = p.length + 1 := by
  obtain ⟨s, ss, h1, h2, _⟩ := split_spec p
  rw [h1]
  simp only [join, List.length_cons]
  rw [← h2]
theorem join_length_ge (ss : List Seg) : ss.length ≤ (join ss).length := by
  induction ss with
  | nil => simp
  | cons t ts ih => simp [join]; omega
theorem join_take_le (ss : List Seg) (k : Nat) : (join (ss.take k)).length ≤ (join ss).length := by
  have : join ss = join (ss.take k) ++ join (ss.drop k) := by rw [← join_append, List.take_append_drop]
  rw [this]
  simp
theorem join_drop_le (ss : List Seg) (k : Nat) : (join (ss.drop k)).length ≤ (join ss).length := by
  have : join ss = join (ss.take k) ++ join (ss.drop k) := by rw [← join_append, List.take_append_drop]
  rw [this]
  simp
theorem join_dropLast_le (ss : List Seg) : (join ss.dropLast).length ≤ (join ss).length := by
  rw [List.dropLast_eq_take]
  exact join_take_le _ _
end Rd
end Go.Proofs.Qxb6602061a
