/-
  DERIVED. PLAIN: removeDotSegments makes no path longer; where it makes a double slash at the head it has struck two bytes.
-/
import Derived.Test.Qxb6602061aPlain
namespace Go.Proofs.Qxb6602061a
namespace Rd
theorem step_len (inp out : Seg) (h : inp ≠ []) : (step inp out).2.length + (step inp out).1.length ≤ out.length + inp.length := by
  have hd := dropSeg_len out
  have he := segEnd_le inp h
  unfold step
  repeat' split
  all_goals first
    | (simp; omega)
    | (simp; done)
    | (rename_i hh; simp_all; done)
    | (rename_i hh; simp_all; omega)
theorem go_len : ∀ (n : Nat) (inp out : Seg), inp.length ≤ n → (go inp out).length ≤ out.length + inp.length := by
  intro n
  induction n with
  | zero =>
    intro inp out h
    have : inp = [] := List.eq_nil_of_length_eq_zero (by omega)
    subst this
    simp [go_nil]
  | succ n ih =>
    intro inp out h
    by_cases hi : inp = []
    · subst hi; simp [go_nil]
    · rw [go_step _ _ hi]
      have h1 := step_lt inp out hi
      have h2 := step_len inp out hi
      have h3 := ih (step inp out).1 (step inp out).2 (by omega)
      omega
theorem go_len' (inp out : Seg) : (go inp out).length ≤ out.length + inp.length := go_len _ inp out (Nat.le_refl _)
theorem go_pref : ∀ (n : Nat) (inp out : Seg), inp.length ≤ n → go inp out <+: (out ++ inp) ∨ (go inp out).length + 2 ≤ (out ++ inp).length := by
  intro n
  induction n with
  | zero =>
    intro inp out h
    have : inp = [] := List.eq_nil_of_length_eq_zero (by omega)
    subst this
    left
    simp [go_nil]
  | succ n ih =>
    intro inp out h
    by_cases hi : inp = []
    · subst hi; left; simp [go_nil]
    · have hlt := step_lt inp out hi
      rw [go_step _ _ hi]
      have hdl := dropSeg_len out
      by_cases h1 : Lib.hasPrefix inp [46, 46, 47] = true
      · have e : step inp out = (inp.drop 3, out) := by simp [step, h1]
        have := prefix_len h1
        have g := go_len' (inp.drop 3) out
        rw [e]; right; simp at this g ⊢; omega
      · rw [Bool.not_eq_true] at h1
        by_cases h2 : Lib.hasPrefix inp [46, 47] = true
        · have e : step inp out = (inp.drop 2, out) := by simp [step, h1, h2]
          have := prefix_len h2
          have g := go_len' (inp.drop 2) out
          rw [e]; right; simp at this g ⊢; omega
        · rw [Bool.not_eq_true] at h2
          by_cases h3 : Lib.hasPrefix inp [47, 46, 47] = true
          · have e : step inp out = (inp.drop 2, out) := by simp [step, h1, h2, h3]
            have := prefix_len h3
            have g := go_len' (inp.drop 2) out
            rw [e]; right; simp at this g ⊢; omega
          · rw [Bool.not_eq_true] at h3
            by_cases h4 : inp = [47, 46]
            · subst h4
              left
              rw [step_dot_last]
              simp only
              rw [go_step _ _ (by simp), step_slash_last, go_nil]
              exact ⟨[46], by simp⟩
            · by_cases h5 : Lib.hasPrefix inp [47, 46, 46, 47] = true
              · have e : step inp out = (inp.drop 3, dropSeg out) := by simp [step, h1, h2, h3, h4, h5]
                have := prefix_len h5
                have g := go_len' (inp.drop 3) (dropSeg out)
                rw [e]; right; simp at this g ⊢; omega
              · rw [Bool.not_eq_true] at h5
                by_cases h6 : inp = [47, 46, 46]
                · subst h6
                  right
                  rw [step_ddot_last]
                  simp only
                  have g := go_len' [47] (dropSeg out)
                  simp at g ⊢
                  omega
                · by_cases h7 : inp = [46]
                  · subst h7
                    left
                    have e : step [46] out = ([], out) := rfl
                    rw [e, go_nil]
                    exact ⟨[46], rfl⟩
                  · by_cases h8 : inp = [46, 46]
                    · subst h8
                      left
                      have e : step [46, 46] out = ([], out) := rfl
                      rw [e, go_nil]
                      exact ⟨[46, 46], rfl⟩
                    · have e := step_default inp out h1 h2 h3 (not_eq h4) h5 (not_eq h6) (not_eq h7) (not_eq h8)
                      have g := ih (step inp out).1 (step inp out).2 (by omega)
                      rw [e] at g ⊢
                      simp only [List.append_assoc, List.take_append_drop] at g ⊢
                      exact g
theorem rd_len (p : Seg) : (rd p).length ≤ p.length := by
  unfold rd
  split
  · have := go_len' p []
    simpa using this
  · exact Nat.le_refl _
theorem rd_ds (p : Seg) (h : Lib.hasPrefix p [47, 47] = false) (h2 : Lib.hasPrefix (rd p) [47, 47] = true) : (rd p).length + 2 ≤ p.length := by
  unfold rd at h2 ⊢
  split
  · rename_i hi
    rw [if_pos hi] at h2
    rcases go_pref p.length p [] (Nat.le_refl _) with g | g
    · exfalso
      obtain ⟨r, hr⟩ := (pre_iff _ _).1 h2
      obtain ⟨r', hr'⟩ := g
      rw [hr] at hr'
      simp at hr'
      rw [← hr'] at h
      simp [Lib.hasPrefix] at h
    · simpa using g
  · rename_i hi
    rw [if_neg hi] at h2
    rw [h] at h2
    cases h2
end Rd
end Go.Proofs.Qxb6602061a
