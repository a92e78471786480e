/-
  DERIVED. PLAIN LAWS: where the attribute stands.
-/
import Derived.Test.Qxb6602100aSplit
import Derived.Laws.Concat
namespace Go.Proofs.Qxb6602100a
open Go.RowKit
def attr : List UInt8 := [85, 82, 73, 83, 105, 103, 110, 105, 110, 103, 80, 97, 99, 107, 97, 103, 101, 61]
def attrB : ByteArray := ⟨#[85, 82, 73, 83, 105, 103, 110, 105, 110, 103, 80, 97, 99, 107, 97, 103, 101, 61]⟩
def pathOf (u : List UInt8) : List UInt8 := (Lib.cut (Lib.cut (u.drop (off1 u)) [35]).1 [63]).1
def queryOf (u : List UInt8) : List UInt8 := (Lib.cut (Lib.cut (u.drop (off1 u)) [35]).1 [63]).2.1
def hasQ (u : List UInt8) : Bool := (Lib.cut (Lib.cut (u.drop (off1 u)) [35]).1 [63]).2.2
def pick3 (c : List UInt8 × List UInt8 × Bool) : Int :=
  if 0 ≤ Lib.index c.1 (59 :: attr) then Lib.index c.1 (59 :: attr)
  else if c.2.2 && Lib.hasPrefix c.2.1 attr then (c.1.length : Int)
  else if c.2.2 && decide (0 ≤ Lib.index c.2.1 (38 :: attr)) then (c.1.length : Int) + 1 + Lib.index c.2.1 (38 :: attr)
  else -1
def lift (j : Nat) (x : Int) : Int := if x = -1 then -1 else j + x
def cutAt (u : List UInt8) : Int := lift (off1 u) (pick3 (Lib.cut (Lib.cut (u.drop (off1 u)) [35]).1 [63]))
def up (x : Int) : Int := if x = -1 then -1 else x + 1
def scan : Bool → List UInt8 → Int
  | _, [] => -1
  | q, c :: l =>
    if c = 35 then -1
    else if c = 63 ∧ q = false then (if attr.isPrefixOf l = true then 0 else up (scan true l))
    else if ((c = 59 ∧ q = false) ∨ (c = 38 ∧ q = true)) ∧ attr.isPrefixOf l = true then 0
    else up (scan q l)
theorem lift_up (j : Nat) (x : Int) (h : -1 ≤ x) : lift j (up x) = lift (j + 1) x := by
  unfold lift up
  split <;> (try split) <;> omega
theorem cut_nil (c : UInt8) : Lib.cut [] [c] = ([], [], false) := rfl
theorem cut_cons (b : UInt8) (l : List UInt8) (c : UInt8) : Lib.cut (b :: l) [c] = if b = c then ([], l, true) else (b :: (Lib.cut l [c]).1, (Lib.cut l [c]).2.1, (Lib.cut l [c]).2.2) := by
  have hg := Lib.indexByte_ge l c
  by_cases h : b = c
  · subst h
    unfold Lib.cut
    rw [Lib.index_one]
    simp [Lib.indexByte]
  · have hb : (b == c) = false := by simpa using h
    unfold Lib.cut
    simp only [Lib.index_one, Lib.indexByte, hb, if_neg h]
    by_cases h1 : Lib.indexByte l c = -1
    · rw [h1]
      simp
    · obtain ⟨k, hk⟩ : ∃ k : Nat, Lib.indexByte l c = k := ⟨(Lib.indexByte l c).toNat, by omega⟩
      rw [hk]
      have e1 : (((k : Nat) : Int) == -1) = false := by rw [beq_eq_false_iff_ne]; omega
      rw [e1]
      have e2 : ((k : Int) + 1).toNat = k + 1 := by omega
      have e3 : (0 : Int) ≤ (k : Int) + 1 := by omega
      simp [e2, e3]
theorem pre_cut (c : UInt8) : ∀ (p l : List UInt8), c ∉ p → p.isPrefixOf (Lib.cut l [c]).1 = p.isPrefixOf l
  | [], l, _ => by simp
  | a :: p, [], _ => by simp [cut_nil]
  | a :: p, b :: l, h => by
    have ha : a ≠ c := fun e => h (by simp [e])
    have hp : c ∉ p := fun e => h (by simp [e])
    rw [cut_cons]
    split
    · rename_i e
      subst e
      simp [List.isPrefixOf, ha]
    · simp only [List.isPrefixOf]
      rw [pre_cut c p l hp]
theorem index_cons' (b : UInt8) (l : List UInt8) (a : UInt8) (p : List UInt8) : Lib.index (b :: l) (a :: p) = if b = a ∧ p.isPrefixOf l = true then 0 else up (Lib.index l (a :: p)) := by
  have hc : ((a :: p).isPrefixOf (b :: l) = true) ↔ (b = a ∧ p.isPrefixOf l = true) := by
    simp only [List.isPrefixOf, Bool.and_eq_true, beq_iff_eq]
    constructor <;> rintro ⟨h1, h2⟩ <;> exact ⟨h1.symm, h2⟩
  have hu : (if (Lib.index l (a :: p) == -1) = true then (-1 : Int) else Lib.index l (a :: p) + 1) = up (Lib.index l (a :: p)) := by
    unfold up
    simp
  rw [Lib.index, hu]
  by_cases h : b = a ∧ p.isPrefixOf l = true
  · rw [if_pos (hc.2 h), if_pos h]
  · rw [if_neg (fun e => h (hc.1 e)), if_neg h]
theorem n35 : (35 : UInt8) ∉ attr := by decide
theorem n63 : (63 : UInt8) ∉ attr := by decide
theorem scan_tt (b : UInt8) (l : List UInt8) : scan true (b :: l) = if b = 35 then -1 else if b = 38 ∧ attr.isPrefixOf l = true then 0 else up (scan true l) := by
  rw [scan]
  by_cases h : b = 35
  · rw [if_pos h, if_pos h]
  · rw [if_neg h, if_neg h, if_neg (fun e => absurd e.2 (by decide))]
    by_cases h2 : b = 38 ∧ attr.isPrefixOf l = true
    · rw [if_pos h2, if_pos ⟨Or.inr ⟨h2.1, rfl⟩, h2.2⟩]
    · rw [if_neg h2, if_neg]
      rintro ⟨e | e, e'⟩
      · exact absurd e.2 (by decide)
      · exact h2 ⟨e.1, e'⟩
theorem scan_ff (b : UInt8) (l : List UInt8) : scan false (b :: l) = if b = 35 then -1 else if b = 63 then (if attr.isPrefixOf l = true then 0 else up (scan true l)) else if b = 59 ∧ attr.isPrefixOf l = true then 0 else up (scan false l) := by
  rw [scan]
  by_cases h : b = 35
  · rw [if_pos h, if_pos h]
  · rw [if_neg h, if_neg h]
    by_cases h3 : b = 63
    · rw [if_pos ⟨h3, rfl⟩, if_pos h3]
    · rw [if_neg (fun e => h3 e.1), if_neg h3]
      by_cases h2 : b = 59 ∧ attr.isPrefixOf l = true
      · rw [if_pos h2, if_pos ⟨Or.inl ⟨h2.1, rfl⟩, h2.2⟩]
      · rw [if_neg h2, if_neg]
        rintro ⟨e | e, e'⟩
        · exact h2 ⟨e.1, e'⟩
        · exact absurd e.2 (by decide)
theorem scan_true : ∀ l : List UInt8, scan true l = Lib.index (Lib.cut l [35]).1 (38 :: attr)
  | [] => by simp [scan, cut_nil, Lib.index]
  | b :: l => by
    rw [cut_cons, scan_tt]
    by_cases h : b = 35
    · rw [if_pos h, if_pos h]
      simp [Lib.index]
    · rw [if_neg h, if_neg h, index_cons', pre_cut 35 attr l n35, scan_true l]
theorem pick3_cons (b : UInt8) (C : List UInt8 × List UInt8 × Bool) : pick3 (b :: C.1, C.2.1, C.2.2) = if b = 59 ∧ attr.isPrefixOf C.1 = true then 0 else up (pick3 C) := by
  have hg := Lib.index_ge C.1 (59 :: attr)
  have hg2 := Lib.index_ge C.2.1 (38 :: attr)
  unfold pick3
  rw [index_cons']
  generalize Lib.index C.1 (59 :: attr) = x at hg ⊢
  generalize Lib.index C.2.1 (38 :: attr) = y at hg2 ⊢
  by_cases h : b = 59 ∧ attr.isPrefixOf C.1 = true
  · simp only [if_pos h]
    simp
  · simp only [if_neg h, List.length_cons]
    unfold up
    by_cases hx : x = -1
    · subst hx
      simp
      split
      · rw [if_neg (by omega)]
      · split
        · rw [if_neg (by omega)]; omega
        · simp
    · have h1 : 0 ≤ x := by omega
      have h2 : 0 ≤ x + 1 := by omega
      simp [hx, h1, h2]
theorem pick3_q (q : List UInt8) : pick3 ([], q, true) = if attr.isPrefixOf q = true then 0 else up (Lib.index q (38 :: attr)) := by
  have hg := Lib.index_ge q (38 :: attr)
  unfold pick3 Lib.hasPrefix up
  generalize Lib.index q (38 :: attr) = x at hg ⊢
  simp only [Lib.index, List.isEmpty_cons, Bool.true_and, List.length_nil]
  rw [if_neg (by decide)]
  by_cases h3 : attr.isPrefixOf q = true
  · rw [if_pos h3, if_pos h3]
    rfl
  · rw [if_neg h3, if_neg h3]
    by_cases h4 : x = -1
    · subst h4
      simp
    · have h5 : 0 ≤ x := by omega
      simp only [h4, h5, decide_true, if_true, if_false]
      omega
theorem scan_false : ∀ l : List UInt8, scan false l = pick3 (Lib.cut (Lib.cut l [35]).1 [63])
  | [] => by simp [scan, cut_nil, Lib.index, pick3]
  | b :: l => by
    rw [cut_cons, scan_ff]
    by_cases h : b = 35
    · rw [if_pos h, if_pos h]
      simp [cut_nil, Lib.index, pick3]
    · rw [if_neg h, if_neg h]
      rw [cut_cons]
      by_cases h2 : b = 63
      · rw [if_pos h2, if_pos h2, scan_true l, pick3_q, pre_cut 35 attr l n35]
      · rw [if_neg h2, if_neg h2, scan_false l, pick3_cons, pre_cut 63 _ _ n63, pre_cut 35 _ _ n35]
theorem cutAt_scan (u : List UInt8) : cutAt u = lift (off1 u) (scan false (u.drop (off1 u))) := by
  unfold cutAt
  rw [scan_false]
theorem scan_ge : ∀ (q : Bool) (l : List UInt8), -1 ≤ scan q l
  | _, [] => by simp [scan]
  | q, b :: l => by
    have h1 := scan_ge true l
    have h2 := scan_ge q l
    rw [scan]
    unfold up
    repeat' split
    all_goals omega
/-- Where the scan stops, the mark and the attribute stand. -/
theorem scan_spec : ∀ (q : Bool) (l : List UInt8) (k : Nat), scan q l = k → k < l.length ∧ attr.isPrefixOf (l.drop (k + 1)) = true
  | _, [], k => by
    intro h
    simp only [scan] at h
    omega
  | q, b :: l, k => by
    have hup : ∀ q', up (scan q' l) = k → k < (b :: l).length ∧ attr.isPrefixOf ((b :: l).drop (k + 1)) = true := by
      intro q' h
      have hg := scan_ge q' l
      unfold up at h
      split at h
      · omega
      · obtain ⟨k', rfl⟩ : ∃ k', k = k' + 1 := ⟨k - 1, by omega⟩
        have := scan_spec q' l k' (by omega)
        simpa using this
    rw [scan]
    intro h
    split at h
    · omega
    · split at h
      · split at h
        · have : k = 0 := by omega
          subst this
          rename_i h2
          simpa using h2
        · exact hup _ h
      · split at h
        · have : k = 0 := by omega
          subst this
          rename_i h2
          simpa using h2.2
        · exact hup _ h
def stop (chars r : List UInt8) : Nat := if Lib.indexAny r chars < 0 then r.length else (Lib.indexAny r chars).toNat
theorem authEnd_stop (r : List UInt8) : authEnd r = stop [47, 63, 35] r := rfl
theorem stop_le (chars r : List UInt8) : stop chars r ≤ r.length := by
  have := indexAny_lt chars r
  unfold stop
  split <;> omega
theorem stop_cons (chars : List UInt8) (b : UInt8) (l : List UInt8) : stop chars (b :: l) = if chars.contains b then 0 else stop chars l + 1 := by
  have hg := Lib.indexAny_ge chars l
  unfold stop
  simp only [Lib.indexAny]
  split
  · simp
  · generalize Lib.indexAny l chars = x at hg ⊢
    by_cases hx : x = -1
    · simp [hx]
    · have : (x == -1) = false := by simpa using hx
      simp only [this]
      have h1 : ¬ x + 1 < 0 := by omega
      have h2 : ¬ x < 0 := by omega
      simp [h1, h2]
      omega
theorem off0_le (u : List UInt8) : off0 u ≤ u.length := by
  have := indexAny_lt [58, 47, 63, 35] u
  unfold off0
  split
  · rename_i h
    simp only [Bool.and_eq_true, decide_eq_true_eq] at h
    omega
  · omega
theorem off1_le (u : List UInt8) : off1 u ≤ u.length := by
  have h0 := off0_le u
  unfold off1
  split
  · rename_i h
    unfold Lib.hasPrefix at h
    have := (List.isPrefixOf_iff_prefix.1 h).length_le
    have h2 := stop_le [47, 63, 35] ((u.drop (off0 u)).drop 2)
    rw [authEnd_stop]
    simp at this h2 ⊢
    omega
  · exact h0
theorem cutAt_spec (u : List UInt8) (k : Nat) (h : cutAt u = k) : k < u.length ∧ attr.isPrefixOf (u.drop (k + 1)) = true := by
  rw [cutAt_scan] at h
  have hg := scan_ge false (u.drop (off1 u))
  unfold lift at h
  split at h
  · omega
  · obtain ⟨j, hj⟩ : ∃ j : Nat, scan false (u.drop (off1 u)) = j := ⟨(scan false (u.drop (off1 u))).toNat, by omega⟩
    obtain ⟨h1, h2⟩ := scan_spec false _ j hj
    have hk : k = off1 u + j := by omega
    subst hk
    rw [List.drop_drop] at h2
    refine ⟨?_, ?_⟩
    · simp at h1; omega
    · rw [← h2]; congr 2
theorem cutAt_room (u : List UInt8) (k : Nat) (h : cutAt u = k) : k + 19 ≤ u.length := by
  obtain ⟨h1, h2⟩ := cutAt_spec u k h
  have := (List.isPrefixOf_iff_prefix.1 h2).length_le
  simp [attr] at this
  omega
theorem cutAt_ge (u : List UInt8) : -1 ≤ cutAt u := by
  rw [cutAt_scan]
  have hg := scan_ge false (u.drop (off1 u))
  unfold lift
  split <;> omega
end Go.Proofs.Qxb6602100a
