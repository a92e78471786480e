/-
  DERIVED. PLAIN LAWS: a token placed as the first query parameter is cut back out.
-/
import Derived.Test.Qxb6602100aLaw6
namespace Go.Proofs.Qxb6602100a
open Go.RowKit
theorem pre_app (c : UInt8) (Y : List UInt8) : ∀ (p l : List UInt8), c ∉ p → p.isPrefixOf (l ++ c :: Y) = p.isPrefixOf l
  | [], l, _ => by simp
  | a :: p, [], h => by
    have ha : a ≠ c := fun e => h (by simp [e])
    simp [List.isPrefixOf, ha]
  | a :: p, b :: l, h => by
    have hp : c ∉ p := fun e => h (by simp [e])
    simp only [List.cons_append, List.isPrefixOf]
    rw [pre_app c Y p l hp]
theorem stop_app (chars : List UInt8) (c : UInt8) (Y : List UInt8) (hc : chars.contains c = true) : ∀ l : List UInt8, stop chars (l ++ c :: Y) ≤ l.length
  | [] => by
    rw [List.nil_append, stop_cons, if_pos hc]
    exact Nat.zero_le _
  | b :: l => by
    have := stop_app chars c Y hc l
    rw [List.cons_append, stop_cons, List.length_cons]
    split
    · omega
    · omega
theorem stop_none (chars : List UInt8) : ∀ l : List UInt8, (∀ c ∈ l, chars.contains c = false) → stop chars l = l.length
  | [], _ => by
    have := stop_le chars []
    simpa using this
  | b :: l, h => by
    have hb : chars.contains b = false := h b (by simp)
    rw [stop_cons, if_neg (by rw [hb]; decide), stop_none chars l (fun c hc => h c (by simp [hc])), List.length_cons]
theorem stop_app_eq (chars : List UInt8) (c : UInt8) (Y : List UInt8) (hc : chars.contains c = true) : ∀ l : List UInt8, (∀ c ∈ l, chars.contains c = false) → stop chars (l ++ c :: Y) = l.length
  | [], _ => by
    rw [List.nil_append, stop_cons, if_pos hc]
    rfl
  | b :: l, h => by
    have hb : chars.contains b = false := h b (by simp)
    rw [List.cons_append, stop_cons, if_neg (by rw [hb]; decide), stop_app_eq chars c Y hc l (fun c hc => h c (by simp [hc])), List.length_cons]
theorem off0_app (l Y : List UInt8) : off0 (l ++ 63 :: Y) ≤ l.length := by
  have hs := stop_app [58, 47, 63, 35] 63 Y (by decide) l
  unfold stop at hs
  unfold off0
  generalize Lib.indexAny (l ++ 63 :: Y) [58, 47, 63, 35] = x at hs ⊢
  split
  · rename_i h
    simp only [Bool.and_eq_true, decide_eq_true_eq, beq_iff_eq] at h
    rw [if_neg (by omega)] at hs
    have hne : x.toNat ≠ l.length := by
      intro e
      have h2 := h.2
      rw [e] at h2
      simp at h2
    omega
  · exact Nat.zero_le _
theorem off1_app (l Y : List UInt8) : off1 (l ++ 63 :: Y) ≤ l.length := by
  have h0 := off0_app l Y
  unfold off1
  split
  · rename_i h
    unfold Lib.hasPrefix at h
    rw [List.drop_append_of_le_length h0, pre_app 63 Y _ _ (by decide)] at h
    have h1 := (List.isPrefixOf_iff_prefix.1 h).length_le
    rw [List.length_drop] at h1
    simp only [List.length_cons, List.length_nil] at h1
    have h2 : ((l ++ 63 :: Y).drop (off0 (l ++ 63 :: Y))).drop 2 = (l.drop (off0 (l ++ 63 :: Y) + 2)) ++ 63 :: Y := by
      rw [List.drop_drop, List.drop_append_of_le_length (by omega)]
    rw [h2, authEnd_stop]
    have h3 := stop_app [47, 63, 35] 63 Y (by decide) (l.drop (off0 (l ++ 63 :: Y) + 2))
    rw [List.length_drop] at h3
    omega
  · exact h0
theorem attr_pre (Y : List UInt8) : attr.isPrefixOf (attr ++ Y) = true := List.isPrefixOf_iff_prefix.2 (List.prefix_append _ _)
theorem scan_app (Y : List UInt8) : ∀ l : List UInt8, (∀ c ∈ l, c ≠ 63 ∧ c ≠ 35) → (∀ i, i ≤ l.length → attr.isPrefixOf (l.drop i) = false) → scan false (l ++ 63 :: (attr ++ Y)) = l.length
  | [], _, _ => by
    rw [List.nil_append, scan_ff, if_neg (by decide), if_pos rfl, if_pos (attr_pre Y)]
    rfl
  | b :: l, h, ho => by
    obtain ⟨hb, hb'⟩ := h b (by simp)
    have ih := scan_app Y l (fun c hc => h c (by simp [hc])) (fun i hi => by simpa using ho (i + 1) (by simpa using hi))
    have hn : attr.isPrefixOf (l ++ 63 :: (attr ++ Y)) = false := by
      rw [pre_app 63 _ _ _ n63]
      simpa using ho 1 (by simp)
    rw [List.cons_append, scan_ff, if_neg hb', if_neg hb, if_neg (by rw [hn]; simp), ih, List.length_cons]
    unfold up
    rw [if_neg (by omega)]
    omega
theorem cutAt_app (l Y : List UInt8) (h : ∀ c ∈ l, c ≠ 63 ∧ c ≠ 35) (ho : ¬ Occ l attr) : cutAt (l ++ 63 :: (attr ++ Y)) = l.length := by
  have h1 := off1_app l (attr ++ Y)
  rw [cutAt_scan]
  generalize off1 (l ++ 63 :: (attr ++ Y)) = o at h1 ⊢
  rw [List.drop_append_of_le_length h1, scan_app Y (l.drop o) (fun c hc => h c (List.mem_of_mem_drop hc))]
  · rw [List.length_drop]
    unfold lift
    rw [if_neg (by omega)]
    omega
  · intro i hi
    rw [Bool.eq_false_iff]
    intro e
    rw [List.drop_drop] at e
    rw [List.length_drop] at hi
    exact ho ⟨o + i, by omega, e⟩
/-- What the law asks of base and token. -/
def Prem (base tok : List UInt8) : Prop := (∀ c ∈ base, c ≠ 63 ∧ c ≠ 35) ∧ ¬ Occ base attr ∧ ∀ c ∈ tok, resL.contains c = false
theorem ba_list_eq {a b : ByteArray} (h : a.data.toList = b.data.toList) : a = b := by
  apply ByteArray.ext
  exact Array.toList_inj.1 h
theorem ext_list (u : ByteArray) (i j : Nat) : (u.extract i j).data.toList = (u.data.toList.drop i).take (j - i) := by
  simp [ByteArray.data_extract]
theorem round_tup (base tok u r : ByteArray) (T : List UInt8) (hu : u.data.toList = base.data.toList ++ 63 :: (attr ++ (tok.data.toList ++ T))) (hp : Prem base.data.toList tok.data.toList)
    (hT : (T = [] ∧ r = base) ∨ ∃ t : List UInt8, T = 38 :: t ∧ r.data.toList = base.data.toList ++ 63 :: t) : tupOf u = .tuple #[.string tok, .string r, .bool true] := by
  obtain ⟨h1, h2, h3⟩ := hp
  have hk : cutAt u.data.toList = (base.size : Int) := by
    rw [hu, cutAt_app _ _ h1 h2, ← size_list]
  have hd : u.data.toList.drop (base.size + 19) = tok.data.toList ++ T := by
    rw [hu, ← List.drop_drop, size_list, List.drop_left]
    rfl
  have hst : stop resL (tok.data.toList ++ T) = tok.size := by
    rcases hT with ⟨rfl, _⟩ | ⟨t, rfl, _⟩
    · rw [List.append_nil, stop_none resL _ h3, size_list]
    · rw [stop_app_eq resL 38 t (by decide) _ h3, size_list]
  have he : endOf u base.size = base.size + 19 + tok.size := by
    have e : endOf u base.size = base.size + 19 + stop resL (u.data.toList.drop (base.size + 19)) := rfl
    rw [e, hd, hst]
  have hsz : u.size = base.size + 19 + tok.size + T.length := by
    rw [size_list u, hu]
    simp [attr]
    omega
  have htk : u.extract (base.size + 19) (base.size + 19 + tok.size) = tok := by
    apply ba_list_eq
    rw [ext_list, hd, show base.size + 19 + tok.size - (base.size + 19) = tok.data.toList.length from by rw [← size_list]; omega, List.take_left]
  have hd2 : u.data.toList.drop (base.size + 19 + tok.size) = T := by
    rw [← List.drop_drop, hd, size_list tok, List.drop_left]
  have hre : restOf u base.size = r := by
    unfold restOf
    rw [he]
    rcases hT with ⟨rfl, rfl⟩ | ⟨t, rfl, hr⟩
    · rw [if_neg (by simp only [hsz, List.length_nil, Nat.add_zero, Nat.lt_irrefl, decide_false, Bool.false_and]; decide)]
      apply ba_list_eq
      rw [ByteArray.data_append, Array.toList_append, ext_list, ext_list, hd2, List.drop_zero, hu, Nat.sub_zero, size_list r, List.take_left]
      simp
    · have hg : u.data.toList.getD (base.size + 19 + tok.size) 0 = 38 := by
        rw [List.getD_eq_getElem?_getD]
        have e : u.data.toList[base.size + 19 + tok.size]? = (u.data.toList.drop (base.size + 19 + tok.size))[0]? := by simp
        rw [e, hd2]
        rfl
      rw [hg, if_pos (by rw [hsz]; simp [subD])]
      apply ba_list_eq
      have hd3 : u.data.toList.drop (base.size + 19 + tok.size + 1) = t := by
        rw [← List.drop_drop, hd2]
        rfl
      rw [ByteArray.data_append, Array.toList_append, ext_list, ext_list, hd3, List.drop_zero, Nat.sub_zero, hr, hu]
      have e4 : t.take (u.size - (base.size + 19 + tok.size + 1)) = t := List.take_of_length_le (by rw [hsz, List.length_cons]; omega)
      have e2 : base.size + 1 = (base.data.toList ++ [63]).length := by rw [List.length_append, ← size_list]; rfl
      have e3 : base.data.toList ++ 63 :: (attr ++ (tok.data.toList ++ 38 :: t)) = (base.data.toList ++ [63]) ++ (attr ++ (tok.data.toList ++ 38 :: t)) := by simp
      rw [e4, e2, e3, List.take_left]
      simp
  unfold tupOf
  rw [hk, if_neg (by omega)]
  simp only [Int.toNat_natCast]
  rw [he, htk, hre]
end Go.Proofs.Qxb6602100a
