/-
  DERIVED. WALK: FnCutTokenCutsOneBlockOrNothing returns true.
-/
import Derived.Test.Qxb6602100aLaw5
namespace Go.Proofs.Qxb6602100a
open Go.RowKit
/-- Does p stand somewhere in s? -/
def Occ (s p : List UInt8) : Prop := ∃ i, i ≤ s.length ∧ p.isPrefixOf (s.drop i) = true
set_option maxHeartbeats 1000000 in
theorem w18 (s p : ByteArray) (w : World) (hs : s.size ≤ 1048576) (hp : p.size ≤ 1048576) (b : Bool) (hb : b = true ↔ Occ s.data.toList p.data.toList) :
    Calls Try.prog 18 #[.string s, .string p] w fun e w' => e = .returned (.bool b) ∧ ∃ n, w' = w.drewN n := by
  have HB := hide hb
  clear hb
  go_enter Try.func18, Try.ntmps18
  go_wp2
  go_loopw [5] (fun v wr => ∃ k : Nat, k ≤ s.size + 1 ∧ v = .int .i64 k ∧ (∀ i, i < k → p.data.toList.isPrefixOf (s.data.toList.drop i) = false) ∧ ∃ n, wr = w.drewN n) (fun v _ => s.size + 1 - (intOf v).toNat)
  case atStart => exact ⟨0, Nat.zero_le _, rfl, fun i hi => by omega, 0, rfl⟩
  case round =>
    obtain ⟨k, hk, rfl, hno, hnd⟩ := hrel
    have HNO := hide hno
    have HND := hide hnd
    clear hno hnd
    by_cases hlt : k + p.size ≤ s.size
    · have hltI : (k : Int) + (p.size : Int) ≤ (s.size : Int) := by omega
      obtain ⟨c, hc⟩ : ∃ c, p.data.toList.isPrefixOf (s.data.toList.drop k) = c := ⟨_, rfl⟩
      have h30 := fun w => w30 s p k w hs hp (by omega) c hc
      have H30 := hide h30
      have HC := hide hc
      clear h30 hc
      cases c with
      | true =>
        have hbt : b = true := (unhide HB).2 ⟨k, by rw [← size_list]; omega, unhide HC⟩
        subst hbt
        go_wp2_with (go_at_call 30; refine (unhide H30 _).mono ?_; rintro e w' ⟨rfl, nd2, hw'⟩; subst w')
        go_ret
        obtain ⟨nd, hnd⟩ := unhide HND
        exact ⟨rfl, nd + nd2, by rw [hnd]; simp⟩
      | false =>
        go_wp2_with (go_at_call 30; refine (unhide H30 _).mono ?_; rintro e w' ⟨rfl, nd2, hw'⟩; subst w')
        go_roundw
        case rel =>
          obtain ⟨nd, hnd⟩ := unhide HND
          refine ⟨k + 1, by omega, by go_num, fun i hi => ?_, nd + nd2, by rw [hnd]; simp⟩
          by_cases e : i = k
          · subst e; exact unhide HC
          · exact unhide HNO i (by omega)
        case measure => simp [intOf]; omega
    · have hltd : decide ((k : Int) + (p.size : Int) ≤ (s.size : Int)) = false := by simp; omega
      have hbf : b = false := by
        rw [Bool.eq_false_iff]
        intro h
        obtain ⟨i, hi, hpre⟩ := (unhide HB).1 h
        have h1 : ¬ i < k := fun hik => by rw [unhide HNO i hik] at hpre; cases hpre
        have h2 := (List.isPrefixOf_iff_prefix.1 hpre).length_le
        rw [List.length_drop, ← size_list, ← size_list] at h2
        rw [← size_list] at hi
        by_cases h3 : s.size - i = 0
        · omega
        · omega
      subst hbf
      have hge : s.size < k + p.size := by omega
      have hgeI : (s.size : Int) < (k : Int) + (p.size : Int) := by omega
      clear hlt
      go_wp2
      go_ret
      exact ⟨rfl, unhide HND⟩
theorem w17 (s : ByteArray) (w : World) (hs : s.size ≤ 1048576) : Calls Try.prog 17 #[.string s] w fun e w' => e = .returned (.bool true) ∧ w' = w := by
  go_enter Try.func17, Try.ntmps17
  go_wp2
  go_ret
  exact ⟨rfl, rfl⟩
theorem w17n (s : ByteArray) (w : World) (hm : s.size ≤ maxLen) (hs : 1048576 < s.size) : Calls Try.prog 17 #[.string s] w fun e w' => e = .returned (.bool false) ∧ w' = w := by
  unfold maxLen at hm
  go_enter Try.func17, Try.ntmps17
  go_wp2
  go_ret
  exact ⟨rfl, rfl⟩
theorem stop_not (chars : List UInt8) : ∀ (l : List UInt8) (j : Nat) (c : UInt8), j < stop chars l → l[j]? = some c → chars.contains c = false
  | [], j, c, _, h => by simp at h
  | b :: l, j, c, hj, h => by
    rw [stop_cons] at hj
    split at hj
    · omega
    · rename_i hb
      cases j with
      | zero =>
        simp only [List.getElem?_cons_zero, Option.some.injEq] at h
        subst h
        simpa using hb
      | succ j =>
        rw [List.getElem?_cons_succ] at h
        exact stop_not chars l j c (by omega) h
/-- A block taken out. -/
structure Out (u r : ByteArray) (a d : Nat) : Prop where
  size : r.size + d = u.size
  le : a ≤ r.size
  fst : ∀ i (h1 : i < r.size) (h2 : i < u.size), i < a → r[i] = u[i]
  snd : ∀ i (h1 : i < r.size) (h2 : i + d < u.size), a ≤ i → r[i] = u[i + d]
theorem out_of (u : ByteArray) (a c : Nat) (hac : a ≤ c) (hc : c ≤ u.size) : Out u (u.extract 0 a ++ u.extract c u.size) a (c - a) := by
  have hl : (u.extract 0 a ++ u.extract c u.size).data.toList = u.data.toList.take a ++ u.data.toList.drop c := by
    rw [ByteArray.data_append, Array.toList_append, Lib.extract_to_end]
    congr 1
    simp
  have hsz : (u.extract 0 a ++ u.extract c u.size).size = a + (u.size - c) := by
    simp
    omega
  generalize u.extract 0 a ++ u.extract c u.size = r at hl hsz
  refine ⟨by omega, by omega, ?_, ?_⟩
  · intro i h1 h2 hi
    have e1 := getElem_l r i h1
    rw [hl, List.getElem?_append_left (by simp; omega), List.getElem?_take, if_pos hi, getElem_l u i h2] at e1
    simpa using e1.symm
  · intro i h1 h2 hi
    have e1 := getElem_l r i h1
    have e2 := getElem_l u (i + (c - a)) h2
    have hlen : (u.data.toList.take a).length = a := by simp; omega
    rw [hl, List.getElem?_append_right (by omega), List.getElem?_drop, hlen, show c + (i - a) = i + (c - a) from by omega, e2] at e1
    simpa using e1.symm
/-- What cutToken's three results are. -/
theorem tup_facts (u : ByteArray) : (tupOf u = .tuple #[.string ⟨#[]⟩, .string u, .bool false]) ∨
    ∃ (t r : ByteArray) (a : Nat), tupOf u = .tuple #[.string t, .string r, .bool true] ∧ Out u r a (19 + t.size) ∧ (∀ j (h : j < t.size), resL.contains t[j] = false) ∧ Occ u.data.toList attr := by
  have hg := cutAt_ge u.data.toList
  by_cases hneg : cutAt u.data.toList < 0
  · left
    unfold tupOf
    rw [if_pos hneg]
  · right
    obtain ⟨k, hk⟩ : ∃ k : Nat, cutAt u.data.toList = k := ⟨(cutAt u.data.toList).toNat, by omega⟩
    have hroom := cutAt_room _ _ hk
    obtain ⟨hk1, hpre⟩ := cutAt_spec _ _ hk
    rw [← size_list] at hroom
    have he1 : endOf u k ≤ u.size := by
      have := stop_le [58, 47, 63, 35, 91, 93, 64, 33, 36, 38, 39, 40, 41, 42, 43, 44, 59, 61] (u.data.toList.drop (k + 19))
      rw [List.length_drop, ← size_list] at this
      unfold endOf
      omega
    have he0 : k + 19 ≤ endOf u k := by unfold endOf; omega
    have hts : (u.extract (k + 19) (endOf u k)).size = endOf u k - (k + 19) := by simp; omega
    have hno : ∀ j (h : j < (u.extract (k + 19) (endOf u k)).size), resL.contains (u.extract (k + 19) (endOf u k))[j] = false := by
      intro j h
      have h' := h
      rw [hts] at h'
      refine stop_not resL (u.data.toList.drop (k + 19)) j _ ?_ ?_
      · have : endOf u k = k + 19 + stop resL (u.data.toList.drop (k + 19)) := rfl
        omega
      · rw [List.getElem?_drop, getElem_l u (k + 19 + j) (by omega)]
        simp [ByteArray.getElem_extract]
    have hocc : Occ u.data.toList attr := ⟨k + 1, by omega, hpre⟩
    refine ⟨u.extract (k + 19) (endOf u k), restOf u k, ?_⟩
    have htup : tupOf u = .tuple #[.string (u.extract (k + 19) (endOf u k)), .string (restOf u k), .bool true] := by
      unfold tupOf
      rw [hk, if_neg (by omega)]
      simp only [Int.toNat_natCast]
    by_cases hb : (decide (endOf u k < u.size) && subD (u.data.toList.getD (endOf u k) 0)) = true
    · have hlt : endOf u k < u.size := by
        simp only [Bool.and_eq_true, decide_eq_true_eq] at hb
        exact hb.1
      refine ⟨k + 1, htup, ?_, hno, hocc⟩
      have h1 := out_of u (k + 1) (endOf u k + 1) (by omega) (by omega)
      unfold restOf
      rw [if_pos hb, hts]
      have e : 19 + (endOf u k - (k + 19)) = endOf u k + 1 - (k + 1) := by omega
      rw [e]
      exact h1
    · refine ⟨k, htup, ?_, hno, hocc⟩
      have h1 := out_of u k (endOf u k) (by omega) (by omega)
      unfold restOf
      rw [if_neg hb, hts]
      have e : 19 + (endOf u k - (k + 19)) = endOf u k - k := by omega
      rw [e]
      exact h1
end Go.Proofs.Qxb6602100a
