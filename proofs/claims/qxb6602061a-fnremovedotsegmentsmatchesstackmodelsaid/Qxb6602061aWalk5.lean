/-
  DERIVED. WALK: zzuRemoveDotsModel computes 'Rd.model'.
-/
import Derived.Test.Qxb6602061aWalk4
namespace Go.Proofs.Qxb6602061a
open Go.RowKit
theorem c40 (head : ByteArray) (hh : Bool) (ts : List ByteArray) (ao : Option Addr) (n cap : Nat) (w : World) (hn : n = ts.length) (hh0 : head.size ≤ 1048576) (hts : (Rd.join (dat ts)).length ≤ 2097152)
    (hcell : ∀ j (hj : j < ts.length), ∃ g off, ao = some ⟨g, off, none⟩ ∧ w.cell? ⟨g, off + j, none⟩ = some (.string ts[j])) :
    Calls Try.prog 40 #[.string head, .bool hh, .slice ao n cap] w fun e w' => e = .returned (.string ⟨(Rd.slash head.data.toList hh (dat ts)).toArray⟩) ∧ Below w.heap.size w w' := by
  subst hn
  exact w40 head hh ts ao cap w hh0 hts hcell
theorem first_byte (p : ByteArray) (h : 0 < p.size) : ∃ r, p.data.toList = p[0] :: r ∧ r = p.data.toList.drop 1 := by
  have h0 : 0 < p.data.toList.length := by rw [← size_list]; exact h
  refine ⟨p.data.toList.drop 1, ?_, rfl⟩
  have := List.drop_eq_getElem_cons h0
  simp only [List.drop_zero] at this
  rw [this]
  congr 1
set_option maxHeartbeats 1600000 in
theorem w25_abs (p : ByteArray) (w : World) (hs : p.size ≤ 1048576) (hp : 0 < p.size) (h47 : ((p[0].toNat : Int) == 47) = true) :
    Calls Try.prog 25 #[.string p] w fun e w' => e = .returned (.string ⟨(Rd.model p.data.toList).toArray⟩) ∧ Below w.heap.size w w' := by
  have hE : p.toList.isEmpty = false := by
    rw [Lib.toList_data, List.isEmpty_eq_false_iff]
    intro h
    rw [size_list, h] at hp
    simp at hp
  have hm : Rd.model p.data.toList = Rd.slash [] false (Rd.split (p.data.toList.drop 1)) := by
    obtain ⟨r, hr, he⟩ := first_byte p hp
    rw [hr]
    have : p[0] = 47 := (byte_eq _ 47 (by omega)).1 h47
    rw [this]
    simp [Rd.model]
  have Hm := hide hm
  clear hm
  go_enter Try.func25, Try.ntmps25
  go_wp2_with (first
    | (go_at_call 41; refine (w41 _ _ ?_).mono ?_; (simp; omega); rintro e w1 ⟨v, ss, rfl, hown, hss, hbel⟩; obtain ⟨ao, cap, hv⟩ := hown.any; subst hv; have Hss := hide hss; clear hss))
  have hsd : dat ss = Rd.split (p.data.toList.drop 1) := by
    have := unhide Hss
    rw [Lib.extract_to_end] at this
    exact this
  refine (c40 _ _ ss _ _ _ _ rfl (by decide) ?_ ?_).mono ?_
  · rw [hsd, Rd.split_join_length, List.length_drop, ← size_list]
    omega
  · intro j hj
    rcases hown.shape with ⟨_, rfl⟩ | ⟨g, c, hv, _, _, _, hg, hc⟩
    · simp at hj
    · simp only [Value.slice.injEq, true_and] at hv
      exact ⟨g, 0, hv.1, by rw [Nat.zero_add]; exact hc j hj⟩
  · rintro e w2 ⟨rfl, hbel2⟩
    have Hsd := hide hsd
    clear hsd
    go_wp2
    go_ret
    refine ⟨ret_str ?_, hbel.trans (hbel2.mono hbel.size)⟩
    rw [unhide Hm, ← unhide Hsd]
set_option maxHeartbeats 1600000 in
theorem w25_nil (p : ByteArray) (w : World) (hE : p.toList.isEmpty = true) :
    Calls Try.prog 25 #[.string p] w fun e w' => e = .returned (.string ⟨(Rd.model p.data.toList).toArray⟩) ∧ Below w.heap.size w w' := by
  have hm : Rd.model p.data.toList = [] := by
    rw [Lib.toList_data, List.isEmpty_iff] at hE
    rw [hE]
    rfl
  have Hm := hide hm
  clear hm
  go_enter Try.func25, Try.ntmps25
  go_wp2
  go_ret
  exact ⟨ret_str (by rw [unhide Hm]), Below.refl _ _⟩
theorem rel_dot_last (s : Rd.Seg) (h : s = [46] ∨ s = [46, 46]) : Rd.rel [s] = [] := by
  rcases h with rfl | rfl <;> rfl
theorem rel_dot (s t : Rd.Seg) (r : List Rd.Seg) (h : s = [46] ∨ s = [46, 46]) (ht : t ≠ []) : Rd.rel (s :: t :: r) = Rd.rel (t :: r) := by
  rw [Rd.rel_cons s (t :: r)]
  rcases h with rfl | rfl <;> simp [ht]
theorem rel_dot_e (s : Rd.Seg) (r : List Rd.Seg) (h : s = [46] ∨ s = [46, 46]) : Rd.rel (s :: [] :: r) = if r = [] then [] else Rd.slash [] false r := by
  rw [Rd.rel_cons s ([] :: r)]
  rcases h with rfl | rfl <;> simp
theorem dat_dropn (ss : List ByteArray) (k : Nat) : dat (ss.drop k) = (dat ss).drop k := by simp [dat, List.map_drop]
set_option maxHeartbeats 1600000 in
theorem w25_rel (p : ByteArray) (w : World) (hs : p.size ≤ 1048576) (hp : 0 < p.size) (h47 : ((p[0].toNat : Int) == 47) = false) :
    Calls Try.prog 25 #[.string p] w fun e w' => e = .returned (.string ⟨(Rd.model p.data.toList).toArray⟩) ∧ Below w.heap.size w w' := by
  have hE : p.toList.isEmpty = false := by
    rw [Lib.toList_data, List.isEmpty_eq_false_iff]
    intro h
    rw [size_list, h] at hp
    simp at hp
  have hm : Rd.model p.data.toList = Rd.rel (Rd.split p.data.toList) := by
    obtain ⟨r, hr, he⟩ := first_byte p hp
    rw [hr]
    have : p[0] ≠ 47 := by intro h; rw [h] at h47; exact absurd h47 (by decide)
    simp [Rd.model, this]
  have Hm := hide hm
  clear hm
  go_enter Try.func25, Try.ntmps25
  go_wp2_with (first
    | (go_at_call 41; refine (w41 _ _ hs).mono ?_; rintro e w1 ⟨v, ss, rfl, hown, hss, hbel⟩; rcases hown.shape with ⟨_, hnil⟩ | ⟨g, cap, hv, _, hcap, _, hg, hc⟩; exact absurd (by rw [← hss, hnil]; rfl) (Rd.split_ne p.data.toList); subst hv; have Hss := hide hss; clear hss))
  have hss' : dat ss = Rd.split p.data.toList := unhide Hss
  have hjl : (Rd.join (dat ss)).length ≤ 2097152 := by
    rw [hss', Rd.split_join_length, ← size_list]
    omega
  have hpos : 0 < ss.length := by
    rcases Nat.eq_zero_or_pos ss.length with h | h
    · have := List.eq_nil_of_length_eq_zero h
      rw [this] at hss'
      exact absurd hss'.symm (Rd.split_ne p.data.toList)
    · exact h
  have hnl : ss.length ≤ 2097152 := by have := Rd.join_length_ge (dat ss); rw [dat_length] at this; omega
  have Hss' := hide hss'
  have Hjl := hide hjl
  clear hss' Hss hjl
  go_loop [4] (fun v => ∃ i : Nat, i < ss.length ∧ v = .int .i64 i ∧ Rd.rel (dat (ss.drop i)) = Rd.rel (dat ss)) (fun v => ss.length - (intOf v).toNat)
  case atStart => exact ⟨0, hpos, rfl, rfl⟩
  case round =>
    obtain ⟨i, hi, rfl, hrel⟩ := hrel
    have hci := hc i hi
    rw [dat_drop ss i hi] at hrel
    have hsi : ss[i].size ≤ 1048576 := by
      have h1 := Rd.join_drop_le (dat ss) i
      rw [← dat_dropn, dat_drop ss i hi, join_cons_len, ← size_list, unhide Hss', Rd.split_join_length, ← size_list] at h1
      omega
    generalize ss[i] = s at hci hrel hsi
    have Hrel := hide hrel
    have Hc := hide hc
    clear hrel hc
    cases hd : (s.toList == [46] || s.toList == [46, 46]) with
    | true =>
      have hdd : s.data.toList = [46] ∨ s.data.toList = [46, 46] := by
        rw [Lib.toList_data] at hd
        simpa using hd
      have Hdd := hide hdd
      clear hdd
      by_cases hla : i + 1 = ss.length
      · have hl : ((i : Int) == (ss.length : Int) - 1) = true := beq_iff_eq.2 (by omega)
        have Hla := hide hla
        clear hla
        go_wp2
        all_goals
          go_ret
          refine ⟨ret_str ?_, hbel⟩
          rw [unhide Hm, ← unhide Hss', ← unhide Hrel, List.drop_of_length_le (by rw [unhide Hla]; exact Nat.le_refl _)]
          rw [show dat [] = [] from rfl, rel_dot_last _ (unhide Hdd)]
      · have hl : ((i : Int) == (ss.length : Int) - 1) = false := beq_eq_false_iff_ne.2 (by omega)
        have hi1 : i + 1 < ss.length := by omega
        clear hla
        have hci1 := unhide Hc (i + 1) hi1
        have hrel := unhide Hrel
        rw [dat_drop ss (i + 1) hi1] at hrel
        have hrd : dat (ss.drop (i + 1)) = ss[i + 1].data.toList :: dat (ss.drop (i + 1 + 1)) := dat_drop ss (i + 1) hi1
        generalize ss[i + 1] = t at hci1 hrel hrd
        have Hrel1 := hide hrel
        have Hrd := hide hrd
        clear Hrel hrel hrd
        cases ht : t.toList.isEmpty with
        | false =>
          have htn : t.data.toList ≠ [] := by rw [Lib.toList_data] at ht; simpa using ht
          have Htn := hide htn
          clear htn
          go_wp2
          all_goals
            refine ⟨⟨i + 1, hi1, by go_num, ?_⟩, by simp [intOf]; omega⟩
            rw [unhide Hrd, ← unhide Hrel1, rel_dot _ _ _ (unhide Hdd) (unhide Htn)]
        | true =>
          have htn : t.data.toList = [] := by rw [Lib.toList_data] at ht; simpa using ht
          have Htn := hide htn
          clear htn
          by_cases hla : i + 2 = ss.length
          · have hl2 : ((i : Int) + 1 == (ss.length : Int) - 1) = true := beq_iff_eq.2 (by omega)
            have Hla := hide hla
            clear hla
            go_wp2
            all_goals
              go_ret
              refine ⟨ret_str ?_, hbel⟩
              rw [unhide Hm, ← unhide Hss', ← unhide Hrel1, unhide Htn, rel_dot_e _ _ (unhide Hdd), if_pos]
              rw [List.drop_of_length_le (by have := unhide Hla; omega)]
              rfl
          · have hl2 : ((i : Int) + 1 == (ss.length : Int) - 1) = false := beq_eq_false_iff_ne.2 (by omega)
            have hlt2 : i + 1 + 1 < ss.length := by omega
            clear hla
            go_wp2_with fail
            all_goals
              refine (c40 ⟨#[]⟩ false (ss.drop (i + 1 + 1)) _ _ _ _ (by simp) (by decide) ?_ ?_).mono ?_
              · exact Nat.le_trans (by rw [dat_dropn]; exact Rd.join_drop_le _ _) (unhide Hjl)
              · intro j hj
                have hj' : i + 1 + 1 + j < ss.length := by simp at hj; omega
                refine ⟨g, i + 1 + 1, rfl, ?_⟩
                rw [List.getElem_drop]
                exact unhide Hc _ hj'
              · rintro e w2 ⟨rfl, hbel2⟩
                go_wp2
                go_ret
                refine ⟨ret_str ?_, hbel.trans (hbel2.mono hbel.size)⟩
                rw [unhide Hm, ← unhide Hss', ← unhide Hrel1, unhide Htn, rel_dot_e _ _ (unhide Hdd), if_neg]
                · intro h
                  have h2 := congrArg List.length h
                  rw [dat_length] at h2
                  simp at h2
                  omega
    | false =>
      have hdd : s.data.toList ≠ [46] ∧ s.data.toList ≠ [46, 46] := by
        rw [Lib.toList_data] at hd
        simpa using hd
      have Hdd := hide hdd
      clear hdd
      have h1 : (s.toList == [46]) = false := by simpa using (Bool.or_eq_false_iff.1 hd).1
      have h2 : (s.toList == [46, 46]) = false := by simpa using (Bool.or_eq_false_iff.1 hd).2
      clear hd
      by_cases hla : i + 1 = ss.length
      · have Hla := hide hla
        clear hla
        go_wp2_with fail
        all_goals
          refine (c40 s true (ss.drop (i + 1)) _ _ _ _ (by simp) hsi ?_ ?_).mono ?_
          · exact Nat.le_trans (by rw [dat_dropn]; exact Rd.join_drop_le _ _) (unhide Hjl)
          · intro j hj
            have := unhide Hla
            rw [List.length_drop] at hj
            omega
          · rintro e w2 ⟨rfl, hbel2⟩
            go_wp2
            go_ret
            refine ⟨ret_str ?_, hbel.trans (hbel2.mono hbel.size)⟩
            rw [unhide Hm, ← unhide Hss', ← unhide Hrel, Rd.rel_other _ _ (unhide Hdd).1 (unhide Hdd).2]
      · have hlt1 : i + 1 < ss.length := by omega
        clear hla
        go_wp2_with fail
        all_goals
          refine (c40 s true (ss.drop (i + 1)) _ _ _ _ (by simp) hsi ?_ ?_).mono ?_
          · exact Nat.le_trans (by rw [dat_dropn]; exact Rd.join_drop_le _ _) (unhide Hjl)
          · intro j hj
            have hj' : i + 1 + j < ss.length := by simp at hj; omega
            refine ⟨g, i + 1, rfl, ?_⟩
            rw [List.getElem_drop]
            exact unhide Hc _ hj'
          · rintro e w2 ⟨rfl, hbel2⟩
            go_wp2
            go_ret
            refine ⟨ret_str ?_, hbel.trans (hbel2.mono hbel.size)⟩
            rw [unhide Hm, ← unhide Hss', ← unhide Hrel, Rd.rel_other _ _ (unhide Hdd).1 (unhide Hdd).2]
theorem w25 (p : ByteArray) (w : World) (hs : p.size ≤ 1048576) :
    Calls Try.prog 25 #[.string p] w fun e w' => e = .returned (.string ⟨(Rd.model p.data.toList).toArray⟩) ∧ Below w.heap.size w w' := by
  by_cases hp : 0 < p.size
  · cases h : ((p[0].toNat : Int) == 47) with
    | true => exact w25_abs p w hs hp h
    | false => exact w25_rel p w hs hp h
  · refine w25_nil p w ?_
    rw [Lib.toList_data, List.isEmpty_iff]
    exact List.eq_nil_of_length_eq_zero (by rw [← size_list]; omega)
theorem w23 (s : ByteArray) (w : World) (hs : s.size ≤ 1048576) : Calls Try.prog 23 #[.string s] w fun e w' => e = .returned (.bool true) ∧ w' = w := by
  go_enter Try.func23, Try.ntmps23
  go_wp2
  go_ret
  exact ⟨rfl, rfl⟩
theorem w23n (s : ByteArray) (w : World) (hm : s.size ≤ maxLen) (hs : 1048576 < s.size) : Calls Try.prog 23 #[.string s] w fun e w' => e = .returned (.bool false) ∧ w' = w := by
  unfold maxLen at hm
  go_enter Try.func23, Try.ntmps23
  go_wp2
  go_ret
  exact ⟨rfl, rfl⟩
theorem w8 (p : ByteArray) (w : World) (hm : p.size ≤ maxLen) : Calls Try.prog 8 #[.string p] w fun e w' => e = .returned (.bool true) ∧ Below w.heap.size w w' := by
  by_cases hs : p.size ≤ 1048576
  · have hmod : Rd.rd p.data.toList = Rd.model p.data.toList := Rd.rd_model p.data.toList
    generalize hy : Rd.rd p.data.toList = y at hmod
    have c24 := fun w1 => w24 p w1 hs
    have c25 := fun w1 => w25 p w1 hs
    rw [hy] at c24
    rw [← hmod] at c25
    have C24 := hide c24
    have C25 := hide c25
    clear c24 c25 hy hmod
    go_enter Try.func8, Try.ntmps8
    go_wp2_with (first
      | (go_at_call 23; refine (w23 p _ hs).mono ?_; rintro e w' ⟨rfl, hw'⟩; subst w')
      | (go_at_call 24; refine (unhide C24 _).mono ?_; rintro e w1 ⟨rfl, hbel1⟩)
      | (go_at_call 25; refine (unhide C25 _).mono ?_; rintro e w2 ⟨rfl, hbel2⟩))
    go_ret
    exact ⟨rfl, hbel1.trans (hbel2.mono hbel1.size)⟩
  · go_enter Try.func8, Try.ntmps8
    go_wp2_with (go_at_call 23; refine (w23n p _ hm (by omega)).mono ?_; rintro e w' ⟨rfl, hw'⟩; subst w')
    go_ret
    exact ⟨rfl, Below.refl _ _⟩
end Go.Proofs.Qxb6602061a
