/-
  DERIVED. WALK: zzuSlashMode computes 'Rd.slash'.
-/
import Derived.Test.Qxb6602061aWalk3
namespace Go.Proofs.Qxb6602061a
open Go.RowKit
theorem hide {p : Prop} (h : p) : Hid p := h
theorem unhide {p : Prop} (h : Hid p) : p := h
def dat (ss : List ByteArray) : List Rd.Seg := ss.map (fun s => s.data.toList)
theorem dat_append (a b : List ByteArray) : dat (a ++ b) = dat a ++ dat b := by simp [dat]
theorem dat_length (a : List ByteArray) : (dat a).length = a.length := by simp [dat]
theorem dat_drop (ts : List ByteArray) (k : Nat) (h : k < ts.length) : dat (ts.drop k) = ts[k].data.toList :: dat (ts.drop (k + 1)) := by
  rw [List.drop_eq_getElem_cons h]
  rfl
theorem dat_take_succ (ts : List ByteArray) (k : Nat) (h : k < ts.length) : dat (ts.take (k + 1)) = dat (ts.take k) ++ [ts[k].data.toList] := by
  rw [List.take_succ_eq_append_getElem h, dat_append]
  rfl
theorem sm_dot (t : Rd.Seg) (ts st : List Rd.Seg) (b : Bool) (ht : t = [46]) : Rd.sm (t :: ts) st b = Rd.sm ts (if ts.isEmpty then st ++ [[]] else st) b := by
  subst ht; simp [Rd.sm]
theorem sm_ddot (t : Rd.Seg) (ts st : List Rd.Seg) (b : Bool) (ht : t = [46, 46]) :
    Rd.sm (t :: ts) st b = Rd.sm ts (if ts.isEmpty then (if 0 < st.length then st.dropLast else st) ++ [[]] else (if 0 < st.length then st.dropLast else st)) (if 0 < st.length then b else false) := by
  subst ht; simp [Rd.sm]
theorem sm_other (t : Rd.Seg) (ts st : List Rd.Seg) (b : Bool) (h1 : t ≠ [46]) (h2 : t ≠ [46, 46]) : Rd.sm (t :: ts) st b = Rd.sm ts (st ++ [t]) b := by
  simp [Rd.sm, h1, h2]
theorem Strs.any {w : World} {B : Nat} {v : Value} {l : List ByteArray} (h : Strs w B v l) : ∃ ao cap, v = .slice ao l.length cap := by
  rcases h.shape with ⟨rfl, rfl⟩ | ⟨g, cap, rfl, _⟩
  · exact ⟨none, 0, rfl⟩
  · exact ⟨_, _, rfl⟩
theorem join_snoc_len (a : List Rd.Seg) (t : Rd.Seg) : (Rd.join (a ++ [t])).length = (Rd.join a).length + t.length + 1 := by
  rw [Rd.join_append]
  simp [Rd.join]
  omega
theorem join_cons_len (a : List Rd.Seg) (t : Rd.Seg) : (Rd.join (t :: a)).length = t.length + 1 + (Rd.join a).length := by
  simp [Rd.join]
  omega
theorem empty_seg : (⟨#[]⟩ : ByteArray).data.toList = [] := rfl
set_option maxHeartbeats 4000000 in
theorem w40 (head : ByteArray) (hh : Bool) (ts : List ByteArray) (ao : Option Addr) (cap : Nat) (w : World) (hh0 : head.size ≤ 1048576) (hts : (Rd.join (dat ts)).length ≤ 2097152)
    (hcell : ∀ j (hj : j < ts.length), ∃ g off, ao = some ⟨g, off, none⟩ ∧ w.cell? ⟨g, off + j, none⟩ = some (.string ts[j])) :
    Calls Try.prog 40 #[.string head, .bool hh, .slice ao ts.length cap] w fun e w' => e = .returned (.string ⟨(Rd.slash head.data.toList hh (dat ts)).toArray⟩) ∧ Below w.heap.size w w' := by
  have hnl : ts.length ≤ 2097152 := by have := Rd.join_length_ge (dat ts); rw [dat_length] at this; omega
  go_enter Try.func40, Try.ntmps40
  go_wp2
  go_loopw [1, 7, 8] (fun b v j wr => ∃ (k : Nat) (st : List ByteArray) (bb : Bool), k ≤ ts.length ∧ j = .int .i64 k ∧ b = .bool bb ∧ Strs wr w.heap.size v st ∧ Below w.heap.size w wr ∧
      (Rd.join (dat st)).length + (Rd.join (dat (ts.drop k))).length ≤ (Rd.join (dat ts)).length ∧ Rd.sm (dat (ts.drop k)) (dat st) bb = Rd.sm (dat ts) [] hh) (fun _ _ j _ => ts.length - (intOf j).toNat)
  case atStart => exact ⟨0, [], hh, by omega, rfl, rfl, Strs.nil _ _, Below.refl _ _, by simp [dat, Rd.join], rfl⟩
  case round =>
    obtain ⟨k, st, bb, hk, rfl, rfl, hown, hbel, hjl, hsm⟩ := hrel
    have hsz := hbel.size
    have hstl : st.length ≤ 2097152 := by have := Rd.join_length_ge (dat st); rw [dat_length] at this; omega
    by_cases hlt : k < ts.length
    · obtain ⟨g, off, rfl, hc0⟩ := hcell k hlt
      have hc : wr.cell? ⟨g, off + k, none⟩ = some (.string ts[k]) := by
        rw [hbel.cell (World.block_lt_of_cell? w _ hc0)]
        exact hc0
      rw [dat_drop ts k hlt, join_cons_len] at hjl
      rw [dat_drop ts k hlt] at hsm
      have he : (dat (ts.drop (k + 1))).isEmpty = decide (k + 1 = ts.length) := by
        rw [Bool.eq_iff_iff]
        simp [dat, List.isEmpty_iff]
        omega
      generalize ts[k] = t at hc hsm hjl
      have Hsm := hide hsm
      have Hjl := hide hjl
      have He := hide he
      clear hsm hjl he hc0 hcell hts
      cases h1 : (t.toList == [46]) with
      | true =>
        have ht : t.data.toList = [46] := by rw [Lib.toList_data] at h1; exact beq_iff_eq.1 h1
        have Ht := hide ht
        clear ht
        by_cases hla : k + 1 = ts.length
        · have hl : ((k : Int) == (ts.length : Int) - 1) = true := beq_iff_eq.2 (by omega)
          have Hla := hide hla
          clear hla
          go_wp2_with (at_builtin; refine law_app_elt wr w _ rfl _ _ rfl w.heap.size _ st rfl hown rfl ?_ hsz hbel ?_; omega; intro v' w2 hown2 hnn2 hbel2)
          go_roundw
          case rel =>
            refine ⟨k + 1, st ++ [⟨#[]⟩], bb, by omega, by go_num, rfl, hown2, hbel2, ?_, ?_⟩
            · have := unhide Hjl
              rw [unhide Ht] at this
              rw [dat_append]
              show (Rd.join (dat st ++ [[]])).length + _ ≤ _
              rw [join_snoc_len]
              simp at this ⊢
              omega
            · rw [← unhide Hsm, sm_dot _ _ _ _ (unhide Ht), unhide He, if_pos (by simpa using unhide Hla), dat_append]
              rfl
          case measure => simp [intOf]; omega
        · have hl : ((k : Int) == (ts.length : Int) - 1) = false := beq_eq_false_iff_ne.2 (by omega)
          have Hla := hide hla
          clear hla
          go_wp2
          go_roundw
          case rel =>
            refine ⟨k + 1, st, bb, by omega, by go_num, rfl, hown, hbel, ?_, ?_⟩
            · have := unhide Hjl
              omega
            · rw [← unhide Hsm, sm_dot _ _ _ _ (unhide Ht), unhide He, if_neg (by simpa using unhide Hla)]
          case measure => simp [intOf]; omega
      | false =>
      have Ht1 : Hid (t.data.toList ≠ [46]) := by rw [Lib.toList_data] at h1; exact beq_eq_false_iff_ne.1 h1
      cases h2 : (t.toList == [46, 46]) with
      | true =>
        have ht : t.data.toList = [46, 46] := by rw [Lib.toList_data] at h2; exact beq_iff_eq.1 h2
        have Ht := hide ht
        clear ht
        rcases Nat.eq_zero_or_pos st.length with hst0 | hstp
        · have hse : st = [] := List.eq_nil_of_length_eq_zero hst0
          subst hse
          obtain ⟨ao', cap', rfl⟩ := hown.any
          simp only [List.length_nil] at hown
          by_cases hla : k + 1 = ts.length
          · have hl : ((k : Int) == (ts.length : Int) - 1) = true := beq_iff_eq.2 (by omega)
            have Hla := hide hla
            clear hla hst0
            go_wp2_with (at_builtin; refine law_app_elt wr w _ rfl _ _ rfl w.heap.size _ [] rfl hown rfl ?_ hsz hbel ?_; decide; intro v' w2 hown2 hnn2 hbel2)
            go_roundw
            case rel =>
              refine ⟨k + 1, [⟨#[]⟩], false, by omega, by go_num, rfl, hown2, hbel2, ?_, ?_⟩
              · have := unhide Hjl
                rw [unhide Ht] at this
                show (Rd.join [[]]).length + _ ≤ _
                simp [Rd.join, dat] at this ⊢
                omega
              · rw [← unhide Hsm, sm_ddot _ _ _ _ (unhide Ht), unhide He, if_pos (by simpa using unhide Hla)]
                rfl
            case measure => simp [intOf]; omega
          · have hl : ((k : Int) == (ts.length : Int) - 1) = false := beq_eq_false_iff_ne.2 (by omega)
            have Hla := hide hla
            clear hla hst0
            go_wp2
            go_roundw
            case rel =>
              refine ⟨k + 1, [], false, by omega, by go_num, rfl, hown, hbel, ?_, ?_⟩
              · have := unhide Hjl
                omega
              · rw [← unhide Hsm, sm_ddot _ _ _ _ (unhide Ht), unhide He, if_neg (by simpa using unhide Hla)]
                rfl
            case measure => simp [intOf]; omega
        · obtain ⟨m, hm⟩ : ∃ m, st.length = m + 1 := ⟨st.length - 1, by omega⟩
          rcases hown.shape with ⟨_, hse⟩ | ⟨g', cap', rfl, _, hcap', _, _, _⟩
          · rw [hse] at hm; simp at hm
          have hcut := hown.cut m (by omega)
          have hdl : dat (st.take m) = (dat st).dropLast := by
            rw [List.dropLast_eq_take, dat_length, hm]
            simp [dat, List.map_take]
          have hml : (st.take m).length = m := by simp; omega
          have Hst : Hid (0 < (dat st).length) := by rw [dat_length]; exact hstp
          have hmb : m ≤ 2097152 := by omega
          rw [hm] at hcap'
          have hml0 : (Rd.join (dat (st.take m))).length ≤ (Rd.join (dat st)).length := by rw [hdl]; exact Rd.join_dropLast_le _
          have Hml0 := hide hml0
          have Hdl := hide hdl
          have Hml := hide hml
          clear hml0 hdl hml hstp hown
          rw [hm]
          clear hm hstl
          by_cases hla : k + 1 = ts.length
          · have hl : ((k : Int) == (ts.length : Int) - 1) = true := beq_iff_eq.2 (by omega)
            have Hla := hide hla
            clear hla
            go_wp2_with (at_builtin; refine law_app_elt wr w _ rfl _ _ rfl w.heap.size _ (st.take m) rfl hcut rfl ?_ hsz hbel ?_; (rw [unhide Hml]; omega); intro v' w2 hown2 hnn2 hbel2)
            go_roundw
            case rel =>
              refine ⟨k + 1, st.take m ++ [⟨#[]⟩], bb, by omega, by go_num, rfl, hown2, hbel2, ?_, ?_⟩
              · have := unhide Hjl
                have h5 := unhide Hml0
                rw [unhide Ht] at this
                rw [dat_append]
                show (Rd.join (dat (st.take m) ++ [[]])).length + _ ≤ _
                rw [join_snoc_len]
                simp at this h5 ⊢
                omega
              · rw [← unhide Hsm, sm_ddot _ _ _ _ (unhide Ht), unhide He, if_pos (by simpa using unhide Hla), if_pos (unhide Hst), if_pos (unhide Hst), dat_append, unhide Hdl]
                rfl
            case measure => simp [intOf]; omega
          · have hl : ((k : Int) == (ts.length : Int) - 1) = false := beq_eq_false_iff_ne.2 (by omega)
            have Hla := hide hla
            clear hla
            go_wp2
            go_roundw
            case rel =>
              refine ⟨k + 1, st.take m, bb, by omega, by go_num, rfl, hcut, hbel, ?_, ?_⟩
              · have := unhide Hjl
                have h5 := unhide Hml0
                omega
              · rw [← unhide Hsm, sm_ddot _ _ _ _ (unhide Ht), unhide He, if_neg (by simpa using unhide Hla), if_pos (unhide Hst), if_pos (unhide Hst), unhide Hdl]
            case measure => simp [intOf]; omega
      | false =>
        have Ht2 : Hid (t.data.toList ≠ [46, 46]) := by rw [Lib.toList_data] at h2; exact beq_eq_false_iff_ne.1 h2
        cases hl : ((k : Int) == (ts.length : Int) - 1)
        all_goals
          go_wp2_with (at_builtin; refine law_app_elt wr w _ rfl _ _ rfl w.heap.size _ st rfl hown rfl ?_ hsz hbel ?_; omega; intro v' w2 hown2 hnn2 hbel2)
          go_roundw
          case rel =>
            refine ⟨k + 1, st ++ [t], bb, by omega, by go_num, rfl, hown2, hbel2, ?_, ?_⟩
            · have := unhide Hjl
              rw [dat_append]
              show (Rd.join (dat st ++ [t.data.toList])).length + _ ≤ _
              rw [join_snoc_len]
              omega
            · rw [← unhide Hsm, sm_other _ _ _ _ (unhide Ht1) (unhide Ht2), dat_append]
              rfl
          case measure => simp [intOf]; omega
    · have hke : k = ts.length := by omega
      have hge : ts.length ≤ k := by omega
      have hsm' : Rd.sm (dat ts) [] hh = (dat st, bb) := by
        rw [← hsm, List.drop_of_length_le hge]
        rfl
      have hsl : Rd.slash head.data.toList hh (dat ts) = (if bb then head.data.toList else []) ++ Rd.join (dat st) := by
        unfold Rd.slash
        rw [hsm']
        rfl
      have hjs : (Rd.join (dat st)).length ≤ 2097152 := by omega
      have Hsl := hide hsl
      have Hjs := hide hjs
      clear hsl hsm hsm' hjl hke hjs hcell hlt
      obtain ⟨gs, hgs⟩ : ∃ gs : Nat, ∀ j (hj : j < st.length), ∃ cap', u7 = .slice (some ⟨gs, 0, none⟩) st.length cap' ∧ gs < wr.heap.size ∧ wr.cell? ⟨gs, j, none⟩ = some (.string st[j]) := by
        rcases hown.shape with ⟨_, rfl⟩ | ⟨g, c, rfl, _, _, _, hg, hc⟩
        · exact ⟨0, fun j hj => by simp at hj⟩
        · exact ⟨g, fun j hj => ⟨c, rfl, hg, hc j hj⟩⟩
      obtain ⟨ao', cap', rfl⟩ := hown.any
      clear hown
      obtain ⟨wo, hwo⟩ : ∃ wo, wo = wr := ⟨_, rfl⟩
      subst hwo
      have hb0 : Bts wo wo.heap.size (.slice none 0 0) [] := Bts.nil _ _
      have hr0 := Below.refl wo.heap.size wo
      have hdec : decide (k < ts.length) = false := by simp; omega
      obtain ⟨hd, hhd, hdl⟩ : ∃ hd : List UInt8, hd = (if bb then head.data.toList else []) ∧ hd.length ≤ 1048576 := ⟨_, rfl, by split <;> simp; omega⟩
      have Hhd := hide hhd
      clear hhd
      cases bb
      all_goals
        go_wp2_with (at_builtin; refine law_app_str wo wo rfl _ _ rfl wo.heap.size _ [] rfl hb0 _ rfl ?_ (Nat.le_refl _) hr0 ?_; (simp; omega); intro v' w2 hown2 hnn2 hbel2)
        go_loopw [11, 12] (fun v j wx => ∃ (q : Nat), q ≤ st.length ∧ j = .int .i64 q ∧ Bts wx wo.heap.size v (hd ++ Rd.join (dat (st.take q))) ∧ Below wo.heap.size wo wx) (fun _ j _ => st.length - (intOf j).toNat)
        case atStart =>
          have hh3 := unhide Hhd
          subst hh3
          first
            | exact ⟨0, Nat.zero_le _, rfl, hb0, hr0⟩
            | exact ⟨0, Nat.zero_le _, rfl, by simpa [dat, Rd.join] using hown2, hbel2⟩
        case round =>
          obtain ⟨q, hq, rfl, hownx, hbelx⟩ := hrel
          have hszx := hbelx.size
          have hjt : (Rd.join (dat (st.take q))).length ≤ 2097152 := by
            have h1 := Rd.join_take_le (dat st) q
            have h2 := unhide Hjs
            have h3 : dat (st.take q) = (dat st).take q := by simp [dat, List.map_take]
            rw [h3]
            omega
          by_cases hql : q < st.length
          · obtain ⟨c2, hv2, hg2, hc2⟩ := hgs q hql
            simp only [Value.slice.injEq, true_and] at hv2
            obtain ⟨rfl, rfl⟩ := hv2
            have hsl2 : st[q].size + (Rd.join (dat (st.take q))).length ≤ 2097152 := by
              have h1 := Rd.join_take_le (dat st) (q + 1)
              have h2 := unhide Hjs
              have h3 : dat (st.take (q + 1)) = (dat st).take (q + 1) := by simp [dat, List.map_take]
              have h4 := dat_take_succ st q hql
              rw [← h3, h4, join_snoc_len, ← size_list] at h1
              omega
            have hnext : hd ++ Rd.join (dat (st.take (q + 1))) = (hd ++ Rd.join (dat (st.take q)) ++ [47]) ++ st[q].data.toList := by
              rw [dat_take_succ st q hql, Rd.join_append]
              simp [Rd.join]
            have Hnext := hide hnext
            clear hnext
            generalize hsq : st[q] = sq at hc2 hsl2 Hnext
            have Hsq := hide hsq
            clear hsq
            have hcx : ∀ wz, Below wo.heap.size wo wz → wz.cell? ⟨gs, q, none⟩ = some (.string sq) := fun wz hz => by rw [hz.cell (by exact hg2)]; exact hc2
            have Hcx := hide hcx
            clear hcx hc2
            go_wp2_with (first | (at_builtin; refine law_app_one wr wo _ rfl _ _ rfl wo.heap.size _ _ rfl hownx 47 rfl rfl ?_ hszx hbelx ?_; (simp; omega); intro v3 w3 hown3 hnn3 hbel3; have hc3 := unhide Hcx w3 hbel3; have hsz3 := hbel3.size) | (at_builtin; refine law_app_str w3 wo rfl _ _ rfl wo.heap.size _ _ rfl hown3 _ rfl ?_ hsz3 hbel3 ?_; (simp; omega); intro v4 w4 hown4 hnn4 hbel4))
            go_roundw
            case rel =>
              refine ⟨q + 1, by omega, by go_num, ?_, hbel4⟩
              rw [unhide Hnext]
              exact hown4
            case measure => simp [intOf]; omega
          · have hgeq : st.length ≤ q := by omega
            have hcv := conv_bts hownx
            clear hql
            go_wp2
            go_ret
            refine ⟨ret_str ?_, hbel.trans (hbelx.mono hsz)⟩
            rw [unhide Hsl, ← unhide Hhd, List.take_of_length_le hgeq]
end Go.Proofs.Qxb6602061a
