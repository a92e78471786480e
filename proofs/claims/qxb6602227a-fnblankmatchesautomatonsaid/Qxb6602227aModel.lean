/-
  DERIVED. WALK: spliceModel computes 'sp'.
-/
import Derived.Test.Qxb6602227aPlain
import Derived.Deep.QuietTactic
import Derived.BigQuiet
import Derived.WalkSmall
import Derived.WalkMore
namespace Go.Proofs.Qxb6602227a
open Go.RowKit
theorem hide {p : Prop} (h : p) : Hid p := h
theorem unhide {p : Prop} (h : Hid p) : p := h
theorem size_list (s : ByteArray) : s.size = s.data.toList.length := by simp
theorem getElem_l (p : ByteArray) (k : Nat) (h : k < p.size) : p.data.toList[k]? = some p[k] := by
  rw [Array.getElem?_toList]
  exact Array.getElem?_eq_getElem h
theorem ba_drop (s : ByteArray) (k : Nat) (h : k < s.size) : s.data.toList.drop k = s[k] :: s.data.toList.drop (k + 1) := by
  have hl : k < s.data.toList.length := by rw [← size_list]; exact h
  rw [List.drop_eq_getElem_cons hl]
  congr 1
theorem byte_ne (c : UInt8) (k : Nat) (hk : k < 256) (h : c ≠ UInt8.ofNat k) : ((((c.toNat : Nat) : Int) == (k : Int)) = false) := by
  rw [beq_eq_false_iff_ne]
  intro e
  apply h
  apply UInt8.toNat_inj.1
  rw [UInt8.toNat_ofNat_of_lt' (by simpa using hk)]
  omega
theorem byte_is (c : UInt8) (k : Nat) (hk : k < 256) (h : c = UInt8.ofNat k) : ((((c.toNat : Nat) : Int) == (k : Int)) = true) := by
  subst h
  rw [UInt8.toNat_ofNat_of_lt' (by simpa using hk)]
  simp
theorem w21 (c : UInt8) (w : World) : Calls Try.prog 21 #[.int .u8 c.toNat] w fun e w' => e = .returned (.bool (ws c)) ∧ w' = w := by
  by_cases hm : c ∈ [32, 9, 12, 11, 13]
  · simp only [List.mem_cons, List.not_mem_nil, or_false] at hm
    rcases hm with rfl | rfl | rfl | rfl | rfl
    all_goals
      go_enter Try.func21, Try.ntmps21
      go_wp2
      go_ret
      exact ⟨by rfl, rfl⟩
  · have hc : ws c = false := by unfold ws; simpa using hm
    rw [hc]
    simp only [List.mem_cons, List.not_mem_nil, or_false, not_or] at hm
    obtain ⟨n1, n2, n3, n4, n5⟩ := hm
    have m1 := byte_ne c 32 (by omega) n1
    have m2 := byte_ne c 9 (by omega) n2
    have m3 := byte_ne c 12 (by omega) n3
    have m4 := byte_ne c 11 (by omega) n4
    have m5 := byte_ne c 13 (by omega) n5
    simp only [Int.cast_ofNat_Int] at m1 m2 m3 m4 m5
    clear n1 n2 n3 n4 n5 hc
    go_enter Try.func21, Try.ntmps21
    go_wp2
    go_ret
    exact ⟨by rfl, rfl⟩
set_option maxRecDepth 100000 in
set_option maxHeartbeats 4000000 in
theorem w16 (p : ByteArray) (w : World) (hs : p.size ≤ 1048576) : Calls Try.prog 16 #[.string p] w fun e w' => e = .returned (.string ⟨(sp p.data.toList).toArray⟩) ∧ Below w.heap.size w w' := by
  go_enter Try.func16, Try.ntmps16
  go_wp2_with (at_make; refine law_make _ w rfl _ _ rfl w.heap.size _ p.size rfl rfl rfl ?_ (Nat.le_refl _) (Below.refl _ _) ?_; omega; intro w1 hown hbel)
  go_loopw [3, 4] (fun v i wr => ∃ (k : Nat) (o : List UInt8), k ≤ p.size ∧ o.length ≤ k ∧ i = .int .i64 k ∧ sp p.data.toList = o ++ sp (p.data.toList.drop k) ∧ Bts wr w.heap.size v o ∧ Below w.heap.size w wr) (fun _ i _ => p.size - (intOf i).toNat)
  case atStart => exact ⟨0, [], Nat.zero_le _, Nat.zero_le _, rfl, rfl, hown, hbel⟩
  case round =>
    clear hown hbel
    obtain ⟨k, o, hk, hok, rfl, hsp, hown, hbel⟩ := hrel
    have hszr := hbel.size
    have HSP := hide hsp
    clear hsp
    by_cases hlt : k < p.size
    · have hI0 : (0 : Int) ≤ (k : Int) := by omega
      have hI1 : (k : Int) < (p.size : Int) := by omega
      have hd := ba_drop p k hlt
      have HD := hide hd
      clear hd
      by_cases h92 : p[k] = 92
      · have m92 := byte_is _ 92 (by omega) h92
        simp only [Int.cast_ofNat_Int] at m92
        have HPK : Hid ((92 : Int) = (p[k].toNat : Int)) := by show _ = _; rw [h92]; rfl
        go_wp2
        go_loopw [6] (fun v wr' => ∃ j : Nat, k + 1 ≤ j ∧ j ≤ p.size ∧ v = .int .i64 j ∧ (p.data.toList.drop (k + 1)).dropWhile ws = (p.data.toList.drop j).dropWhile ws ∧ wr' = wr) (fun v _ => p.size - (intOf v).toNat)
        case atStart => exact ⟨k + 1, by omega, by omega, by go_num, rfl, rfl⟩
        case round =>
          obtain ⟨j, hj0, hj, rfl, hdw, hw⟩ := hrel
          subst hw
          have HDW := hide hdw
          clear hdw
          by_cases hjl : j < p.size
          · have hJ0 : (0 : Int) ≤ (j : Int) := by omega
            have hJ1 : (j : Int) < (p.size : Int) := by omega
            have hjd : decide ((j : Int) < (p.size : Int)) = true := by simp; omega
            have hjd' : decide (j < p.size) = true := by simp; omega
            have hdj := ba_drop p j hjl
            obtain ⟨b, hb⟩ : ∃ b, ws p[j] = b := ⟨_, rfl⟩
            have h21 := w21 p[j]
            rw [hb] at h21
            have H21 := hide h21
            clear h21
            cases b with
            | true =>
              have hnx : (p.data.toList.drop (k + 1)).dropWhile ws = (p.data.toList.drop (j + 1)).dropWhile ws := by
                rw [unhide HDW, hdj, List.dropWhile_cons, if_pos hb]
              have HNX := hide hnx
              clear hnx hdj hb
              go_wp2_with (go_at_call 21; refine (unhide H21 _).mono ?_; rintro e w' ⟨rfl, hw'⟩; subst w')
              go_roundw
              case rel => exact ⟨j + 1, by omega, by omega, by go_num, unhide HNX, by first | rfl | trivial⟩
              case measure => simp [intOf]; omega
            | false =>
              have hdn : (p.data.toList.drop j).dropWhile ws = p[j] :: p.data.toList.drop (j + 1) := by
                rw [hdj, List.dropWhile_cons, if_neg (by rw [hb]; decide)]
              have HDN := hide hdn
              clear hdn hdj hb
              by_cases h10 : p[j] = 10
              · have m10 := byte_is _ 10 (by omega) h10
                simp only [Int.cast_ofNat_Int] at m10
                have hnx : sp p.data.toList = o ++ sp (p.data.toList.drop (j + 1)) := by
                  rw [unhide HSP, unhide HD, sp_cons, if_pos ⟨h92, by rw [unhide HDW, unhide HDN, h10]; rfl⟩, unhide HDW, unhide HDN]
                  rfl
                have HNX := hide hnx
                clear hnx h10
                go_wp2_with (go_at_call 21; refine (unhide H21 _).mono ?_; rintro e w' ⟨rfl, hw'⟩; subst w')
                go_roundw
                case rel => exact ⟨j + 1, o, by omega, by omega, by go_num, unhide HNX, hown, hbel⟩
                case measure => simp [intOf]; omega
              · have m10 := byte_ne _ 10 (by omega) h10
                simp only [Int.cast_ofNat_Int] at m10
                have H10 := hide h10
                clear h10
                have hnx : sp p.data.toList = o ++ [p[k]] ++ sp (p.data.toList.drop (k + 1)) := by
                  rw [unhide HSP, unhide HD, sp_cons, if_neg]
                  · simp
                  · rintro ⟨_, h⟩
                    rw [unhide HDW] at h
                    exact absurd h (by rw [unhide HDN]; simpa using unhide H10)
                have HNX := hide hnx
                clear hnx
                go_wp2_with (first
                  | (go_at_call 21; refine (unhide H21 _).mono ?_; rintro e w' ⟨rfl, hw'⟩; subst w')
                  | (at_builtin; refine law_app_one wr w _ rfl _ _ rfl w.heap.size _ _ rfl hown p[k] (unhide HPK) rfl ?_ hszr hbel ?_; omega; intro v' w2 hown2 hnn2 hbel2))
                go_roundw
                case rel => exact ⟨k + 1, o ++ [p[k]], by omega, by simp; omega, by go_num, unhide HNX, hown2, hbel2⟩
                case measure => simp [intOf]; omega
          · have hge : p.size ≤ j := by omega
            have hjd : decide ((j : Int) < (p.size : Int)) = false := by simp; omega
            have hjd' : decide (j < p.size) = false := by simp; omega
            have hdn : (p.data.toList.drop j).dropWhile ws = [] := by
              rw [List.drop_of_length_le (by rw [← size_list]; omega)]
              rfl
            have HDN := hide hdn
            clear hdn hjl
            have hnx : sp p.data.toList = o ++ [p[k]] ++ sp (p.data.toList.drop (k + 1)) := by
              rw [unhide HSP, unhide HD, sp_cons, if_neg]
              · simp
              · rintro ⟨_, h⟩
                rw [unhide HDW] at h
                exact absurd h (by rw [unhide HDN]; simp)
            have HNX := hide hnx
            clear hnx
            go_wp2_with (first
              | (at_builtin; refine law_app_one wr w _ rfl _ _ rfl w.heap.size _ _ rfl hown p[k] (unhide HPK) rfl ?_ hszr hbel ?_; omega; intro v' w2 hown2 hnn2 hbel2))
            go_roundw
            case rel => exact ⟨k + 1, o ++ [p[k]], by omega, by simp; omega, by go_num, unhide HNX, hown2, hbel2⟩
            case measure => simp [intOf]; omega
      · have m92 := byte_ne _ 92 (by omega) h92
        simp only [Int.cast_ofNat_Int] at m92
        have hnx : sp p.data.toList = o ++ [p[k]] ++ sp (p.data.toList.drop (k + 1)) := by
          rw [unhide HSP, unhide HD, sp_cons, if_neg (fun h => h92 h.1)]
          simp
        have HNX := hide hnx
        clear hnx h92
        go_wp2_with (at_builtin; refine law_app_one wr w _ rfl _ _ rfl w.heap.size _ _ rfl hown p[k] rfl rfl ?_ hszr hbel ?_; omega; intro v' w2 hown2 hnn2 hbel2)
        go_roundw
        case rel => exact ⟨k + 1, o ++ [p[k]], by omega, by simp; omega, by go_num, unhide HNX, hown2, hbel2⟩
        case measure => simp [intOf]; omega
    · have hge : p.size ≤ k := by omega
      have hdI : decide ((k : Int) < (p.size : Int)) = false := by simp; omega
      have hdN : decide (k < p.size) = false := by simp; omega
      have hfin : sp p.data.toList = o := by
        rw [unhide HSP, List.drop_of_length_le (by rw [← size_list]; omega), sp_nil, List.append_nil]
      have HF := hide hfin
      have hcv := conv_bts hown
      clear hfin hlt
      go_wp2
      go_ret
      exact ⟨by rw [unhide HF]; rfl, hbel⟩
end Go.Proofs.Qxb6602227a
