/-
  DERIVED. WALK: the scan model's parts.
-/
import Derived.Test.Qxb6602100aPlain
import Derived.BigQuiet
namespace Go.Proofs.Qxb6602100a
open Go.RowKit
def subL : List UInt8 := [33, 36, 38, 39, 40, 41, 42, 43, 44, 59, 61]
def resL : List UInt8 := [58, 47, 63, 35, 91, 93, 64, 33, 36, 38, 39, 40, 41, 42, 43, 44, 59, 61]
theorem byte_ne (c : UInt8) (k : Nat) (hk : k < 256) (h : c ≠ UInt8.ofNat k) : ((((c.toNat : Nat) : Int) == (k : Int)) = false) := by
  rw [beq_eq_false_iff_ne]
  intro e
  apply h
  apply UInt8.toNat_inj.1
  rw [UInt8.toNat_ofNat_of_lt' (by simpa using hk)]
  omega
theorem w31 (c : UInt8) (w : World) : Calls Try.prog 31 #[.int .u8 c.toNat] w fun e w' => e = .returned (.bool (subL.contains c)) ∧ w' = w := by
  by_cases hm : c ∈ subL
  · simp only [subL, List.mem_cons, List.not_mem_nil, or_false] at hm
    rcases hm with rfl | rfl | rfl | rfl | rfl | rfl | rfl | rfl | rfl | rfl | rfl
    all_goals
      go_enter Try.func31, Try.ntmps31
      go_wp2
      go_ret
      exact ⟨by rfl, rfl⟩
  · have hc : subL.contains c = false := by simpa using hm
    rw [hc]
    simp only [subL, List.mem_cons, List.not_mem_nil, or_false, not_or] at hm
    obtain ⟨n1, n2, n3, n4, n5, n6, n7, n8, n9, n10, n11⟩ := hm
    have m1 := byte_ne c 33 (by omega) n1
    have m2 := byte_ne c 36 (by omega) n2
    have m3 := byte_ne c 38 (by omega) n3
    have m4 := byte_ne c 39 (by omega) n4
    have m5 := byte_ne c 40 (by omega) n5
    have m6 := byte_ne c 41 (by omega) n6
    have m7 := byte_ne c 42 (by omega) n7
    have m8 := byte_ne c 43 (by omega) n8
    have m9 := byte_ne c 44 (by omega) n9
    have m10 := byte_ne c 59 (by omega) n10
    have m11 := byte_ne c 61 (by omega) n11
    simp only [Int.cast_ofNat_Int] at m1 m2 m3 m4 m5 m6 m7 m8 m9 m10 m11
    clear n1 n2 n3 n4 n5 n6 n7 n8 n9 n10 n11
    go_enter Try.func31, Try.ntmps31
    go_wp2
    go_ret
    exact ⟨by rfl, rfl⟩
theorem w19 (c : UInt8) (w : World) : Calls Try.prog 19 #[.int .u8 c.toNat] w fun e w' => e = .returned (.bool (resL.contains c)) ∧ w' = w := by
  by_cases hm : c ∈ [58, 47, 63, 35, 91, 93, 64]
  · simp only [List.mem_cons, List.not_mem_nil, or_false] at hm
    rcases hm with rfl | rfl | rfl | rfl | rfl | rfl | rfl
    all_goals
      go_enter Try.func19, Try.ntmps19
      go_wp2
      go_ret
      exact ⟨by rfl, rfl⟩
  · simp only [List.mem_cons, List.not_mem_nil, or_false, not_or] at hm
    obtain ⟨n1, n2, n3, n4, n5, n6, n7⟩ := hm
    have hc : resL.contains c = subL.contains c := by
      rw [Bool.eq_iff_iff, List.contains_iff_mem, List.contains_iff_mem]
      simp only [resL, subL, List.mem_cons, List.not_mem_nil, or_false, n1, n2, n3, n4, n5, n6, n7, false_or]
    rw [hc]
    obtain ⟨b, hb⟩ : ∃ b, subL.contains c = b := ⟨_, rfl⟩
    have w31' := w31 c
    rw [hb] at w31' ⊢
    clear hb hc
    have W31 := hide w31'
    clear w31'
    have m1 := byte_ne c 58 (by omega) n1
    have m2 := byte_ne c 47 (by omega) n2
    have m3 := byte_ne c 63 (by omega) n3
    have m4 := byte_ne c 35 (by omega) n4
    have m5 := byte_ne c 91 (by omega) n5
    have m6 := byte_ne c 93 (by omega) n6
    have m7 := byte_ne c 64 (by omega) n7
    simp only [Int.cast_ofNat_Int] at m1 m2 m3 m4 m5 m6 m7
    clear n1 n2 n3 n4 n5 n6 n7
    go_enter Try.func19, Try.ntmps19
    go_wp2_with (go_at_call 31; refine (unhide W31 _).mono ?_; rintro e w' ⟨rfl, hw'⟩; subst w')
    go_ret
    exact ⟨by rfl, rfl⟩
theorem ba_drop (s : ByteArray) (k : Nat) (h : k < s.size) : s.data.toList.drop k = s[k] :: s.data.toList.drop (k + 1) := by
  have hl : k < s.data.toList.length := by rw [← size_list]; exact h
  rw [List.drop_eq_getElem_cons hl]
  congr 1
set_option maxHeartbeats 1000000 in
theorem w30 (s p : ByteArray) (i : Nat) (w : World) (hs : s.size ≤ 1048576) (hp : p.size ≤ 1048576) (hi : i ≤ s.size) (b : Bool) (hb : p.data.toList.isPrefixOf (s.data.toList.drop i) = b) :
    Calls Try.prog 30 #[.string s, .int .i64 i, .string p] w fun e w' => e = .returned (.bool b) ∧ ∃ n, w' = w.drewN n := by
  have HB := hide hb
  clear hb
  have d1 : decide ((i : Int) < 0) = false := by simp
  have d2 : decide ((s.size : Int) < (i : Int)) = false := by simp; omega
  by_cases hl : s.size - i < p.size
  · have d3 : decide ((s.size : Int) - (i : Int) < (p.size : Int)) = true := by simp; omega
    have hbf : b = false := by
      rw [← unhide HB, Bool.eq_false_iff]
      intro h
      have := (List.isPrefixOf_iff_prefix.1 h).length_le
      rw [List.length_drop, ← size_list, ← size_list] at this
      omega
    subst hbf
    clear HB
    go_enter Try.func30, Try.ntmps30
    go_wp2
    go_ret
    exact ⟨rfl, 0, rfl⟩
  · have d3 : decide ((s.size : Int) - (i : Int) < (p.size : Int)) = false := by simp; omega
    go_enter Try.func30, Try.ntmps30
    go_wp2
    go_loopw [7] (fun v wr => ∃ k : Nat, k ≤ p.size ∧ v = .int .i64 k ∧ (p.data.toList.drop k).isPrefixOf (s.data.toList.drop (i + k)) = b ∧ ∃ n, wr = w.drewN n) (fun v _ => p.size - (intOf v).toNat)
    case atStart => exact ⟨0, Nat.zero_le _, rfl, unhide HB, 0, rfl⟩
    case round =>
      obtain ⟨k, hk, rfl, hpre, hnd⟩ := hrel
      have HP := hide hpre
      have HND := hide hnd
      clear hpre hnd
      by_cases hlt : k < p.size
      · have hik : i + k < s.size := by omega
        have hI0 : (0 : Int) ≤ (k : Int) := by omega
        have hI1 : (k : Int) < (p.size : Int) := by omega
        have hI2 : (0 : Int) ≤ (i : Int) + (k : Int) := by omega
        have hI3 : (i : Int) + (k : Int) < (s.size : Int) := by omega
        by_cases he : s[i + k] = p[k]
        · have hEI : (((s[i + k].toNat : Nat) : Int) != ((p[k].toNat : Nat) : Int)) = false := by rw [he]; simp
          have hpre2 : (p.data.toList.drop (k + 1)).isPrefixOf (s.data.toList.drop (i + (k + 1))) = b := by
            have := unhide HP
            rw [ba_drop p k hlt, ba_drop s (i + k) hik, he] at this
            simp only [List.isPrefixOf, beq_self_eq_true, Bool.true_and] at this
            exact this
          have HP2 := hide hpre2
          clear hpre2 he
          go_wp2
          go_quiet (fail)
          go_wp2
          go_roundw
          case rel =>
            obtain ⟨nd, hnd⟩ := unhide HND
            exact ⟨k + 1, by omega, by go_num, unhide HP2, nd + nq, by rw [hnd]; simp⟩
          case measure => simp [intOf]; omega
        · have hEI : (((s[i + k].toNat : Nat) : Int) != ((p[k].toNat : Nat) : Int)) = true := by
            rw [bne_iff_ne]
            intro e
            exact he (UInt8.toNat_inj.1 (by omega))
          have hbf : b = false := by
            have := unhide HP
            rw [ba_drop p k hlt, ba_drop s (i + k) hik] at this
            rw [← this, Bool.eq_false_iff]
            intro h
            simp only [List.isPrefixOf, Bool.and_eq_true, beq_iff_eq] at h
            exact he h.1.symm
          subst hbf
          clear he HP HB
          go_wp2
          go_quiet (fail)
          go_wp2
          go_ret
          obtain ⟨nd, hnd⟩ := unhide HND
          exact ⟨rfl, nd + nq, by rw [hnd]; simp⟩
      · have hge : p.size ≤ k := by omega
        have hbt : b = true := by
          have := unhide HP
          rw [List.drop_of_length_le (by rw [← size_list]; exact hge)] at this
          rw [← this]
          rfl
        subst hbt
        clear hlt HP HB
        go_wp2
        go_ret
        exact ⟨rfl, unhide HND⟩
end Go.Proofs.Qxb6602100a
