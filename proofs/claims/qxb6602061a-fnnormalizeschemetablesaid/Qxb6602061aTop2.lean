/-
  DERIVED. WALK: FnNormalizeSchemeTable returns true.
-/
import Derived.Test.Qxb6602061aNorm2
namespace Go.Proofs.Qxb6602061a
open Go.RowKit
theorem w12 (s : ByteArray) (w : World) (hs : s.size ≤ 1048576) : Calls Try.prog 12 #[.string s] w fun e w' => e = .returned (.bool true) ∧ w' = w := by
  go_enter Try.func12, Try.ntmps12
  go_wp2
  go_ret
  exact ⟨rfl, rfl⟩
theorem w12n (s : ByteArray) (w : World) (hm : s.size ≤ maxLen) (hs : 1048576 < s.size) : Calls Try.prog 12 #[.string s] w fun e w' => e = .returned (.bool false) ∧ w' = w := by
  unfold maxLen at hm
  go_enter Try.func12, Try.ntmps12
  go_wp2
  go_ret
  exact ⟨rfl, rfl⟩
theorem list_ext_ba {a b : ByteArray} (h : a.data.toList = b.data.toList) : a = b := by
  cases a; cases b
  simp only [ByteArray.mk.injEq]
  exact Array.toList_inj.1 h
theorem norm_facts {p g : ByteArray} {m : Nat} {rest : List UInt8} (hnp : m < p.size) (hg : g.data.toList = (p.data.toList.take m).map lowU ++ 58 :: rest) :
    m + 1 ≤ g.size ∧ (∀ h : m < g.size, ((g[m].toNat : Nat) : Int) = 58) ∧ ∀ i (h1 : i < g.size) (h2 : i < p.size), i < m → ((g[i].toNat : Nat) : Int) = lowN p[i].toNat := by
  have hpl : ((p.data.toList.take m).map lowU).length = m := by simp; omega
  have hgs : g.size = m + 1 + rest.length := by
    rw [size_list, hg]
    simp
    omega
  refine ⟨by omega, ?_, ?_⟩
  · intro h
    have h1 := getElem_l g m h
    rw [hg, List.getElem?_append_right (by omega), hpl] at h1
    simp at h1
    rw [← h1]
    rfl
  · intro i h1 h2 hi
    have h3 := getElem_l g i h1
    rw [hg, List.getElem?_append_left (by omega), List.getElem?_map, List.getElem?_take, if_pos hi, getElem_l p i h2] at h3
    simp at h3
    rw [← h3]
    exact lowU_toNat _
set_option maxHeartbeats 1000000 in
theorem w3 (p : ByteArray) (w : World) (hm : p.size ≤ maxLen) : Calls Try.prog 3 #[.string p] w fun e w' => e = .returned (.bool true) ∧ Below w.heap.size w w' := by
  by_cases hs : p.size ≤ 1048576
  · go_enter Try.func3, Try.ntmps3
    go_wp2_with (first
      | (go_at_call 12; refine (w12 p _ hs).mono ?_; rintro e w' ⟨rfl, hw'⟩; subst w')
      | (go_at_call 13; refine (w13 p _ hs).mono ?_; rintro e w1 ⟨g, rfl, hok, hbel1⟩))
    refine (w14 p _ hs).mono ?_
    rintro e w2 ⟨j, rfl, hj, hjp, hw2⟩
    subst w2
    rcases hok with ⟨hno, hg⟩ | ⟨n, rest, hsch, hg, hgl⟩
    · rcases hj with ⟨rfl, _⟩ | ⟨m, rfl, hm2⟩
      · have hgp : g = p := list_ext_ba hg
        subst hgp
        clear hg
        go_wp2
        go_ret
        exact ⟨by simp, hbel1⟩
      · exact absurd hm2 (hno m)
    · rcases hj with ⟨_, hno⟩ | ⟨m, rfl, hm2⟩
      · exact absurd hsch (hno n)
      · have hmn := isScheme_unique hm2 hsch
        subst hmn
        have hnp : m < p.size := by
          have h2 := hsch.2.1
          rcases Nat.lt_or_ge m p.data.toList.length with h | h
          · simpa using h
          · rw [List.getElem?_eq_none h] at h2; cases h2
        have hgl' : g.size ≤ p.size := by simpa using hgl
        obtain ⟨hmg, hg58, hgi⟩ := norm_facts hnp hg
        have hg58' := hg58 (by omega)
        have Hgi : Hid (∀ i (h1 : i < g.size) (h2 : i < p.size), i < m → ((g[i].toNat : Nat) : Int) = lowN p[i].toNat) := hgi
        clear hgi hgl hg hm2 hsch hg58
        have hmm : decide ((m : Int) < 0) = false := by simp
        have hlg : decide ((p.size : Int) < (g.size : Int)) = false := by simp; omega
        have hlm : decide ((g.size : Int) < (m : Int) + 1) = false := by simp; omega
        go_wp2
        go_loopw [5] (fun i wr => ∃ k : Nat, k ≤ m ∧ i = .int .i64 k ∧ ∃ n, wr = w1.drewN n) (fun i _ => m - (intOf i).toNat)
        case atStart => exact ⟨0, Nat.zero_le _, rfl, 0, rfl⟩
        case round =>
          obtain ⟨k, hk, rfl, hnd⟩ := hrel
          have Hnd : Hid (∃ n, wr = w1.drewN n) := hnd
          clear hnd
          by_cases hlt : k < m
          · have hkg : k < g.size := by omega
            have hkp : k < p.size := by omega
            have hgk := Hgi.out k hkg hkp hlt
            obtain ⟨n, hn⟩ : ∃ n : Int, (p[k].toNat : Int) = n := ⟨_, rfl⟩
            have hb := byte_bd p[k]
            rw [hn] at hb hgk
            obtain ⟨hb0, hb1⟩ := hb
            clear hg58'
            have hk0I : (0 : Int) ≤ (k : Int) := by omega
            have hkgI : (k : Int) < (g.size : Int) := by omega
            have hkpI : (k : Int) < (p.size : Int) := by omega
            go_wp2
            go_quiet ((go_at_call 15; exact Calls.quiet_of_same (w15 _ _ (by omega) (by omega))))
            go_wp2
            go_roundw
            case rel =>
              obtain ⟨nd, hnd⟩ := Hnd.out
              exact ⟨k + 1, by omega, by go_num, nd + nq, by rw [hnd]; simp⟩
            case measure => simp [intOf]; omega
          · have hge : m ≤ k := by omega
            clear hlt
            go_wp2
            go_ret
            obtain ⟨nd, hnd⟩ := Hnd.out
            rw [hnd]
            exact ⟨rfl, below_drewN hbel1 _⟩
  · go_enter Try.func3, Try.ntmps3
    go_wp2_with (go_at_call 12; refine (w12n p _ hm (by omega)).mono ?_; rintro e w' ⟨rfl, hw'⟩; subst w')
    go_ret
    exact ⟨rfl, Below.refl _ _⟩
end Go.Proofs.Qxb6602061a
