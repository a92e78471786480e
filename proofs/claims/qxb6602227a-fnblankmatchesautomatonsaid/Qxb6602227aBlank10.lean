/-
  DERIVED. WALK: blankModel runs the automaton.
-/
import Derived.Test.Qxb6602227aAuto
namespace Go.Proofs.Qxb6602227a
open Go.RowKit
theorem w19 (c : UInt8) (w : World) : Calls Try.prog 19 #[.int .u8 c.toNat] w fun e w' => e = .returned (.bool (csp c)) ∧ w' = w := by
  by_cases hm : c ∈ [32, 10, 9, 13, 12, 11]
  · simp only [List.mem_cons, List.not_mem_nil, or_false] at hm
    rcases hm with rfl | rfl | rfl | rfl | rfl | rfl
    all_goals
      go_enter Try.func19, Try.ntmps19
      go_wp2
      go_ret
      exact ⟨by rfl, rfl⟩
  · have hc : csp c = false := by unfold csp; simpa using hm
    rw [hc]
    simp only [List.mem_cons, List.not_mem_nil, or_false, not_or] at hm
    obtain ⟨n1, n2, n3, n4, n5, n6⟩ := hm
    have m1 := byte_ne c 32 (by omega) n1
    have m2 := byte_ne c 10 (by omega) n2
    have m3 := byte_ne c 9 (by omega) n3
    have m4 := byte_ne c 13 (by omega) n4
    have m5 := byte_ne c 12 (by omega) n5
    have m6 := byte_ne c 11 (by omega) n6
    simp only [Int.cast_ofNat_Int] at m1 m2 m3 m4 m5 m6
    clear n1 n2 n3 n4 n5 n6 hc
    go_enter Try.func19, Try.ntmps19
    go_wp2
    go_ret
    exact ⟨by rfl, rfl⟩
theorem w22 (c : UInt8) (w : World) : Calls Try.prog 22 #[.int .u8 c.toNat] w fun e w' => e = .returned (.bool (csp c)) ∧ w' = w := by
  by_cases hm : c ∈ [32, 10, 9, 13, 12, 11]
  · simp only [List.mem_cons, List.not_mem_nil, or_false] at hm
    rcases hm with rfl | rfl | rfl | rfl | rfl | rfl
    all_goals
      go_enter Try.func22, Try.ntmps22
      go_wp2
      go_ret
      exact ⟨by rfl, rfl⟩
  · have hc : csp c = false := by unfold csp; simpa using hm
    rw [hc]
    simp only [List.mem_cons, List.not_mem_nil, or_false, not_or] at hm
    obtain ⟨n1, n2, n3, n4, n5, n6⟩ := hm
    have m1 := byte_ne c 32 (by omega) n1
    have m2 := byte_ne c 10 (by omega) n2
    have m3 := byte_ne c 9 (by omega) n3
    have m4 := byte_ne c 13 (by omega) n4
    have m5 := byte_ne c 12 (by omega) n5
    have m6 := byte_ne c 11 (by omega) n6
    simp only [Int.cast_ofNat_Int] at m1 m2 m3 m4 m5 m6
    clear n1 n2 n3 n4 n5 n6 hc
    go_enter Try.func22, Try.ntmps22
    go_wp2
    go_ret
    exact ⟨by rfl, rfl⟩
def mkSt (q : Nat) (ab cr st : Bool) : St := if q = 0 then .out else if q = 1 then .sl else if q = 2 then .ln ab cr else .bl st
/-- Where a byte stands among those that the automaton tells apart. -/
structure Tells (c : UInt8) (b47 b42 b10 b13 b92 : Bool) : Prop where
  h47 : (((c.toNat : Nat) : Int) == 47) = b47
  h42 : (((c.toNat : Nat) : Int) == 42) = b42
  h10 : (((c.toNat : Nat) : Int) == 10) = b10
  h13 : (((c.toNat : Nat) : Int) == 13) = b13
  h92 : (((c.toNat : Nat) : Int) == 92) = b92
  e47 : (c == 47) = b47
  e42 : (c == 42) = b42
  e10 : (c == 10) = b10
  e13 : (c == 13) = b13
  e92 : (c == 92) = b92
theorem tell_lit (c : UInt8) : Tells c (c == 47) (c == 42) (c == 10) (c == 13) (c == 92) := by
  have h : ∀ k : Nat, k < 256 → (((c.toNat : Nat) : Int) == (k : Int)) = (c == UInt8.ofNat k) := by
    intro k hk
    by_cases hc : c = UInt8.ofNat k
    · rw [byte_is c k hk hc]
      simp [hc]
    · rw [byte_ne c k hk hc]
      simpa using hc
  exact ⟨h 47 (by omega), h 42 (by omega), h 10 (by omega), h 13 (by omega), h 92 (by omega), rfl, rfl, rfl, rfl, rfl⟩
set_option maxRecDepth 100000 in
set_option maxHeartbeats 8000000 in
theorem w10 (p : ByteArray) (w : World) (hs : p.size ≤ 1048576) (b : Bool) (hb : run .out p.data.toList = b) : Calls Try.prog 10 #[.string p] w fun e w' => e = .returned (.bool b) ∧ w' = w := by
  have HB := hide hb
  clear hb
  go_enter Try.func10, Try.ntmps10
  go_wp2
  go_loopw [3, 4, 5, 6, 7] (fun v3 v4 v5 v6 v7 wr => ∃ (k : Nat) (Q : Int) (ab cr st : Bool) (s : St), k ≤ p.size ∧ v3 = .int .i64 Q ∧ v4 = .bool ab ∧ v5 = .bool cr ∧ v6 = .bool st ∧ v7 = .int .i64 k ∧ ((Q = 0 ∧ s = .out) ∨ (Q = 1 ∧ s = .sl) ∨ (Q = 2 ∧ s = .ln ab cr) ∨ (Q = 3 ∧ s = .bl st)) ∧ run s (p.data.toList.drop k) = b ∧ wr = w) (fun _ _ _ _ v7 _ => p.size - (intOf v7).toNat)
  case atStart => exact ⟨0, 0, false, false, false, .out, Nat.zero_le _, rfl, rfl, rfl, rfl, rfl, .inl ⟨rfl, rfl⟩, unhide HB, rfl⟩
  case round =>
    obtain ⟨k, Q, ab, cr, st, s, hk, rfl, rfl, rfl, rfl, rfl, hQ, hR, hw⟩ := hrel
    subst hw
    have HR := hide hR
    clear hR HB
    by_cases hlt : k < p.size
    · have hI0 : (0 : Int) ≤ (k : Int) := by omega
      have hI1 : (k : Int) < (p.size : Int) := by omega
      have hdI : decide ((k : Int) < (p.size : Int)) = true := by simp; omega
      have hdN : decide (k < p.size) = true := by simp; omega
      have hd := ba_drop p k hlt
      have HD := hide hd
      clear hd
      rcases hQ with ⟨rfl, rfl⟩ | ⟨rfl, rfl⟩ | ⟨rfl, rfl⟩ | ⟨rfl, rfl⟩
      · by_cases h47 : p[k] = 47
        · have m47 := byte_is _ 47 (by omega) h47
          simp only [Int.cast_ofNat_Int] at m47
          have HNX : Hid (run (.sl) (p.data.toList.drop (k + 1)) = b) := by show _ = _; rw [← unhide HR, unhide HD, h47, out_47]
          clear HR HD
          go_wp2
          go_roundw
          case rel => exact ⟨k + 1, 1, ab, cr, st, .sl, by omega, rfl, rfl, rfl, rfl, by go_num, .inr (.inl ⟨rfl, rfl⟩), unhide HNX, by first | rfl | trivial⟩
          case measure => simp [intOf]; omega
        · have m47 := byte_ne _ 47 (by omega) h47
          simp only [Int.cast_ofNat_Int] at m47
          have h19 := w19 p[k]
          obtain ⟨x, hx⟩ : ∃ x, csp p[k] = x := ⟨_, rfl⟩
          rw [hx] at h19
          have H19 := hide h19
          clear h19
          cases x with
          | true =>
            have HNX : Hid (run (.out) (p.data.toList.drop (k + 1)) = b) := by show _ = _; rw [← unhide HR, unhide HD, out_sp _ _ hx]
            clear HR HD hx h47
            go_wp2_with (go_at_call 19; refine (unhide H19 _).mono ?_; rintro e w' ⟨rfl, hw'⟩; subst w')
            go_roundw
            case rel => exact ⟨k + 1, 0, ab, cr, st, .out, by omega, rfl, rfl, rfl, rfl, by go_num, .inl ⟨rfl, rfl⟩, unhide HNX, by first | rfl | trivial⟩
            case measure => simp [intOf]; omega
          | false =>
            have hbf : b = false := by rw [← unhide HR, unhide HD, out_no _ _ hx h47]
            subst hbf
            clear HR HD hx h47
            go_wp2_with (go_at_call 19; refine (unhide H19 _).mono ?_; rintro e w' ⟨rfl, hw'⟩; subst w')
            go_ret
            exact ⟨rfl, rfl⟩
      · by_cases h47 : p[k] = 47
        · have m47 := byte_is _ 47 (by omega) h47
          simp only [Int.cast_ofNat_Int] at m47
          have HNX : Hid (run (.ln false false) (p.data.toList.drop (k + 1)) = b) := by show _ = _; rw [← unhide HR, unhide HD, h47, sl_47]
          clear HR HD
          go_wp2
          go_roundw
          case rel => exact ⟨k + 1, 2, false, false, st, .ln false false, by omega, rfl, rfl, rfl, rfl, by go_num, .inr (.inr (.inl ⟨rfl, rfl⟩)), unhide HNX, by first | rfl | trivial⟩
          case measure => simp [intOf]; omega
        · have m47 := byte_ne _ 47 (by omega) h47
          simp only [Int.cast_ofNat_Int] at m47
          by_cases h42 : p[k] = 42
          · have m42 := byte_is _ 42 (by omega) h42
            simp only [Int.cast_ofNat_Int] at m42
            have HNX : Hid (run (.bl false) (p.data.toList.drop (k + 1)) = b) := by show _ = _; rw [← unhide HR, unhide HD, h42, sl_42]
            clear HR HD
            go_wp2
            go_roundw
            case rel => exact ⟨k + 1, 3, ab, cr, false, .bl false, by omega, rfl, rfl, rfl, rfl, by go_num, .inr (.inr (.inr ⟨rfl, rfl⟩)), unhide HNX, by first | rfl | trivial⟩
            case measure => simp [intOf]; omega
          · have m42 := byte_ne _ 42 (by omega) h42
            simp only [Int.cast_ofNat_Int] at m42
            have hbf : b = false := by rw [← unhide HR, unhide HD, sl_no _ _ h47 h42]
            subst hbf
            clear HR HD h47 h42
            go_wp2
            go_ret
            exact ⟨rfl, rfl⟩
      · by_cases h10 : p[k] = 10
        · have m10 := byte_is _ 10 (by omega) h10
          simp only [Int.cast_ofNat_Int] at m10
          have h13 : p[k] ≠ 13 := by rw [h10]; decide
          have m13 := byte_ne _ 13 (by omega) h13
          simp only [Int.cast_ofNat_Int] at m13
          have h92 : p[k] ≠ 92 := by rw [h10]; decide
          have m92 := byte_ne _ 92 (by omega) h92
          simp only [Int.cast_ofNat_Int] at m92
          by_cases hf : ab = false ∧ cr = false
          · obtain ⟨rfl, rfl⟩ := hf
            have HNX : Hid (run (.out) (p.data.toList.drop (k + 1)) = b) := by show _ = _; rw [← unhide HR, unhide HD, h10, ln_end]
            clear HR HD h13 h92
            go_wp2
            go_roundw
            case rel => exact ⟨k + 1, 0, false, false, st, .out, by omega, rfl, rfl, rfl, rfl, by go_num, .inl ⟨rfl, rfl⟩, unhide HNX, by first | rfl | trivial⟩
            case measure => simp [intOf]; omega
          · have hnx := ln_go ab cr p[k] (p.data.toList.drop (k + 1)) (fun h => hf h.2)
            have e92 : (p[k] == 92) = false := by simpa using h92
            have e13 : (p[k] == 13) = false := by simpa using h13
            rw [e92, e13, Bool.false_and] at hnx
            have HNX : Hid (run (.ln false false) (p.data.toList.drop (k + 1)) = b) := by show _ = _; rw [← hnx, ← unhide HR, unhide HD]
            clear HR HD hnx e92 e13 h13 h92 h10
            cases ab <;> cases cr
            · exact absurd ⟨rfl, rfl⟩ hf
            all_goals
              clear hf
              go_wp2
              go_roundw
              case rel => exact ⟨k + 1, 2, false, false, st, .ln false false, by omega, rfl, rfl, rfl, rfl, by go_num, .inr (.inr (.inl ⟨rfl, rfl⟩)), unhide HNX, by first | rfl | trivial⟩
              case measure => simp [intOf]; omega
        · have m10 := byte_ne _ 10 (by omega) h10
          simp only [Int.cast_ofNat_Int] at m10
          have hnx := ln_go ab cr p[k] (p.data.toList.drop (k + 1)) (fun h => h10 h.1)
          by_cases h13 : p[k] = 13
          · have m13 := byte_is _ 13 (by omega) h13
            simp only [Int.cast_ofNat_Int] at m13
            have h92 : p[k] ≠ 92 := by rw [h13]; decide
            have m92 := byte_ne _ 92 (by omega) h92
            simp only [Int.cast_ofNat_Int] at m92
            have e92 : (p[k] == 92) = false := by simpa using h92
            have e13 : (p[k] == 13) = true := by simpa using h13
            rw [e92, e13, Bool.true_and] at hnx
            have HNX : Hid (run (.ln false ab) (p.data.toList.drop (k + 1)) = b) := by show _ = _; rw [← unhide HR, unhide HD, hnx]
            clear HR HD hnx e92 e13 h13 h92 h10
            go_wp2
            go_roundw
            case rel => exact ⟨k + 1, 2, false, ab, st, .ln false ab, by omega, rfl, rfl, rfl, rfl, by go_num, .inr (.inr (.inl ⟨rfl, rfl⟩)), unhide HNX, by first | rfl | trivial⟩
            case measure => simp [intOf]; omega
          · have m13 := byte_ne _ 13 (by omega) h13
            simp only [Int.cast_ofNat_Int] at m13
            have e13 : (p[k] == 13) = false := by simpa using h13
            rw [e13, Bool.false_and] at hnx
            by_cases h92 : p[k] = 92
            · have m92 := byte_is _ 92 (by omega) h92
              simp only [Int.cast_ofNat_Int] at m92
              have e92 : (p[k] == 92) = true := by simpa using h92
              rw [e92] at hnx
              have HNX : Hid (run (.ln true false) (p.data.toList.drop (k + 1)) = b) := by show _ = _; rw [← unhide HR, unhide HD, hnx]
              clear HR HD hnx e92 e13 h13 h92 h10
              go_wp2
              go_roundw
              case rel => exact ⟨k + 1, 2, true, false, st, .ln true false, by omega, rfl, rfl, rfl, rfl, by go_num, .inr (.inr (.inl ⟨rfl, rfl⟩)), unhide HNX, by first | rfl | trivial⟩
              case measure => simp [intOf]; omega
            · have m92 := byte_ne _ 92 (by omega) h92
              simp only [Int.cast_ofNat_Int] at m92
              have e92 : (p[k] == 92) = false := by simpa using h92
              rw [e92] at hnx
              have HNX : Hid (run (.ln false false) (p.data.toList.drop (k + 1)) = b) := by show _ = _; rw [← unhide HR, unhide HD, hnx]
              clear HR HD hnx e92 e13 h13 h92 h10
              go_wp2
              go_roundw
              case rel => exact ⟨k + 1, 2, false, false, st, .ln false false, by omega, rfl, rfl, rfl, rfl, by go_num, .inr (.inr (.inl ⟨rfl, rfl⟩)), unhide HNX, by first | rfl | trivial⟩
              case measure => simp [intOf]; omega
      · by_cases h47 : p[k] = 47
        · have m47 := byte_is _ 47 (by omega) h47
          simp only [Int.cast_ofNat_Int] at m47
          have h42 : p[k] ≠ 42 := by rw [h47]; decide
          have m42 := byte_ne _ 42 (by omega) h42
          simp only [Int.cast_ofNat_Int] at m42
          cases st with
          | true =>
            have HNX : Hid (run (.out) (p.data.toList.drop (k + 1)) = b) := by show _ = _; rw [← unhide HR, unhide HD, h47, bl_end]
            clear HR HD h42
            go_wp2
            go_roundw
            case rel => exact ⟨k + 1, 0, ab, cr, true, .out, by omega, rfl, rfl, rfl, rfl, by go_num, .inl ⟨rfl, rfl⟩, unhide HNX, by first | rfl | trivial⟩
            case measure => simp [intOf]; omega
          | false =>
            have hnx := bl_go false p[k] (p.data.toList.drop (k + 1)) (fun h => absurd h.1 (by decide))
            have e42 : (p[k] == 42) = false := by simpa using h42
            rw [e42] at hnx
            have HNX : Hid (run (.bl false) (p.data.toList.drop (k + 1)) = b) := by show _ = _; rw [← unhide HR, unhide HD, hnx]
            clear HR HD hnx e42 h42 h47
            go_wp2
            go_roundw
            case rel => exact ⟨k + 1, 3, ab, cr, false, .bl false, by omega, rfl, rfl, rfl, rfl, by go_num, .inr (.inr (.inr ⟨rfl, rfl⟩)), unhide HNX, by first | rfl | trivial⟩
            case measure => simp [intOf]; omega
        · have m47 := byte_ne _ 47 (by omega) h47
          simp only [Int.cast_ofNat_Int] at m47
          have hnx := bl_go st p[k] (p.data.toList.drop (k + 1)) (fun h => h47 h.2)
          by_cases h42 : p[k] = 42
          · have m42 := byte_is _ 42 (by omega) h42
            simp only [Int.cast_ofNat_Int] at m42
            have e42 : (p[k] == 42) = true := by simpa using h42
            rw [e42] at hnx
            have HNX : Hid (run (.bl true) (p.data.toList.drop (k + 1)) = b) := by show _ = _; rw [← hnx, ← unhide HR, unhide HD]
            clear HR HD hnx e42 h42 h47
            cases st
            all_goals
              go_wp2
              go_roundw
              case rel => exact ⟨k + 1, 3, ab, cr, true, .bl true, by omega, rfl, rfl, rfl, rfl, by go_num, .inr (.inr (.inr ⟨rfl, rfl⟩)), unhide HNX, by first | rfl | trivial⟩
              case measure => simp [intOf]; omega
          · have m42 := byte_ne _ 42 (by omega) h42
            simp only [Int.cast_ofNat_Int] at m42
            have e42 : (p[k] == 42) = false := by simpa using h42
            rw [e42] at hnx
            have HNX : Hid (run (.bl false) (p.data.toList.drop (k + 1)) = b) := by show _ = _; rw [← hnx, ← unhide HR, unhide HD]
            clear HR HD hnx e42 h42 h47
            cases st
            all_goals
              go_wp2
              go_roundw
              case rel => exact ⟨k + 1, 3, ab, cr, false, .bl false, by omega, rfl, rfl, rfl, rfl, by go_num, .inr (.inr (.inr ⟨rfl, rfl⟩)), unhide HNX, by first | rfl | trivial⟩
              case measure => simp [intOf]; omega
    · have hge : p.size ≤ k := by omega
      have hdI : decide ((k : Int) < (p.size : Int)) = false := by simp; omega
      have hdN : decide (k < p.size) = false := by simp; omega
      have hE : p.data.toList.drop k = [] := List.drop_of_length_le (by rw [← size_list]; omega)
      have hbe : endA s = b := by
        have h := unhide HR
        rw [hE] at h
        exact h
      clear hlt hE HR
      rcases hQ with ⟨rfl, rfl⟩ | ⟨rfl, rfl⟩ | ⟨rfl, rfl⟩ | ⟨rfl, rfl⟩
      all_goals
        first | (have hbt : true = b := hbe) | (have hbt : false = b := hbe)
        clear hbe
        subst hbt
        go_wp2
        go_ret
        exact ⟨rfl, rfl⟩
end Go.Proofs.Qxb6602227a
