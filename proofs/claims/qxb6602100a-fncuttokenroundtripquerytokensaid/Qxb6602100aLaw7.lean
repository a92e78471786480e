/-
  DERIVED. WALK: FnCutTokenRoundTripQueryToken returns true.
-/
import Derived.Test.Qxb6602100aPlain7
import Derived.Deep.DeepCutAuto
import Derived.Deep.CutBlock
namespace Go.Proofs.Qxb6602100a
open Go.RowKit
theorem mem_at (s : ByteArray) (p : UInt8 → Prop) (h : ∀ i (hi : i < s.size), p s[i]) : ∀ c ∈ s.data.toList, p c := by
  intro c hc
  obtain ⟨i, hi, rfl⟩ := List.mem_iff_getElem.1 hc
  have hi' : i < s.size := by rw [size_list]; exact hi
  have h1 := h i hi'
  have h2 := getElem_l s i hi'
  rw [List.getElem?_eq_getElem hi] at h2
  simp only [Option.some.injEq] at h2
  rw [h2]
  exact h1
theorem at_mem (s : ByteArray) (i : Nat) (hi : i < s.size) : s[i] ∈ s.data.toList := List.mem_of_getElem? (getElem_l s i hi)
theorem byte_is (c : UInt8) (k : Nat) (hk : k < 256) (h : c = UInt8.ofNat k) : ((((c.toNat : Nat) : Int) == (k : Int)) = true) := by
  subst h
  rw [UInt8.toNat_ofNat_of_lt' (by simpa using hk)]
  simp
set_option maxRecDepth 100000 in
set_option maxHeartbeats 4000000 in
theorem w21 (s t : ByteArray) (w : World) (hs : s.size ≤ 262144) (ht : t.size ≤ 262144) (b : Bool) (hb : b = true ↔ Prem s.data.toList t.data.toList) :
    Calls Try.prog 21 #[.string s, .string t] w fun e w' => e = .returned (.bool b) ∧ ∃ n, w' = w.drewN n := by
  have HB := hide hb
  clear hb
  go_enter Try.func21, Try.ntmps21
  go_wp2
  go_loopw [5] (fun v wr => ∃ k : Nat, k ≤ s.size ∧ v = .int .i64 k ∧ (∀ i (hi : i < s.size), i < k → s[i] ≠ 63 ∧ s[i] ≠ 35) ∧ ∃ n, wr = w.drewN n) (fun v _ => s.size - (intOf v).toNat)
  case atStart => exact ⟨0, Nat.zero_le _, rfl, fun i hi h0 => by omega, 0, rfl⟩
  case round =>
    obtain ⟨k, hk, rfl, hno, hnd⟩ := hrel
    have HNO := hide hno
    have HND := hide hnd
    clear hno hnd
    by_cases hlt : k < s.size
    · have hI0 : (0 : Int) ≤ (k : Int) := by omega
      have hI1 : (k : Int) < (s.size : Int) := by omega
      by_cases h63 : s[k] = 63
      · have m63 := byte_is _ 63 (by omega) h63
        simp only [Int.cast_ofNat_Int] at m63
        have hbf : b = false := by
          rw [Bool.eq_false_iff]
          intro h
          exact (((unhide HB).1 h).1 _ (at_mem s k hlt)).1 h63
        subst hbf
        clear h63
        go_wp2
        go_ret
        exact ⟨rfl, unhide HND⟩
      · have m63 := byte_ne _ 63 (by omega) h63
        simp only [Int.cast_ofNat_Int] at m63
        by_cases h35 : s[k] = 35
        · have m35 := byte_is _ 35 (by omega) h35
          simp only [Int.cast_ofNat_Int] at m35
          have hbf : b = false := by
            rw [Bool.eq_false_iff]
            intro h
            exact (((unhide HB).1 h).1 _ (at_mem s k hlt)).2 h35
          subst hbf
          clear h63 h35
          go_wp2
          go_ret
          exact ⟨rfl, unhide HND⟩
        · have m35 := byte_ne _ 35 (by omega) h35
          simp only [Int.cast_ofNat_Int] at m35
          have hnx : ∀ i (hi : i < s.size), i < k + 1 → s[i] ≠ 63 ∧ s[i] ≠ 35 := by
            intro i hi hik
            by_cases e : i = k
            · subst e; exact ⟨h63, h35⟩
            · exact unhide HNO i hi (by omega)
          have HNX := hide hnx
          clear h63 h35 hnx
          go_wp2
          go_roundw
          case rel => exact ⟨k + 1, by omega, by go_num, unhide HNX, unhide HND⟩
          case measure => simp [intOf]; omega
    · have hge : s.size ≤ k := by omega
      have hdI : decide ((k : Int) < (s.size : Int)) = false := by simp; omega
      have hdN : decide (k < s.size) = false := by simp; omega
      have hP1 : ∀ c ∈ s.data.toList, c ≠ 63 ∧ c ≠ 35 := mem_at s _ (fun i hi => unhide HNO i hi (by omega))
      have HP1 := hide hP1
      clear hlt hP1
      by_cases hocc : Occ s.data.toList attr
      · have h18 := fun w => w18 s attrB w (by omega) (by decide) true ⟨fun _ => hocc, fun _ => rfl⟩
        have hbf : b = false := by
          rw [Bool.eq_false_iff]
          intro h
          exact ((unhide HB).1 h).2.1 hocc
        subst hbf
        have H18 := hide h18
        clear h18 hocc
        go_wp2_with (go_at_call 18; refine (unhide H18 _).mono ?_; rintro e w' ⟨rfl, nd, hw'⟩; subst w')
        go_ret
        obtain ⟨n, hn⟩ := unhide HND
        exact ⟨rfl, n + nd, by rw [hn]; simp⟩
      · have h18 := fun w => w18 s attrB w (by omega) (by decide) false ⟨fun e => absurd e (by decide), fun e => absurd e hocc⟩
        have H18 := hide h18
        have HOC := hide hocc
        clear h18 hocc
        go_wp2_with (go_at_call 18; refine (unhide H18 _).mono ?_; rintro e w' ⟨rfl, nd, hw'⟩; subst w')
        go_loopw [6] (fun v wr => ∃ k : Nat, k ≤ t.size ∧ v = .int .i64 k ∧ (∀ i (hi : i < t.size), i < k → resL.contains t[i] = false) ∧ ∃ n, wr = w.drewN n) (fun v _ => t.size - (intOf v).toNat)
        case atStart =>
          obtain ⟨n, hn⟩ := unhide HND
          exact ⟨0, Nat.zero_le _, rfl, fun i hi h0 => by omega, n + nd, by rw [hn]; simp⟩
        case round =>
          clear HND
          obtain ⟨j, hj, rfl, hno2, hnd⟩ := hrel
          have HNO2 := hide hno2
          have HND := hide hnd
          clear hno2 hnd
          by_cases hlt : j < t.size
          · obtain ⟨r, hr⟩ : ∃ r, resL.contains t[j] = r := ⟨_, rfl⟩
            have h19 := w19 t[j]
            rw [hr] at h19
            have H19 := hide h19
            clear h19
            cases r with
            | true =>
              have hbf : b = false := by
                rw [Bool.eq_false_iff]
                intro h
                have h2 := ((unhide HB).1 h).2.2 _ (at_mem t j hlt)
                rw [hr] at h2
                cases h2
              subst hbf
              clear hr
              go_wp2_with (go_at_call 19; refine (unhide H19 _).mono ?_; rintro e w' ⟨rfl, hw'⟩; subst w')
              go_ret
              exact ⟨rfl, unhide HND⟩
            | false =>
              have hnx : ∀ i (hi : i < t.size), i < j + 1 → resL.contains t[i] = false := by
                intro i hi hik
                by_cases e : i = j
                · subst e; exact hr
                · exact unhide HNO2 i hi (by omega)
              have HNX := hide hnx
              clear hnx hr
              go_wp2_with (go_at_call 19; refine (unhide H19 _).mono ?_; rintro e w' ⟨rfl, hw'⟩; subst w')
              go_roundw
              case rel => exact ⟨j + 1, by omega, by go_num, unhide HNX, unhide HND⟩
              case measure => simp [intOf]; omega
          · have hge2 : t.size ≤ j := by omega
            have hdI2 : decide ((j : Int) < (t.size : Int)) = false := by simp; omega
            have hdN2 : decide (j < t.size) = false := by simp; omega
            have hbt : b = true := (unhide HB).2 ⟨unhide HP1, unhide HOC, mem_at t (fun c => resL.contains c = false) (fun i hi => unhide HNO2 i hi (by omega))⟩
            subst hbt
            clear hlt
            go_wp2
            go_ret
            exact ⟨rfl, unhide HND⟩
theorem w20 (a b c : ByteArray) (t : Bool) (w : World) (h : a.size + b.size + c.size ≤ 1048576) :
    Calls Try.prog 20 #[.string a, .string b, .string c, .bool t] w fun e w' => e = .returned (.bool true) ∧ w' = w := by
  have h0 : a.size ≤ 1048576 := by omega
  have h1 : b.size ≤ 1048576 := by omega
  have h2 : c.size ≤ 1048576 := by omega
  have h3 : (a.size : Int) + (b.size : Int) ≤ 1048576 := by omega
  have h4 : (a.size : Int) + (b.size : Int) + (c.size : Int) ≤ 1048576 := by omega
  go_enter Try.func20, Try.ntmps20
  go_wp2
  go_ret
  exact ⟨rfl, rfl⟩
theorem w20n (a b c : ByteArray) (t : Bool) (w : World) (m0 : a.size ≤ maxLen) (m1 : b.size ≤ maxLen) (m2 : c.size ≤ maxLen) (h : 1048576 < a.size + b.size + c.size) :
    Calls Try.prog 20 #[.string a, .string b, .string c, .bool t] w fun e w' => e = .returned (.bool false) ∧ w' = w := by
  unfold maxLen at m0 m1 m2
  by_cases h0 : 1048576 < a.size
  · go_enter Try.func20, Try.ntmps20
    go_wp2
    go_ret
    exact ⟨rfl, rfl⟩
  · have h0' : a.size ≤ 1048576 := by omega
    clear h0
    by_cases h1 : 1048576 < b.size
    · go_enter Try.func20, Try.ntmps20
      go_wp2
      go_ret
      exact ⟨rfl, rfl⟩
    · have h1' : b.size ≤ 1048576 := by omega
      clear h1
      by_cases h2 : 1048576 < a.size + b.size
      · have h2' : (1048576 : Int) < (a.size : Int) + (b.size : Int) := by omega
        go_enter Try.func20, Try.ntmps20
        go_wp2
        go_ret
        exact ⟨rfl, rfl⟩
      · have h2' : (a.size : Int) + (b.size : Int) ≤ 1048576 := by omega
        clear h2
        by_cases h3 : 1048576 < c.size
        · go_enter Try.func20, Try.ntmps20
          go_wp2
          go_ret
          exact ⟨rfl, rfl⟩
        · have h3' : c.size ≤ 1048576 := by omega
          have h4' : (1048576 : Int) < (a.size : Int) + (b.size : Int) + (c.size : Int) := by omega
          clear h3
          go_enter Try.func20, Try.ntmps20
          go_wp2
          go_ret
          exact ⟨rfl, rfl⟩
theorem z63 : (⟨#[63]⟩ : ByteArray).size = 1 := rfl
theorem z38 : (⟨#[38]⟩ : ByteArray).size = 1 := rfl
theorem zAt : (⟨#[85, 82, 73, 83, 105, 103, 110, 105, 110, 103, 80, 97, 99, 107, 97, 103, 101, 61]⟩ : ByteArray).size = 18 := rfl
/-- cutToken at a text that a token was placed in. -/
theorem c15 (w : World) (M : Int) (base tok u r : ByteArray) (T : List UInt8) (hm : w.cell? ⟨0, 0, none⟩ = some (.int .i64 M)) (hp : Prem base.data.toList tok.data.toList)
    (hu : u.data.toList = base.data.toList ++ 63 :: (attr ++ (tok.data.toList ++ T)))
    (hT : (T = [] ∧ r = base) ∨ ∃ t : List UInt8, T = 38 :: t ∧ r.data.toList = base.data.toList ++ 63 :: t) (hs : u.size ≤ 1048576) :
    Calls Try.prog 15 #[.string u] w fun e w' => e = .returned (.tuple #[.string tok, .string r, .bool true]) ∧ Below w.heap.size w w' :=
  w15 u tok r true w M hm hs (round_tup base tok u r T hu hp hT)
set_option maxRecDepth 100000 in
set_option maxHeartbeats 4000000 in
theorem w7main (a b c : ByteArray) (t : Bool) (w : World) (M : Int) (hM : w.cell? ⟨0, 0, none⟩ = some (.int .i64 M)) (h0 : a.size ≤ 262144) (h1 : b.size ≤ 262144) (h2 : c.size ≤ 262144) :
    Calls Try.prog 7 #[.string a, .string b, .string c, .bool t] w fun e w' => e = .returned (.bool true) ∧ Below w.heap.size w w' := by
  have hM0 : 0 < w.heap.size := World.block_lt_of_cell? w _ hM
  have h3 : a.size + b.size + c.size ≤ 1048576 := by omega
  have d0 : decide ((262144 : Int) < (a.size : Int)) = false := by simp; omega
  have d1 : decide ((262144 : Int) < (b.size : Int)) = false := by simp; omega
  have d2 : decide ((262144 : Int) < (c.size : Int)) = false := by simp; omega
  by_cases hp : Prem a.data.toList b.data.toList
  · have h21 := fun w => w21 a b w h0 h1 true ⟨fun _ => hp, fun _ => rfl⟩
    have H21 := hide h21
    have HM : Hid (∀ n, (w.drewN n).cell? ⟨0, 0, none⟩ = some (.int .i64 M)) := fun n => hM
    have HP := hide hp
    clear h21 hp hM
    cases t with
    | false =>
      go_enter Try.func7, Try.ntmps7
      go_wp2_with (first
        | (go_at_call 20; refine (w20 a b c _ _ h3).mono ?_; rintro e w' ⟨rfl, hw'⟩; subst w')
        | (go_at_call 21; refine (unhide H21 _).mono ?_; rintro e w' ⟨rfl, nd, hw'⟩; subst w'))
      refine (c15 _ M a b _ a [] (unhide HM _) (unhide HP) (by simp [attr]) (.inl ⟨rfl, rfl⟩) (by simp only [ByteArray.size_append, z63, zAt]; omega)).mono ?_
      rintro e w1 ⟨rfl, hbel⟩
      go_wp2
      go_ret
      exact ⟨by simp, (below_drewN (Below.refl _ _) _).trans hbel⟩
    | true =>
      go_enter Try.func7, Try.ntmps7
      go_wp2_with (first
        | (go_at_call 20; refine (w20 a b c _ _ h3).mono ?_; rintro e w' ⟨rfl, hw'⟩; subst w')
        | (go_at_call 21; refine (unhide H21 _).mono ?_; rintro e w' ⟨rfl, nd, hw'⟩; subst w'))
      refine (c15 _ M a b _ (a ++ ⟨#[63]⟩ ++ c) (38 :: c.data.toList) (unhide HM _) (unhide HP) (by simp [attr]) (.inr ⟨c.data.toList, rfl, by simp⟩) (by simp only [ByteArray.size_append, z63, z38, zAt]; omega)).mono ?_
      rintro e w1 ⟨rfl, hbel⟩
      go_wp2
      go_ret
      exact ⟨by simp, (below_drewN (Below.refl _ _) _).trans hbel⟩
  · have h21 := fun w => w21 a b w h0 h1 false ⟨fun e => absurd e (by decide), fun e => absurd e hp⟩
    have H21 := hide h21
    clear h21 hp hM
    go_enter Try.func7, Try.ntmps7
    go_wp2_with (first
      | (go_at_call 20; refine (w20 a b c _ _ h3).mono ?_; rintro e w' ⟨rfl, hw'⟩; subst w')
      | (go_at_call 21; refine (unhide H21 _).mono ?_; rintro e w' ⟨rfl, nd, hw'⟩; subst w'))
    go_ret
    exact ⟨rfl, below_drewN (Below.refl _ _) _⟩
set_option maxHeartbeats 4000000 in
theorem w7 (a b c : ByteArray) (t : Bool) (w : World) (M : Int) (hM : w.cell? ⟨0, 0, none⟩ = some (.int .i64 M)) (m0 : a.size ≤ maxLen) (m1 : b.size ≤ maxLen) (m2 : c.size ≤ maxLen) :
    Calls Try.prog 7 #[.string a, .string b, .string c, .bool t] w fun e w' => e = .returned (.bool true) ∧ Below w.heap.size w w' := by
  by_cases hs : a.size + b.size + c.size ≤ 1048576
  · by_cases h0 : a.size ≤ 262144
    · by_cases h1 : b.size ≤ 262144
      · by_cases h2 : c.size ≤ 262144
        · exact w7main a b c t w M hM h0 h1 h2
        · clear hM
          have d0 : decide ((262144 : Int) < (a.size : Int)) = false := by simp; omega
          have d1 : decide ((262144 : Int) < (b.size : Int)) = false := by simp; omega
          have d2 : decide ((262144 : Int) < (c.size : Int)) = true := by simp; omega
          clear h2
          go_enter Try.func7, Try.ntmps7
          go_wp2_with (go_at_call 20; refine (w20 a b c _ _ hs).mono ?_; rintro e w' ⟨rfl, hw'⟩; subst w')
          go_ret
          exact ⟨rfl, Below.refl _ _⟩
      · clear hM
        have d0 : decide ((262144 : Int) < (a.size : Int)) = false := by simp; omega
        have d1 : decide ((262144 : Int) < (b.size : Int)) = true := by simp; omega
        clear h1
        go_enter Try.func7, Try.ntmps7
        go_wp2_with (go_at_call 20; refine (w20 a b c _ _ hs).mono ?_; rintro e w' ⟨rfl, hw'⟩; subst w')
        go_ret
        exact ⟨rfl, Below.refl _ _⟩
    · clear hM
      have d0 : decide ((262144 : Int) < (a.size : Int)) = true := by simp; omega
      clear h0
      go_enter Try.func7, Try.ntmps7
      go_wp2_with (go_at_call 20; refine (w20 a b c _ _ hs).mono ?_; rintro e w' ⟨rfl, hw'⟩; subst w')
      go_ret
      exact ⟨rfl, Below.refl _ _⟩
  · have hs' : 1048576 < a.size + b.size + c.size := by omega
    clear hM hs
    go_enter Try.func7, Try.ntmps7
    go_wp2_with (go_at_call 20; refine (w20n a b c _ _ m0 m1 m2 hs').mono ?_; rintro e w' ⟨rfl, hw'⟩; subst w')
    go_ret
    exact ⟨rfl, Below.refl _ _⟩
end Go.Proofs.Qxb6602100a
