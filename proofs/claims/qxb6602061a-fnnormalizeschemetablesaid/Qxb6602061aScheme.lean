/-
  DERIVED. What a scheme is; schemeLen and zzuSchemeEnd find it.
-/
import Derived.Test.Qxb6602061aBytes
namespace Go.Proofs.Qxb6602061a
open Go.RowKit
def goodB (n : Int) : Bool := letB n || digB n || n == 43 || n == 45 || n == 46
def Good (l : List UInt8) (j : Nat) : Prop := ∃ c, l[j]? = some c ∧ goodB c.toNat = true ∧ (j = 0 → letB c.toNat = true)
def IsScheme (l : List UInt8) (n : Nat) : Prop := 1 ≤ n ∧ l[n]? = some 58 ∧ ∀ j, j < n → Good l j
def Pre (l : List UInt8) (k : Nat) : Prop := ∀ j, j < k → Good l j
def Sch (l : List UInt8) (m : Nat) : Prop := (m = 0 ∧ ∀ q, ¬ IsScheme l q) ∨ IsScheme l m
theorem good_colon : goodB ((58 : UInt8).toNat : Int) = false := by decide
theorem not_good_colon {l : List UInt8} {j : Nat} (h : Good l j) : l[j]? ≠ some 58 := by
  obtain ⟨c, h1, h2, _⟩ := h
  rw [h1]
  intro e
  simp at e
  rw [e] at h2
  exact absurd h2 (by decide)
theorem pre_succ {l : List UInt8} {k : Nat} (h : Pre l k) (hg : Good l k) : Pre l (k + 1) := by
  intro j hj
  by_cases e : j = k
  · subst e; exact hg
  · exact h j (by omega)
theorem isScheme_unique {l : List UInt8} {n m : Nat} (h1 : IsScheme l n) (h2 : IsScheme l m) : n = m := by
  rcases Nat.lt_trichotomy n m with h | h | h
  · exact absurd h1.2.1 (not_good_colon (h2.2.2 n h))
  · exact h
  · exact absurd h2.2.1 (not_good_colon (h1.2.2 m h))
theorem sch_unique {l : List UInt8} {n : Nat} (h1 : Sch l n) {m : Nat} (h2 : IsScheme l m) : n = m := by
  rcases h1 with ⟨_, h⟩ | h
  · exact absurd h2 (h m)
  · exact isScheme_unique h h2
theorem sch_colon {l : List UInt8} {k : Nat} (h : Pre l k) (hk : l[k]? = some 58) : Sch l k := by
  rcases Nat.eq_zero_or_pos k with rfl | hp
  · refine .inl ⟨rfl, fun q hq => ?_⟩
    exact not_good_colon (hq.2.2 0 (by have := hq.1; omega)) hk
  · exact .inr ⟨hp, hk, h⟩
theorem sch_bad {l : List UInt8} {k : Nat} (h : Pre l k) (hk : l[k]? ≠ some 58) (hg : ¬ Good l k) : Sch l 0 := by
  refine .inl ⟨rfl, fun q hq => ?_⟩
  rcases Nat.lt_trichotomy q k with h1 | h1 | h1
  · exact not_good_colon (h q h1) hq.2.1
  · subst h1; exact hk hq.2.1
  · exact hg (hq.2.2 k h1)
theorem sch_end {l : List UInt8} (h : Pre l l.length) : Sch l 0 := by
  refine .inl ⟨rfl, fun q hq => ?_⟩
  have hlt : q < l.length := by
    rcases Nat.lt_or_ge q l.length with h | h
    · exact h
    · have := hq.2.1; rw [List.getElem?_eq_none h] at this; cases this
  exact not_good_colon (h q hlt) hq.2.1
theorem getElem_l (p : ByteArray) (k : Nat) (h : k < p.size) : p.data.toList[k]? = some p[k] := by
  rw [Array.getElem?_toList]
  exact Array.getElem?_eq_getElem h
theorem byte_bd (b : UInt8) : (0 : Int) ≤ b.toNat ∧ (b.toNat : Int) ≤ 255 := by
  have := UInt8.toNat_lt b
  omega
theorem byte_of {b : UInt8} {n : Nat} (hn : n < 256) (h : (b.toNat : Int) = n) : b = UInt8.ofNat n := by
  apply UInt8.toNat_inj.1
  rw [UInt8.toNat_ofNat_of_lt' (by simpa using hn)]
  omega
def tailB (n : Int) : Bool := digB n || n == 43 || n == 45 || n == 46
theorem good_of {p : ByteArray} {k : Nat} (h : k < p.size) {n : Int} (hn : (p[k].toNat : Int) = n) (hl : letB n = true ∨ (0 < k ∧ tailB n = true)) : Good p.data.toList k := by
  refine ⟨p[k], getElem_l p k h, ?_, ?_⟩
  · rw [hn]
    rcases hl with h | ⟨_, h⟩
    · simp [goodB, h]
    · unfold tailB at h
      simp [goodB] at h ⊢
      rcases h with ((h | h) | h) | h <;> simp [h]
  · intro e
    rw [hn]
    rcases hl with h | ⟨h, _⟩
    · exact h
    · omega
theorem bad_of {p : ByteArray} {k : Nat} (h : k < p.size) {n : Int} (hn : (p[k].toNat : Int) = n) (hl : letB n = false) (ht : k = 0 ∨ tailB n = false) : ¬ Good p.data.toList k := by
  rintro ⟨c, h1, h2, h3⟩
  rw [getElem_l p k h] at h1
  simp at h1
  subst h1
  rw [hn] at h2 h3
  rcases ht with ht | ht
  · rw [h3 ht] at hl; cases hl
  · unfold tailB at ht
    simp at ht
    simp [goodB, hl, ht] at h2
theorem colon_of {p : ByteArray} {k : Nat} (h : k < p.size) {n : Int} (hn : (p[k].toNat : Int) = n) (hc : (n == 58) = true) : p.data.toList[k]? = some 58 := by
  rw [getElem_l p k h]
  have : n = 58 := by simpa using hc
  have h2 : p[k] = UInt8.ofNat 58 := byte_of (n := 58) (by omega) (by rw [hn, this]; rfl)
  rw [h2]
  rfl
theorem ncolon_of {p : ByteArray} {k : Nat} (h : k < p.size) {n : Int} (hn : (p[k].toNat : Int) = n) (hc : (n == 58) = false) : p.data.toList[k]? ≠ some 58 := by
  rw [getElem_l p k h]
  intro e
  simp at e
  rw [e] at hn
  rw [← hn] at hc
  exact absurd hc (by decide)
set_option maxHeartbeats 1000000 in
theorem w31 (p : ByteArray) (w : World) (hs : p.size ≤ 1048576) :
    Calls Try.prog 31 #[.string p] w fun e w' => ∃ m : Nat, e = .returned (.int .i64 m) ∧ Sch p.data.toList m ∧ m ≤ p.size ∧ w' = w := by
  go_enter Try.func31, Try.ntmps31
  go_wp2
  go_loop [3] (fun i => ∃ k : Nat, k ≤ p.size ∧ i = .int .i64 k ∧ Pre p.data.toList k) (fun i => p.size - (intOf i).toNat)
  case atStart => exact ⟨0, Nat.zero_le _, rfl, fun j hj => by omega⟩
  case round =>
    obtain ⟨k, hk, rfl, hpre⟩ := hrel
    have HP : Hid (Pre p.data.toList k) := hpre
    clear hpre
    by_cases hlt : k < p.size
    · obtain ⟨n, hn⟩ : ∃ n : Int, (p[k].toNat : Int) = n := ⟨_, rfl⟩
      have hb := byte_bd p[k]
      rw [hn] at hb
      obtain ⟨hb0, hb1⟩ := hb
      cases hl : letB n with
      | true =>
        go_wp2_with (go_at_call 42; refine (w42 n _ hb0 hb1).mono ?_; rintro e w' ⟨rfl, hw'⟩; subst w')
        refine ⟨⟨k + 1, by omega, by go_num, pre_succ HP.out (good_of hlt hn (.inl hl))⟩, by simp [intOf]; omega⟩
      | false =>
        go_wp2_with (first | (go_at_call 42; refine (w42 n _ hb0 hb1).mono ?_; rintro e w' ⟨rfl, hw'⟩; subst w') | (go_at_call 43; refine (w43 n _ hb0 hb1).mono ?_; rintro e w' ⟨rfl, hw'⟩; subst w'))
        all_goals first
          | (refine ⟨⟨k + 1, by omega, by go_num, pre_succ HP.out (good_of hlt hn (.inr ⟨‹0 < k›, ?_⟩))⟩, by simp [intOf]; omega⟩
             simp only [tailB, Bool.or_eq_true]
             first
               | exact .inl (.inl (.inl ‹digB n = true›))
               | exact .inl (.inl (.inr (beq_iff_eq.2 ‹n = 43›)))
               | exact .inl (.inr (beq_iff_eq.2 ‹n = 45›))
               | (rcases ‹((n == 43) = true ∨ (n == 45) = true) ∨ (n == 46) = true› with (h | h) | h
                  · exact .inl (.inl (.inr h))
                  · exact .inl (.inr h)
                  · exact .inr h))
          | (have hc : (n == 58) = true := by assumption
             go_ret
             exact ⟨k, rfl, sch_colon HP.out (colon_of hlt hn hc), by omega, rfl⟩)
          | (have hc : (n == 58) = false := by assumption
             have h0 : ¬ 0 < k := by assumption
             go_ret
             exact ⟨0, rfl, sch_bad HP.out (ncolon_of hlt hn hc) (bad_of hlt hn hl (.inl (by omega))), by omega, rfl⟩)
          | (have hc : (n == 58) = false := by assumption
             have h1 : ((n == 43) = false ∧ (n == 45) = false) ∧ (n == 46) = false := by assumption
             have h2 : ¬ digB n = true := by assumption
             have ht : tailB n = false := by simp only [tailB, h1.1.1, h1.1.2, h1.2, Bool.or_false]; simpa using h2
             go_ret
             exact ⟨0, rfl, sch_bad HP.out (ncolon_of hlt hn hc) (bad_of hlt hn hl (.inr ht)), by omega, rfl⟩)
    · have hke : k = p.data.toList.length := by simp; omega
      have hge : p.size ≤ k := by omega
      have HK : Hid (k = p.data.toList.length) := hke
      clear hke hlt
      go_wp2
      go_ret
      have h := HP.out
      rw [HK.out] at h
      exact ⟨0, rfl, sch_end h, by omega, rfl⟩
def SchE (l : List UInt8) (j : Int) : Prop := (j = -1 ∧ ∀ q, ¬ IsScheme l q) ∨ ∃ m : Nat, j = m ∧ IsScheme l m
def NoColon (l : List UInt8) (k : Nat) : Prop := ∀ j, j < k → l[j]? ≠ some 58
theorem nocolon_succ {l : List UInt8} {k : Nat} (h : NoColon l k) (hk : l[k]? ≠ some 58) : NoColon l (k + 1) := by
  intro j hj
  by_cases e : j = k
  · subst e; exact hk
  · exact h j (by omega)
theorem scheme_at {l : List UInt8} {k : Nat} (h : NoColon l k) (hk : l[k]? = some 58) {q : Nat} (hq : IsScheme l q) : q = k := by
  rcases Nat.lt_trichotomy q k with h1 | h1 | h1
  · exact absurd hq.2.1 (h q h1)
  · exact h1
  · exact absurd hk (not_good_colon (hq.2.2 k h1))
theorem schE_end {l : List UInt8} (h : NoColon l l.length) : SchE l (-1) := by
  refine .inl ⟨rfl, fun q hq => ?_⟩
  have hlt : q < l.length := by
    rcases Nat.lt_or_ge q l.length with h | h
    · exact h
    · have := hq.2.1; rw [List.getElem?_eq_none h] at this; cases this
  exact h q hlt hq.2.1
theorem schE_zero {l : List UInt8} (hk : l[0]? = some 58) : SchE l (-1) := by
  refine .inl ⟨rfl, fun q hq => ?_⟩
  have := scheme_at (k := 0) (fun j hj => by omega) hk hq
  have := hq.1
  omega
theorem schE_bad {l : List UInt8} {k i : Nat} (h : NoColon l k) (hk : l[k]? = some 58) (hi : i < k) (hg : ¬ Good l i) : SchE l (-1) := by
  refine .inl ⟨rfl, fun q hq => ?_⟩
  have e := scheme_at h hk hq
  subst e
  exact hg (hq.2.2 i hi)
theorem pre_one {l : List UInt8} (h : Good l 0) : Pre l 1 := by
  intro j hj
  have : j = 0 := by omega
  subst this
  exact h
set_option maxHeartbeats 2000000 in
theorem w14 (p : ByteArray) (w : World) (hs : p.size ≤ 1048576) :
    Calls Try.prog 14 #[.string p] w fun e w' => ∃ j : Int, e = .returned (.int .i64 j) ∧ SchE p.data.toList j ∧ j ≤ p.size ∧ w' = w := by
  go_enter Try.func14, Try.ntmps14
  go_wp2
  go_loop [3, 4] (fun c i => ∃ k : Nat, k ≤ p.size ∧ i = .int .i64 k ∧ c = .int .i64 (-1) ∧ NoColon p.data.toList k) (fun _ i => p.size - (intOf i).toNat)
  case atStart => exact ⟨0, Nat.zero_le _, rfl, rfl, fun j hj => by omega⟩
  case round =>
    obtain ⟨k, hk, rfl, rfl, hno⟩ := hrel
    have HN : Hid (NoColon p.data.toList k) := hno
    clear hno
    by_cases hlt : k < p.size
    · obtain ⟨n, hn⟩ : ∃ n : Int, (p[k].toNat : Int) = n := ⟨_, rfl⟩
      cases hc : (n == 58) with
      | false =>
        go_wp2
        refine ⟨⟨k + 1, by omega, by go_num, rfl, nocolon_succ HN.out (ncolon_of hlt hn hc)⟩, by simp [intOf]; omega⟩
      | true =>
        have HC : Hid (p.data.toList[k]? = some 58) := colon_of hlt hn hc
        rcases Nat.eq_zero_or_pos k with hk0 | hkp
        · subst hk0
          go_wp2
          go_ret
          exact ⟨-1, rfl, schE_zero HC.out, by omega, rfl⟩
        · obtain ⟨n0, hn0⟩ : ∃ n : Int, (p[0].toNat : Int) = n := ⟨_, rfl⟩
          have hb := byte_bd p[0]
          rw [hn0] at hb
          obtain ⟨hb0, hb1⟩ := hb
          have h0 : 0 < p.size := by omega
          have hkd : decide (k < 1) = false := by simp; omega
          cases hl : letB n0 with
          | false =>
            have HB : Hid (¬ Good p.data.toList 0) := bad_of h0 hn0 hl (.inl rfl)
            go_wp2_with (go_at_call 38; refine (w38 n0 _ hb0 hb1).mono ?_; rintro e w' ⟨rfl, hw'⟩; subst w')
            go_ret
            exact ⟨-1, rfl, schE_bad HN.out HC.out hkp HB.out, by omega, rfl⟩
          | true =>
            have HB : Hid (Good p.data.toList 0) := good_of h0 hn0 (.inl hl)
            go_wp2_with (go_at_call 38; refine (w38 n0 _ hb0 hb1).mono ?_; rintro e w' ⟨rfl, hw'⟩; subst w')
            go_loop [5] (fun i => ∃ q : Nat, 1 ≤ q ∧ q ≤ k ∧ i = .int .i64 q ∧ Pre p.data.toList q) (fun i => k - (intOf i).toNat)
            case atStart => exact ⟨1, Nat.le_refl _, hkp, rfl, pre_one HB.out⟩
            case round =>
              obtain ⟨q, hq1, hqk, rfl, hpre⟩ := hrel
              have HP : Hid (Pre p.data.toList q) := hpre
              clear hpre hc hn hl hn0 hb0 hb1
              by_cases hql : q < k
              · have hqs : q < p.size := by omega
                obtain ⟨m, hm⟩ : ∃ m : Int, (p[q].toNat : Int) = m := ⟨_, rfl⟩
                have hb := byte_bd p[q]
                rw [hm] at hb
                obtain ⟨hb0, hb1⟩ := hb
                cases hg : (letB m || tailB m) with
                | true =>
                  have HG : Hid (Good p.data.toList q) := good_of hqs hm (by simp at hg; rcases hg with h | h; exact .inl h; exact .inr ⟨by omega, h⟩)
                  cases hl : letB m with
                  | true =>
                    go_wp2_with (go_at_call 38; refine (w38 m _ hb0 hb1).mono ?_; rintro e w' ⟨rfl, hw'⟩; subst w')
                    refine ⟨⟨q + 1, by omega, by omega, by go_num, pre_succ HP.out HG.out⟩, by simp [intOf]; omega⟩
                  | false =>
                    have ht : tailB m = true := by rw [hl] at hg; simpa using hg
                    have ht2 : (48 ≤ m ∧ m ≤ 57) ∨ (m < 48 ∧ (m == 43) = true) ∨ (m < 48 ∧ (m == 43) = false ∧ (m == 45) = true) ∨ (m < 48 ∧ (m == 43) = false ∧ (m == 45) = false ∧ (m == 46) = true) := by
                      unfold tailB digB at ht
                      simp at ht ⊢
                      omega
                    clear ht hg
                    rcases ht2 with ⟨h1, h2⟩ | ⟨h1, h2⟩ | ⟨h1, h2, h3⟩ | ⟨h1, h2, h3, h4⟩
                    all_goals
                      go_wp2_with (go_at_call 38; refine (w38 m _ hb0 hb1).mono ?_; rintro e w' ⟨rfl, hw'⟩; subst w')
                      all_goals exact ⟨⟨q + 1, by omega, by omega, by go_num, pre_succ HP.out HG.out⟩, by simp [intOf]; omega⟩
                | false =>
                  have hl : letB m = false := by simp at hg; simp [hg]
                  have ht : tailB m = false := by simp at hg; simp [hg]
                  have HG : Hid (¬ Good p.data.toList q) := bad_of hqs hm hl (.inr ht)
                  have ht2 : (m < 48 ∨ 57 < m) ∧ m ≠ 43 ∧ m ≠ 45 ∧ m ≠ 46 := by
                    unfold tailB digB at ht
                    simp at ht
                    omega
                  obtain ⟨hd, h43, h45, h46⟩ := ht2
                  have h43' : (m == 43) = false := by simpa using h43
                  have h45' : (m == 45) = false := by simpa using h45
                  have h46' : (m == 46) = false := by simpa using h46
                  clear ht hg h43 h45 h46
                  have hdd : decide (48 ≤ m) = false ∨ (48 ≤ m ∧ decide (m ≤ 57) = false) := by
                    rcases hd with h | h
                    · exact .inl (by simpa using h)
                    · exact .inr ⟨by omega, by simpa using h⟩
                  clear hd
                  rcases hdd with hd | ⟨hd1, hd⟩
                  all_goals
                    go_wp2_with (go_at_call 38; refine (w38 m _ hb0 hb1).mono ?_; rintro e w' ⟨rfl, hw'⟩; subst w')
                    go_ret
                    exact ⟨-1, rfl, schE_bad HN.out HC.out hql HG.out, by omega, rfl⟩
              · have hge : k ≤ q := by omega
                have hqe : q = k := by omega
                have HQ : Hid (q = k) := hqe
                clear hqe hql
                go_wp2
                go_ret
                have h := HP.out
                rw [HQ.out] at h
                exact ⟨k, rfl, .inr ⟨k, rfl, hkp, HC.out, h⟩, by omega, rfl⟩
    · have hke : k = p.data.toList.length := by simp; omega
      have hge : p.size ≤ k := by omega
      have HK : Hid (k = p.data.toList.length) := hke
      clear hke hlt
      go_wp2
      go_ret
      have h := HN.out
      rw [HK.out] at h
      exact ⟨-1, rfl, schE_end h, by omega, rfl⟩
end Go.Proofs.Qxb6602061a
