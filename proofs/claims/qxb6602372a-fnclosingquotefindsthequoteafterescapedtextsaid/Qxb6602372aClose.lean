/-
  DERIVED. WALK: closingQuote.
-/
import Derived.Test.Qxb6602372aPlain
import Derived.Lib.IndexLaws
import Derived.Deep.QuietTactic
import Derived.BigQuiet
import Derived.WalkSmall
import Derived.WalkMore
namespace Go.Proofs.Qxb6602372a
open Go.RowKit
theorem hide {p : Prop} (h : p) : Hid p := h
theorem unhide {p : Prop} (h : Hid p) : p := h
theorem bytes_back : ∀ l : List UInt8, Lib.bytesOf (l.map fun b => (b.toNat : Int)) = l
  | [] => rfl
  | b :: l => by
    have ih := bytes_back l
    have e : Lib.bytesOf ((b :: l).map fun b => (b.toNat : Int)) = UInt8.ofNat ((b.toNat : Int)).toNat :: Lib.bytesOf (l.map fun b => (b.toNat : Int)) := rfl
    rw [e, ih]
    simp
theorem c30 (a : Addr) (n c : Nat) (l : List UInt8) (x : Int) (w : World) (hn : l.length = n) (hc : ∀ i (h : i < l.length), w.cell? (a.add i) = some (.int .u8 l[i].toNat)) (hx : Lib.indexByte l 34 = x) :
    Calls Try.prog 30 #[.slice (some a) n c, .int .u8 34] w fun e w' => e = .returned (.int .i64 x) ∧ w' = w := by
  have h := Try.bytes_IndexByte_at a n c (l.map fun b => (b.toNat : Int)) 34 w (by simpa using hn) (fun i hi => by
    rw [hc i (by omega), List.getD_eq_getElem?_getD, List.getElem?_map, List.getElem?_eq_getElem (by omega)]
    rfl)
  rw [bytes_back] at h
  have e : (34 : Int).toNat.toUInt8 = 34 := by decide
  rw [e, hx] at h
  exact h
/-- Where the next quote stands. -/
theorem next_quote {D : List UInt8} {s e : Nat} (h : Ends D s e) (i : Nat) (hi : i ≤ e) : ∃ k : Nat, Lib.indexByte (D.drop i) 34 = k ∧ i + k ≤ e ∧ D[i + k]? = some 34 := by
  have hg := Lib.indexByte_ge (D.drop i) 34
  have he : (D.drop i)[e - i]? = some 34 := by
    rw [List.getElem?_drop, show i + (e - i) = e from by omega]
    exact h.at_
  by_cases h1 : Lib.indexByte (D.drop i) 34 = -1
  · exact absurd he (Lib.indexByte_none h1 _)
  · obtain ⟨k, hk⟩ : ∃ k : Nat, Lib.indexByte (D.drop i) 34 = k := ⟨(Lib.indexByte (D.drop i) 34).toNat, by omega⟩
    obtain ⟨h2, h3⟩ := Lib.indexByte_some hk
    refine ⟨k, hk, ?_, by rw [List.getElem?_drop] at h2; exact h2⟩
    rcases Nat.lt_or_ge (e - i) k with h4 | h4
    · exact absurd he (h3 _ h4)
    · omega
set_option maxRecDepth 100000 in
set_option maxHeartbeats 2000000 in
theorem w26 (D : List UInt8) (g cap s e : Nat) (w : World) (hD : D.length ≤ 1048576) (hcap : D.length ≤ cap) (hc : ∀ j (hj : j < D.length), w.cell? ⟨g, j, none⟩ = some (.int .u8 D[j].toNat)) (hE : Ends D s e) :
    Calls Try.prog 26 #[.slice (some ⟨g, 0, none⟩) D.length cap, .int .i64 s] w fun ex w' => ex = .returned (.int .i64 e) ∧ w' = w := by
  obtain ⟨n, hn⟩ : ∃ n, D.length = n := ⟨_, rfl⟩
  have hen : e < n := by rw [← hn]; exact hE.lt
  have hse := hE.le
  rw [hn] at hD hcap ⊢
  have HC := hide hc
  have HE := hide hE
  have HN := hide hn
  clear hc hE hn
  go_enter Try.func26, Try.ntmps26
  go_wp2
  go_loopw [5] (fun v wr => ∃ i : Nat, s ≤ i ∧ i ≤ e ∧ v = .int .i64 i ∧ wr = w) (fun v _ => e + 1 - (intOf v).toNat)
  case atStart => exact ⟨s, by omega, by omega, rfl, rfl⟩
  case round =>
    obtain ⟨i, hsi, hie, rfl, hw⟩ := hrel
    subst hw
    obtain ⟨k, hk, hke, hkq⟩ := next_quote (unhide HE) i hie
    have HK := hide hk
    have HKQ := hide hkq
    clear hk hkq
    obtain ⟨q, hq⟩ : ∃ q, i + k = q := ⟨_, rfl⟩
    have HQ := hide hq
    have hqn : q < n := by omega
    have hqs : s ≤ q := by omega
    have hqle : q ≤ e := by omega
    have hiq : i ≤ q := by omega
    have hkn : (0 : Int) ≤ (k : Int) := by omega
    have hcell : ∀ j (h : j < (D.drop i).length), wr.cell? ((⟨g, i, none⟩ : Addr).add j) = some (.int .u8 (D.drop i)[j].toNat) := by
      intro j h
      have hadd : (⟨g, i, none⟩ : Addr).add j = ⟨g, i + j, none⟩ := by unfold Addr.add; split <;> simp_all
      rw [List.length_drop] at h
      rw [hadd, unhide HC (i + j) (by omega), List.getElem_drop]
    have HCL := hide hcell
    have HLN : Hid ((D.drop i).length = n - i) := by show _ = _; rw [List.length_drop, unhide HN]
    have hkq : (k : Int) + (i : Int) = (q : Int) := by omega
    have HKI := hide hkq
    clear hcell hq hkq
    go_wp2_with fail
    refine (c30 ⟨g, i, none⟩ (n - i) _ (D.drop i) k _ (unhide HLN) (unhide HCL) (unhide HK)).mono ?_
    rintro ex w' ⟨rfl, hw'⟩
    subst w'
    go_wp2
    go_loopw [7, 8] (fun v7 v8 wr' => ∃ m : Nat, m ≤ q - s ∧ v7 = .int .i64 m ∧ v8 = .int .i64 ((q : Int) - 1 - (m : Int)) ∧ back (D.drop s) (q - s) = m + back (D.drop s) (q - s - m) ∧ wr' = wr) (fun v7 _ _ => q + 1 - (intOf v7).toNat)
    case atStart => exact ⟨0, Nat.zero_le _, rfl, by rw [← unhide HKI]; go_num, by simp, rfl⟩
    case round =>
      obtain ⟨m, hm, rfl, rfl, hb, hw⟩ := hrel
      subst hw
      have HB := hide hb
      clear hb
      by_cases hlt : m < q - s
      · have hjn : q - 1 - m < D.length := by rw [unhide HN]; omega
        have hcj : wr.cell? ⟨g, q - 1 - m, none⟩ = some (.int .u8 D[q - 1 - m].toNat) := unhide HC (q - 1 - m) hjn
        have hbs : back (D.drop s) (q - s - m) = if D[q - 1 - m] = 92 then back (D.drop s) (q - s - m - 1) + 1 else 0 := by
          have h1 := back_succ (D.drop s) (q - s - m - 1) (by rw [List.length_drop]; omega)
          rw [show q - s - m - 1 + 1 = q - s - m from by omega] at h1
          rw [h1, List.getElem_drop]
          simp only [show s + (q - s - m - 1) = q - 1 - m from by omega]
        have d1 : decide ((s : Int) ≤ (q : Int) - 1 - (m : Int)) = true := by simp; omega
        have hI0 : (0 : Int) ≤ (q : Int) - 1 - (m : Int) := by omega
        have hI1 : (q : Int) - 1 - (m : Int) < (n : Int) := by omega
        generalize D[q - 1 - m] = c at hcj hbs
        by_cases h92 : c = 92
        · rw [if_pos h92] at hbs
          have hc92 : (((c.toNat : Nat) : Int) == 92) = true := by rw [h92]; rfl
          have HBS := hide hbs
          clear h92 hbs
          go_wp2
          go_roundw
          case rel => exact ⟨m + 1, by omega, by go_num, by go_num, by rw [unhide HB, unhide HBS, show q - s - (m + 1) = q - s - m - 1 from by omega]; omega, by first | rfl | trivial⟩
          case measure => simp [intOf]; omega
        · rw [if_neg h92] at hbs
          have hc92 : (((c.toNat : Nat) : Int) == 92) = false := by
            rw [beq_eq_false_iff_ne]
            intro h
            exact h92 (UInt8.toNat_inj.1 (by show c.toNat = 92; omega))
          have hbe : back (D.drop s) (q - s) = m := by rw [unhide HB, hbs]; rfl
          clear h92 hbs
          have HBE := hide hbe
          clear hbe
          by_cases hqe : q = e
          · have hm2 : (m : Int) % 2 = 0 := by
              have h1 := (unhide HE).even
              rw [← hqe, unhide HBE] at h1
              omega
            have hmb : ((m : Int) % 2 == 0) = true := by rw [hm2]; rfl
            have HQE := hide hqe
            clear hm2 hqe
            go_wp2
            go_ret
            refine ⟨?_, rfl⟩
            rw [unhide HKI, unhide HQE]
            rfl
          · have hm2 : (m : Int) % 2 = 1 := by
              have h1 := (unhide HE).odd q hqs (by omega) (by rw [← unhide HQ]; exact unhide HKQ)
              rw [unhide HBE] at h1
              omega
            have hmb : ((m : Int) % 2 == 0) = false := by rw [hm2]; rfl
            clear hm2
            go_wp2
            go_roundw
            case rel => exact ⟨q + 1, by omega, by omega, by have h := unhide HKI; rw [Value.int.injEq]; exact ⟨rfl, by omega⟩, by first | rfl | trivial⟩
            case measure => simp [intOf]; omega
      · have hme : q - s - m = 0 := by omega
        have d1 : decide ((s : Int) ≤ (q : Int) - 1 - (m : Int)) = false := by simp; omega
        have hbe : back (D.drop s) (q - s) = m := by rw [unhide HB, hme]; rfl
        clear hlt
        have HBE := hide hbe
        clear hbe
        by_cases hqe : q = e
        · have hm2 : (m : Int) % 2 = 0 := by
            have h1 := (unhide HE).even
            rw [← hqe, unhide HBE] at h1
            omega
          have hmb : ((m : Int) % 2 == 0) = true := by rw [hm2]; rfl
          have HQE := hide hqe
          clear hm2 hqe
          go_wp2
          go_ret
          refine ⟨?_, rfl⟩
          rw [unhide HKI, unhide HQE]
          rfl
        · have hm2 : (m : Int) % 2 = 1 := by
            have h1 := (unhide HE).odd q hqs (by omega) (by rw [← unhide HQ]; exact unhide HKQ)
            rw [unhide HBE] at h1
            omega
          have hmb : ((m : Int) % 2 == 0) = false := by rw [hm2]; rfl
          clear hm2
          go_wp2
          go_roundw
          case rel => exact ⟨q + 1, by omega, by omega, by have h := unhide HKI; rw [Value.int.injEq]; exact ⟨rfl, by omega⟩, by first | rfl | trivial⟩
          case measure => simp [intOf]; omega
end Go.Proofs.Qxb6602372a
