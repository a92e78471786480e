/-
  DERIVED. WALK: blank runs the automaton.
-/
import Derived.Test.Qxb6602227aBlank10
namespace Go.Proofs.Qxb6602227a
open Go.RowKit
theorem c23 (s q : ByteArray) (l : List UInt8) (b : Bool) (w : World) (hl : q.data.toList = l) (hx : Lib.hasPrefix s.data.toList l = b) :
    Calls Try.prog 23 #[.string s, .string q] w fun e w' => e = .returned (.bool b) ∧ w' = w := by
  subst hx
  subst hl
  exact Try.strings_HasPrefix s q w
theorem c24 (s q : ByteArray) (l : List UInt8) (b : Bool) (w : World) (hs : s.size ≤ 9223372036854775807) (hl : q.data.toList = l) (hx : Lib.hasSuffix s.data.toList l = b) :
    Calls Try.prog 24 #[.string s, .string q] w fun e w' => e = .returned (.bool b) ∧ w' = w := by
  subst hx
  subst hl
  exact Try.strings_HasSuffix s q w hs
theorem c25 (s q z : ByteArray) (l : List UInt8) (w : World) (hs : s.size ≤ 9223372036854775807) (hl : q.data.toList = l) (hx : Lib.trimSuffix s.data.toList l = z.data.toList) :
    Calls Try.prog 25 #[.string s, .string q] w fun e w' => e = .returned (.string z) ∧ w' = w := by
  have h := Try.strings_TrimSuffix s q w hs
  rw [hl, hx] at h
  exact h
theorem c26 (s q : ByteArray) (l : List UInt8) (x M : Int) (w : World) (hs : s.size ≤ 1048576) (hm : w.cell? ⟨0, 0, none⟩ = some (.int .i64 M)) (hl : q.data.toList = l) (hx : Lib.index s.data.toList l = x) :
    Calls Try.prog 26 #[.string s, .string q] w fun e w' => e = .returned (.int .i64 x) ∧ w' = w := by
  subst hx
  subst hl
  exact Try.strings_Index s q M w (by omega) hm
/-- How a text that is not white space begins. -/
theorem begins (c : UInt8) (l : List UInt8) (hc : csp c = false) : (∃ r, c :: l = 47 :: 47 :: r) ∨ (∃ r, c :: l = 47 :: 42 :: r) ∨ (Lib.hasPrefix (c :: l) [47, 47] = false ∧ Lib.hasPrefix (c :: l) [47, 42] = false ∧ run .out (c :: l) = false) := by
  by_cases h47 : c = 47
  · subst h47
    cases l with
    | nil => exact .inr (.inr ⟨rfl, rfl, rfl⟩)
    | cons d r =>
      by_cases h1 : d = 47
      · subst h1
        exact .inl ⟨r, rfl⟩
      · by_cases h2 : d = 42
        · subst h2
          exact .inr (.inl ⟨r, rfl⟩)
        · refine .inr (.inr ⟨?_, ?_, ?_⟩)
          · unfold Lib.hasPrefix
            simp [List.isPrefixOf]
            exact fun e => h1 e.symm
          · unfold Lib.hasPrefix
            simp [List.isPrefixOf]
            exact fun e => h2 e.symm
          · rw [out_47, sl_no d r h1 h2]
  · refine .inr (.inr ⟨?_, ?_, out_no c l hc h47⟩)
    · unfold Lib.hasPrefix
      simp [List.isPrefixOf]
      exact fun e => absurd e.symm h47
    · unfold Lib.hasPrefix
      simp [List.isPrefixOf]
      exact fun e => absurd e.symm h47
set_option maxRecDepth 100000 in
set_option maxHeartbeats 8000000 in
theorem w18 (p : ByteArray) (w : World) (M : Int) (hM : w.cell? ⟨0, 0, none⟩ = some (.int .i64 M)) (hs : p.size ≤ 1048576) (b : Bool) (hb : run .out p.data.toList = b) : Calls Try.prog 18 #[.string p] w fun e w' => e = .returned (.bool b) ∧ w' = w := by
  have HB := hide hb
  have HM := hide hM
  clear hb hM
  go_enter Try.func18, Try.ntmps18
  go_wp2
  go_loopw [3] (fun v wr => ∃ k : Nat, k ≤ p.size ∧ v = .int .i64 k ∧ run .out (p.data.toList.drop k) = b ∧ wr = w) (fun v _ => p.size - (intOf v).toNat)
  case atStart => exact ⟨0, Nat.zero_le _, rfl, unhide HB, rfl⟩
  case round =>
    obtain ⟨k, hk, rfl, hR, hw⟩ := hrel
    subst hw
    have HR := hide hR
    clear hR HB
    by_cases hlt : k < p.size
    · have hI0 : (0 : Int) ≤ (k : Int) := by omega
      have hI1 : (k : Int) < (p.size : Int) := by omega
      have hI2 : (k : Int) ≤ (p.size : Int) := by omega
      have hdI : decide ((k : Int) < (p.size : Int)) = true := by simp; omega
      have hdN : decide (k < p.size) = true := by simp; omega
      have hd := ba_drop p k hlt
      have HD := hide hd
      obtain ⟨R, hRe⟩ : ∃ R, p.extract k p.size = R := ⟨_, rfl⟩
      have hRl : R.data.toList = p.data.toList.drop k := by rw [← hRe]; exact Lib.extract_to_end p k
      have hRs : R.size = p.size - k := by rw [size_list, hRl, List.length_drop, ← size_list]
      have HRE := hide hRe
      have HRL := hide hRl
      have HRS := hide hRs
      obtain ⟨x, hx⟩ : ∃ x, csp p[k] = x := ⟨_, rfl⟩
      have h22 := w22 p[k]
      rw [hx] at h22
      have H22 := hide h22
      have HX := hide hx
      clear h22 hd hRe hRl hRs hx
      cases x with
      | true =>
        have HNX : Hid (run .out (p.data.toList.drop (k + 1)) = b) := by show _ = _; rw [← unhide HR, unhide HD, out_sp _ _ (unhide HX)]
        clear HR
        go_wp2_with (go_at_call 22; refine (unhide H22 _).mono ?_; rintro e w' ⟨rfl, hw'⟩; subst w')
        go_roundw
        case rel => exact ⟨k + 1, by omega, by go_num, unhide HNX, by first | rfl | trivial⟩
        case measure => simp [intOf]; omega
      | false =>
        go_wp2_with fail
        rw [unhide HRE]
        refine (unhide H22 _).mono ?_
        rintro e w' ⟨rfl, hw'⟩
        subst w'
        have hcon : R.data.toList = p[k] :: p.data.toList.drop (k + 1) := by rw [unhide HRL, unhide HD]
        have HRR : Hid (run .out R.data.toList = b) := by show _ = _; rw [unhide HRL]; exact unhide HR
        have hRs1 : R.size + k ≤ p.size := by have := unhide HRS; omega
        have hRs2 : p.size ≤ R.size + k := by have := unhide HRS; omega
        clear HR
        rcases begins p[k] (p.data.toList.drop (k + 1)) (unhide HX) with ⟨r, hr⟩ | ⟨r, hr⟩ | ⟨hA, hB, hC⟩
        · rw [← hcon] at hr
          have HA : Hid (Lib.hasPrefix R.data.toList [47, 47] = true) := by show _ = _; rw [hr]; simp [Lib.hasPrefix]
          have h2 : 2 ≤ R.size := by rw [size_list, hr]; simp
          have HST : Hid (run (.ln (abAt R.data.toList 2) (crAt R.data.toList 2)) (R.data.toList.drop 2) = b) := by show _ = _; rw [← unhide HRR, hr]; rfl
          clear hr hcon
          go_wp2_with (go_at_call 23; refine (c23 _ _ [47, 47] _ _ rfl (unhide HA)).mono ?_; rintro e w' ⟨rfl, hw'⟩; subst w')
          go_loopw [5, 6] (fun v5 v6 wr' => ∃ j : Nat, 2 ≤ j ∧ j ≤ R.size ∧ v5 = .int .i64 R.size ∧ v6 = .int .i64 j ∧ run (.ln (abAt R.data.toList j) (crAt R.data.toList j)) (R.data.toList.drop j) = b ∧ wr' = wr) (fun _ v6 _ => R.size - (intOf v6).toNat)
          case atStart => exact ⟨2, by omega, by omega, rfl, rfl, unhide HST, rfl⟩
          case round =>
            obtain ⟨j, hj2, hj, rfl, rfl, hJ, hw⟩ := hrel
            subst hw
            have HJ := hide hJ
            clear hJ
            by_cases hjl : j < R.size
            · have hJ0 : (0 : Int) ≤ (j : Int) := by omega
              have hJ1 : (j : Int) < (R.size : Int) := by omega
              have hJ2 : (j : Int) ≤ (R.size : Int) := by omega
              have hjI : decide ((j : Int) < (R.size : Int)) = true := by simp; omega
              have hjN : decide (j < R.size) = true := by simp; omega
              have hdj := ba_drop R j hjl
              have HDJ := hide hdj
              have hgj := getElem_l R j hjl
              have hab := ab_next R.data.toList j _ hgj
              have hcr := cr_next R.data.toList j _ hgj
              have hgo : ¬ (R[j] = 10 ∧ abAt R.data.toList j = false ∧ crAt R.data.toList j = false) → run (.ln (abAt R.data.toList (j + 1)) (crAt R.data.toList (j + 1))) (R.data.toList.drop (j + 1)) = b := by
                intro h
                rw [hab, hcr, ← ln_go _ _ R[j] _ h, ← hdj]
                exact unhide HJ
              have HGO := hide hgo
              clear hdj hgj hab hcr hgo
              by_cases h10 : R[j] = 10
              · have m10 := byte_is _ 10 (by omega) h10
                simp only [Int.cast_ofNat_Int] at m10
                obtain ⟨z, hz⟩ : ∃ z : ByteArray, Lib.trimSuffix (R.extract 0 j).data.toList [13] = z.data.toList := ⟨⟨(Lib.trimSuffix (R.extract 0 j).data.toList [13]).toArray⟩, by simp⟩
                have hzl : z.size ≤ 1048576 := by
                  rw [size_list, ← hz]
                  unfold Lib.trimSuffix
                  have : (R.extract 0 j).data.toList.length ≤ 1048576 := by rw [← size_list, ByteArray.size_extract]; omega
                  split
                  · rw [List.length_take]; omega
                  · exact this
                have hsf : Lib.hasSuffix z.data.toList [92] = (abAt R.data.toList j || crAt R.data.toList j) := by
                  rw [← hz, show (R.extract 0 j).data.toList = R.data.toList.take j from by simp]
                  exact suff_at R.data.toList j hj2 (by rw [← size_list]; omega)
                have hel : (R.extract 0 j).size ≤ 9223372036854775807 := by rw [ByteArray.size_extract]; omega
                have HZ := hide hz
                obtain ⟨y, hy⟩ : ∃ y, (abAt R.data.toList j || crAt R.data.toList j) = y := ⟨_, rfl⟩
                rw [hy] at hsf
                have HSF := hide hsf
                clear hz hsf
                cases y with
                | false =>
                  obtain ⟨hab, hcr⟩ : abAt R.data.toList j = false ∧ crAt R.data.toList j = false := by simpa using hy
                  have HNX : Hid (run .out (p.data.toList.drop (k + j)) = b) := by
                    show _ = _
                    have h := unhide HJ
                    rw [hab, hcr, unhide HDJ, h10, ln_end] at h
                    rw [← List.drop_drop, ← unhide HRL, unhide HDJ, h10, out_sp 10 _ (by decide)]
                    exact h
                  clear hab hcr hy h10 HJ HGO
                  go_wp2_with (first
                    | (go_at_call 25; refine (c25 _ _ z [13] _ hel rfl (unhide HZ)).mono ?_; rintro e w' ⟨rfl, hw'⟩; subst w')
                    | (go_at_call 24; refine (c24 _ _ [92] false _ (by omega) rfl (unhide HSF)).mono ?_; rintro e w' ⟨rfl, hw'⟩; subst w'))
                  go_roundw
                  case rel => exact ⟨k + j, by omega, by go_num, unhide HNX, by first | rfl | trivial⟩
                  case measure => simp [intOf]; omega
                | true =>
                  have HNX := hide (unhide HGO (fun h => by rw [h.2.1, h.2.2] at hy; cases hy))
                  clear hy h10 HJ HGO
                  go_wp2_with (first
                    | (go_at_call 25; refine (c25 _ _ z [13] _ hel rfl (unhide HZ)).mono ?_; rintro e w' ⟨rfl, hw'⟩; subst w')
                    | (go_at_call 24; refine (c24 _ _ [92] true _ (by omega) rfl (unhide HSF)).mono ?_; rintro e w' ⟨rfl, hw'⟩; subst w'))
                  go_roundw
                  case rel => exact ⟨j + 1, by omega, by omega, rfl, by go_num, unhide HNX, by first | rfl | trivial⟩
                  case measure => simp [intOf]; omega
              · have m10 := byte_ne _ 10 (by omega) h10
                simp only [Int.cast_ofNat_Int] at m10
                have HNX := hide (unhide HGO (fun h => h10 h.1))
                clear h10 HJ HGO
                go_wp2
                go_roundw
                case rel => exact ⟨j + 1, by omega, by omega, rfl, by go_num, unhide HNX, by first | rfl | trivial⟩
                case measure => simp [intOf]; omega
            · have hjI : decide ((j : Int) < (R.size : Int)) = false := by simp; omega
              have hjN : decide (j < R.size) = false := by simp; omega
              have hbe : true = b := by
                have h := unhide HJ
                rw [List.drop_of_length_le (by rw [← size_list]; omega)] at h
                exact h
              have HNX : Hid (run .out (p.data.toList.drop (k + R.size)) = b) := by
                show _ = _
                rw [List.drop_of_length_le (by rw [← size_list]; omega)]
                exact hbe
              clear hbe hjl HJ
              go_wp2
              go_roundw
              case rel => exact ⟨k + R.size, by omega, by go_num, unhide HNX, by first | rfl | trivial⟩
              case measure => simp [intOf]; omega
        · rw [← hcon] at hr
          have HA : Hid (Lib.hasPrefix R.data.toList [47, 47] = false) := by show _ = _; rw [hr]; rfl
          have HB : Hid (Lib.hasPrefix R.data.toList [47, 42] = true) := by show _ = _; rw [hr]; simp [Lib.hasPrefix]
          have h2 : 2 ≤ R.size := by rw [size_list, hr]; simp
          obtain ⟨x, hx⟩ : ∃ x, Lib.index r [42, 47] = x := ⟨_, rfl⟩
          have hrun : b = if x = -1 then false else run .out (r.drop (x.toNat + 2)) := by
            rw [← unhide HRR, hr, ← hx, ← bl_index r]
            rfl
          have HIX : Hid (Lib.index (R.extract 2 R.size).data.toList [42, 47] = x) := by
            show _ = _
            rw [Lib.extract_to_end, hr, ← hx]
            rfl
          have hxg := Lib.index_ge r [42, 47]
          have hxr := Lib.index_room r [42, 47]
          have hrl1 : r.length + 2 ≤ R.size := by rw [size_list, hr]; simp
          have hrl2 : R.size ≤ r.length + 2 := by rw [size_list, hr]; simp
          have hrd : ∀ n, r.drop n = p.data.toList.drop (k + (n + 2)) := by
            intro n
            rw [← List.drop_drop, ← unhide HRL, hr]
            rfl
          have HRD := hide hrd
          rw [hx] at hxg hxr
          have hM' := unhide HM
          clear hr hcon hx hrd
          by_cases hneg : x = -1
          · subst hneg
            have hbf : b = false := by rw [hrun, if_pos rfl]
            subst hbf
            clear hrun hxr hM'
            go_wp2_with (first
              | (go_at_call 23; refine (c23 _ _ [47, 47] _ _ rfl (unhide HA)).mono ?_; rintro e w' ⟨rfl, hw'⟩; subst w')
              | (go_at_call 23; refine (c23 _ _ [47, 42] _ _ rfl (unhide HB)).mono ?_; rintro e w' ⟨rfl, hw'⟩; subst w')
              | (go_at_call 26; refine (c26 _ _ [42, 47] (-1) M _ ?_ (unhide HM) rfl (unhide HIX)).mono ?_; (rw [ByteArray.size_extract]; omega); rintro e w' ⟨rfl, hw'⟩; subst w'))
            go_ret
            exact ⟨rfl, rfl⟩
          · obtain ⟨n, rfl⟩ : ∃ n : Nat, x = n := ⟨x.toNat, by omega⟩
            have hroom : n + 2 ≤ r.length := by
              simp at hxr
              omega
            have HNX : Hid (run .out (p.data.toList.drop (k + (n + 2 + 2))) = b) := by
              show _ = _
              rw [hrun, if_neg hneg, ← unhide HRD, Int.toNat_natCast]
            clear hrun hxr hM' hneg hxg
            go_wp2_with (first
              | (go_at_call 23; refine (c23 _ _ [47, 47] _ _ rfl (unhide HA)).mono ?_; rintro e w' ⟨rfl, hw'⟩; subst w')
              | (go_at_call 23; refine (c23 _ _ [47, 42] _ _ rfl (unhide HB)).mono ?_; rintro e w' ⟨rfl, hw'⟩; subst w')
              | (go_at_call 26; refine (c26 _ _ [42, 47] n M _ ?_ (unhide HM) rfl (unhide HIX)).mono ?_; (rw [ByteArray.size_extract]; omega); rintro e w' ⟨rfl, hw'⟩; subst w'))
            go_roundw
            case rel => exact ⟨k + (n + 2 + 2), by omega, by rw [Value.int.injEq]; exact ⟨rfl, by omega⟩, unhide HNX, by first | rfl | trivial⟩
            case measure => simp [intOf]; omega
        · rw [← hcon] at hA hB hC
          have HA := hide hA
          have HB := hide hB
          have hbf : b = false := by rw [← unhide HRR, hC]
          subst hbf
          clear hA hB hC hcon HRR
          go_wp2_with (first
            | (go_at_call 23; refine (c23 _ _ [47, 47] _ _ rfl (unhide HA)).mono ?_; rintro e w' ⟨rfl, hw'⟩; subst w')
            | (go_at_call 23; refine (c23 _ _ [47, 42] _ _ rfl (unhide HB)).mono ?_; rintro e w' ⟨rfl, hw'⟩; subst w'))
          go_ret
          exact ⟨rfl, rfl⟩
    · have hge : p.size ≤ k := by omega
      have hdI : decide ((k : Int) < (p.size : Int)) = false := by simp; omega
      have hdN : decide (k < p.size) = false := by simp; omega
      have hE : p.data.toList.drop k = [] := List.drop_of_length_le (by rw [← size_list]; omega)
      have hbe : true = b := by
        have h := unhide HR
        rw [hE] at h
        exact h
      subst hbe
      clear hlt hE HR
      go_wp2
      go_ret
      exact ⟨rfl, rfl⟩
end Go.Proofs.Qxb6602227a
