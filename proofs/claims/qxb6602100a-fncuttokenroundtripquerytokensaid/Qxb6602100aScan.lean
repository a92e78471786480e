/-
  DERIVED. WALK: the scan model.
-/
import Derived.Test.Qxb6602100aModel
import Derived.Test.Qxb6602100aCut
import Derived.Deep.DeepCutAuto
import Derived.Deep.CutBlock
namespace Go.Proofs.Qxb6602100a
open Go.RowKit
def G (chars u : List UInt8) (k : Nat) : Prop := Lib.indexAny u chars = lift k (Lib.indexAny (u.drop k) chars)
theorem G_zero (chars u : List UInt8) : G chars u 0 := by
  unfold G lift
  simp
theorem indexAny_cons (chars : List UInt8) (b : UInt8) (l : List UInt8) : Lib.indexAny (b :: l) chars = if chars.contains b = true then 0 else up (Lib.indexAny l chars) := by
  unfold up
  rw [Lib.indexAny]
  simp only [beq_iff_eq]
theorem G_succ {chars : List UInt8} {u : ByteArray} {k : Nat} (h : G chars u.data.toList k) (hk : k < u.size) (hc : chars.contains u[k] = false) : G chars u.data.toList (k + 1) := by
  unfold G at h ⊢
  rw [h, ba_drop u k hk, indexAny_cons, if_neg (by rw [hc]; decide), lift_up _ _ (Lib.indexAny_ge _ _)]
theorem G_hit {chars : List UInt8} {u : ByteArray} {k : Nat} (h : G chars u.data.toList k) (hk : k < u.size) (hc : chars.contains u[k] = true) : Lib.indexAny u.data.toList chars = k := by
  unfold G at h
  rw [h, ba_drop u k hk, indexAny_cons, if_pos hc]
  simp [lift]
theorem G_end {chars : List UInt8} {u : ByteArray} {k : Nat} (h : G chars u.data.toList k) (hk : u.size ≤ k) : Lib.indexAny u.data.toList chars = -1 := by
  unfold G at h
  rw [h, List.drop_of_length_le (by rw [← size_list]; exact hk)]
  rfl
theorem getD_at (u : ByteArray) (k : Nat) (hk : k < u.size) : u.data.toList.getD k 0 = u[k] := by
  rw [List.getD_eq_getElem?_getD, getElem_l u k hk]
  rfl
theorem off0_hit {u : ByteArray} {k : Nat} (h : G [58, 47, 63, 35] u.data.toList k) (hk : k < u.size) (hc : [58, 47, 63, 35].contains u[k] = true) : off0 u.data.toList = if 0 < k ∧ u[k] = 58 then k + 1 else 0 := by
  have h1 := G_hit h hk hc
  unfold off0
  rw [h1]
  simp only [Int.toNat_natCast, getD_at u k hk]
  by_cases h2 : 0 < k ∧ u[k] = 58
  · rw [if_pos h2, if_pos (by simp [h2.1, h2.2])]
  · rw [if_neg h2, if_neg (by simp; intro e; simpa [e] using h2)]
theorem off0_end {u : ByteArray} {k : Nat} (h : G [58, 47, 63, 35] u.data.toList k) (hk : u.size ≤ k) : off0 u.data.toList = 0 := by
  unfold off0
  rw [G_end h hk]
  rfl
theorem byte_eq (c : UInt8) (k : Nat) (hk : k < 256) (h : c = UInt8.ofNat k) : ((((c.toNat : Nat) : Int) == (k : Int)) = true) := by
  rw [h, UInt8.toNat_ofNat_of_lt' (by simpa using hk)]
  simp
theorem pre2 (u : ByteArray) (o : Nat) (h : o + 1 < u.size) : Lib.hasPrefix (u.data.toList.drop o) [47, 47] = ((u[o] == 47) && (u[o + 1] == 47)) := by
  unfold Lib.hasPrefix
  rw [ba_drop u o (by omega), ba_drop u (o + 1) h]
  simp only [List.isPrefixOf, Bool.and_true]
  rw [Bool.beq_comm, Bool.beq_comm (a := (47 : UInt8)) (b := u[o + 1])]
theorem pre2_short (u : ByteArray) (o : Nat) (h : ¬ o + 1 < u.size) : Lib.hasPrefix (u.data.toList.drop o) [47, 47] = false := by
  unfold Lib.hasPrefix
  rw [Bool.eq_false_iff]
  intro h2
  have := (List.isPrefixOf_iff_prefix.1 h2).length_le
  rw [List.length_drop, ← size_list] at this
  simp at this
  omega
set_option maxRecDepth 100000 in
set_option maxHeartbeats 4000000 in
theorem w16 (u : ByteArray) (w : World) (hs : u.size ≤ 1048576) :
    Calls Try.prog 16 #[.string u] w fun e w' => e = .returned (tupOf u) ∧ ∃ n, w' = w.drewN n := by
  go_enter Try.func16, Try.ntmps16
  go_upto_block 0 with fail
  go_cut [6] (fun s6 wx => wx = w ∧ s6 = .int .i64 (off0 u.data.toList))
  case first =>
    go_wp2_with fail
    go_loopw [6, 7] (fun s6 s7 wr => ∃ k : Nat, k ≤ u.size ∧ s6 = .int .i64 0 ∧ s7 = .int .i64 k ∧ wr = w ∧ G [58, 47, 63, 35] u.data.toList k) (fun _ v _ => u.size - (intOf v).toNat)
    case atStart => exact ⟨0, Nat.zero_le _, rfl, rfl, rfl, G_zero _ _⟩
    case round =>
      obtain ⟨k, hk, rfl, rfl, rfl, hG⟩ := hrel
      have HG := hide hG
      clear hG
      by_cases hlt : k < u.size
      · by_cases h58 : u[k] = 58
        · have m58 := byte_eq u[k] 58 (by omega) h58
          simp only [Int.cast_ofNat_Int] at m58
          have ho := off0_hit (unhide HG) hlt (by rw [h58]; decide)
          have HO := hide ho
          have H58 := hide h58
          clear ho h58
          by_cases hk0 : 0 < k
          · have hkd : decide ((0 : Int) < (k : Int)) = true := by simpa using hk0
            go_wp2
            go_meet
            refine ⟨rfl, ?_⟩
            rw [unhide HO, if_pos ⟨hk0, unhide H58⟩]
            simp
          · have hkd : decide ((0 : Int) < (k : Int)) = false := by simpa using hk0
            go_wp2
            go_meet
            refine ⟨rfl, ?_⟩
            rw [unhide HO, if_neg (fun e => hk0 e.1)]
            rfl
        · have m58 := byte_ne u[k] 58 (by omega) h58
          simp only [Int.cast_ofNat_Int] at m58
          by_cases hin : u[k] = 47 ∨ u[k] = 63 ∨ u[k] = 35
          · have ho := off0_hit (unhide HG) hlt (by simp; exact .inr hin)
            rw [if_neg (fun e => h58 e.2)] at ho
            have HO := hide ho
            clear ho h58
            have hB : ((((u[k].toNat : Nat) : Int) == 47) = true) ∨ ((((u[k].toNat : Nat) : Int) == 47) = false ∧ (((u[k].toNat : Nat) : Int) == 63) = true) ∨ ((((u[k].toNat : Nat) : Int) == 47) = false ∧ (((u[k].toNat : Nat) : Int) == 63) = false ∧ (((u[k].toNat : Nat) : Int) == 35) = true) := by
              rcases hin with h | h | h
              · exact .inl (by rw [h]; rfl)
              · exact .inr (.inl ⟨by rw [h]; rfl, by rw [h]; rfl⟩)
              · exact .inr (.inr ⟨by rw [h]; rfl, by rw [h]; rfl, by rw [h]; rfl⟩)
            clear hin
            rcases hB with m1 | ⟨m1, m2⟩ | ⟨m1, m2, m3⟩
            all_goals
              go_wp2
              go_meet
              exact ⟨rfl, by rw [unhide HO]; rfl⟩
          · simp only [not_or] at hin
            obtain ⟨n1, n2, n3⟩ := hin
            have hG2 := G_succ (unhide HG) hlt (by simp [h58, n1, n2, n3])
            have HG2 := hide hG2
            have m1 := byte_ne u[k] 47 (by omega) n1
            have m2 := byte_ne u[k] 63 (by omega) n2
            have m3 := byte_ne u[k] 35 (by omega) n3
            simp only [Int.cast_ofNat_Int] at m1 m2 m3
            clear hG2 n1 n2 n3 h58
            go_wp2
            go_roundw
            case rel => exact ⟨k + 1, by omega, by first | rfl | trivial, by go_num, by first | rfl | trivial, unhide HG2⟩
            case measure => simp [intOf]; omega
      · have hge : u.size ≤ k := by omega
        clear hlt
        have ho := off0_end (unhide HG) hge
        have HO := hide ho
        clear ho
        go_wp2
        go_meet
        exact ⟨rfl, by rw [unhide HO]; rfl⟩
  case rest =>
    obtain ⟨hw, rfl⟩ := hcut
    subst hw
    obtain ⟨w, hw⟩ : ∃ w, w = wc := ⟨_, rfl⟩
    subst hw
    have ho0 : off0 u.data.toList ≤ u.size := by rw [size_list]; exact off0_le _
    have ho1 : off1 u.data.toList ≤ u.size := by rw [size_list]; exact off1_le _
    obtain ⟨o, ho⟩ : ∃ o, off0 u.data.toList = o := ⟨_, rfl⟩
    obtain ⟨hp, hhp⟩ : ∃ hp, Lib.hasPrefix (u.data.toList.drop o) [47, 47] = hp := ⟨_, rfl⟩
    have hof : off1 u.data.toList = if hp = true then o + 2 + stop [47, 63, 35] (u.data.toList.drop (o + 2)) else o := by
      unfold off1
      rw [ho, hhp, authEnd_stop, List.drop_drop]
    rw [ho] at ho0 ⊢
    have HHP := hide hhp
    have HOF := hide hof
    clear hhp hof ho
    go_upto_region 11 with fail
    go_cut [67] (fun s67 wx => wx = w ∧ s67 = .bool hp)
    case first =>
      by_cases hlt : o + 1 < u.size
      · have hltd : decide ((o : Int) + 1 < (u.size : Int)) = true := by simp; omega
        have hI0 : o < u.size := by omega
        have h2 := pre2 u o hlt
        rw [unhide HHP] at h2
        by_cases e1 : u[o] = 47
        · have m1 := byte_eq u[o] 47 (by omega) e1
          simp only [Int.cast_ofNat_Int] at m1
          by_cases e2 : u[o + 1] = 47
          · have m2 := byte_eq u[o + 1] 47 (by omega) e2
            simp only [Int.cast_ofNat_Int] at m2
            have hpt : hp = true := by rw [h2, e1, e2]; rfl
            subst hpt
            clear h2 e1 e2
            go_wp2
            go_meet
            exact ⟨rfl, rfl⟩
          · have m2 := byte_ne u[o + 1] 47 (by omega) e2
            simp only [Int.cast_ofNat_Int] at m2
            have hpt : hp = false := by rw [h2]; simp [e2]
            subst hpt
            clear h2 e1 e2
            go_wp2
            go_meet
            exact ⟨rfl, rfl⟩
        · have m1 := byte_ne u[o] 47 (by omega) e1
          simp only [Int.cast_ofNat_Int] at m1
          have hpt : hp = false := by rw [h2]; simp [e1]
          subst hpt
          clear h2 e1
          go_wp2
          go_meet
          exact ⟨rfl, rfl⟩
      · have hltd : decide ((o : Int) + 1 < (u.size : Int)) = false := by simp; omega
        have h2 := pre2_short u o hlt
        rw [unhide HHP] at h2
        subst h2
        clear hlt
        go_wp2
        go_meet
        exact ⟨rfl, rfl⟩
    case rest =>
      obtain ⟨hw, rfl⟩ := hcut
      subst hw
      obtain ⟨w, hw⟩ : ∃ w, w = wc := ⟨_, rfl⟩
      subst hw
      go_upto_if 67 with fail
      go_cut [9] (fun s9 wx => wx = w ∧ s9 = .int .i64 (off1 u.data.toList))
      case first =>
        cases hp with
        | false =>
          go_wp2
          go_meet
          exact ⟨rfl, by rw [unhide HOF]; rfl⟩
        | true =>
          have ho2 : o + 2 ≤ u.size := by
            rcases Nat.lt_or_ge (o + 1) u.size with h | h
            · omega
            · have := pre2_short u o (by omega)
              rw [unhide HHP] at this
              cases this
          go_wp2_with fail
          go_loopw [9] (fun s9 wr => ∃ q : Nat, q ≤ u.size ∧ s9 = .int .i64 q ∧ wr = w ∧ off1 u.data.toList = q + stop [47, 63, 35] (u.data.toList.drop q)) (fun v _ => u.size - (intOf v).toNat)
          case atStart => exact ⟨o + 2, ho2, by first | rfl | go_num, by first | rfl | trivial, by rw [unhide HOF]; rfl⟩
          case round =>
            obtain ⟨q, hq, rfl, rfl, hoq⟩ := hrel
            have HOQ := hide hoq
            clear hoq
            by_cases hlt : q < u.size
            · have hltd : decide ((q : Int) < (u.size : Int)) = true := by simpa using hlt
              by_cases hin : u[q] = 47 ∨ u[q] = 63 ∨ u[q] = 35
              · have ho := unhide HOQ
                rw [ba_drop u q hlt, stop_cons, if_pos (by simp; exact hin)] at ho
                have HO := hide ho
                clear ho
                have hB : ((((u[q].toNat : Nat) : Int) != 47) = false) ∨ ((((u[q].toNat : Nat) : Int) != 47) = true ∧ (((u[q].toNat : Nat) : Int) != 63) = false) ∨ ((((u[q].toNat : Nat) : Int) != 47) = true ∧ (((u[q].toNat : Nat) : Int) != 63) = true ∧ (((u[q].toNat : Nat) : Int) != 35) = false) := by
                  rcases hin with h | h | h
                  · exact .inl (by rw [h]; rfl)
                  · exact .inr (.inl ⟨by rw [h]; rfl, by rw [h]; rfl⟩)
                  · exact .inr (.inr ⟨by rw [h]; rfl, by rw [h]; rfl, by rw [h]; rfl⟩)
                clear hin
                rcases hB with m1 | ⟨m1, m2⟩ | ⟨m1, m2, m3⟩
                all_goals
                  go_wp2
                  go_meet
                  exact ⟨rfl, by rw [unhide HO]; rfl⟩
              · simp only [not_or] at hin
                obtain ⟨n1, n2, n3⟩ := hin
                have ho := unhide HOQ
                rw [ba_drop u q hlt, stop_cons, if_neg (by simp [n1, n2, n3])] at ho
                have HO := hide ho
                have m1 : ((((u[q].toNat : Nat) : Int) != 47) = true) := by have := byte_ne u[q] 47 (by omega) n1; simp only [Int.cast_ofNat_Int] at this; simp only [bne, this, Bool.not_false]
                have m2 : ((((u[q].toNat : Nat) : Int) != 63) = true) := by have := byte_ne u[q] 63 (by omega) n2; simp only [Int.cast_ofNat_Int] at this; simp only [bne, this, Bool.not_false]
                have m3 : ((((u[q].toNat : Nat) : Int) != 35) = true) := by have := byte_ne u[q] 35 (by omega) n3; simp only [Int.cast_ofNat_Int] at this; simp only [bne, this, Bool.not_false]
                clear n1 n2 n3 ho
                go_wp2
                go_roundw
                case rel => exact ⟨q + 1, by omega, by go_num, by first | rfl | trivial, by rw [unhide HO]; omega⟩
                case measure => simp [intOf]; omega
            · have hltd : decide ((q : Int) < (u.size : Int)) = false := by simpa using hlt
              have ho := unhide HOQ
              rw [List.drop_of_length_le (by rw [← size_list]; omega)] at ho
              have HO := hide ho
              have hge : u.size ≤ q := by omega
              clear ho hlt
              go_wp2
              go_meet
              exact ⟨rfl, by rw [unhide HO]; rfl⟩
      case rest =>
        obtain ⟨hw, rfl⟩ := hcut
        subst hw
        obtain ⟨w, hw⟩ : ∃ w, w = wc := ⟨_, rfl⟩
        subst hw
        have hcat := cutAt_scan u.data.toList
        obtain ⟨f, hf⟩ : ∃ f, off1 u.data.toList = f := ⟨_, rfl⟩
        rw [hf] at hcat ho1 ⊢
        have HCAT := hide hcat
        clear hcat hf HHP HOF ho0
        have hattr : attrB.data.toList = attr := rfl
        go_upto_block 4 with fail
        go_cut [10] (fun s10 wx => (∃ n, wx = w.drewN n) ∧ s10 = .int .i64 (cutAt u.data.toList))
        case first =>
          go_wp2_with fail
          go_loopw [10, 11, 12] (fun s10 s11 s12 wr => ∃ (k : Nat) (q : Bool), k ≤ u.size ∧ s10 = .int .i64 (-1) ∧ s11 = .bool q ∧ s12 = .int .i64 k ∧ (∃ n, wr = w.drewN n) ∧ cutAt u.data.toList = lift k (scan q (u.data.toList.drop k))) (fun _ _ v _ => u.size - (intOf v).toNat)
          case atStart => exact ⟨f, false, ho1, rfl, rfl, rfl, ⟨0, rfl⟩, unhide HCAT⟩
          case round =>
            obtain ⟨k, q, hk, rfl, rfl, rfl, hnd, hcat⟩ := hrel
            have HND := hide hnd
            have HC := hide hcat
            clear hnd hcat HCAT
            by_cases hlt : k < u.size
            · obtain ⟨c, hc⟩ : ∃ c : UInt8, u[k] = c := ⟨_, rfl⟩
              obtain ⟨b, hb⟩ : ∃ b, attrB.data.toList.isPrefixOf (u.data.toList.drop (k + 1)) = b := ⟨_, rfl⟩
              have hcat := unhide HC
              rw [ba_drop u k hlt, hc] at hcat
              have hcall : ∀ wx : World, Calls Try.prog 30 #[.string u, .int .i64 ((k : Int) + 1), .string ⟨#[85, 82, 73, 83, 105, 103, 110, 105, 110, 103, 80, 97, 99, 107, 97, 103, 101, 61]⟩] wx fun e w' => e = .returned (.bool b) ∧ ∃ n, w' = wx.drewN n := by
                intro wx
                exact w30 u attrB (k + 1) wx hs (by decide) (by omega) b hb
              rw [hattr] at hb
              have HCALL := hide hcall
              have HBB := hide hb
              have HC2 := hide hcat
              have hcn : ((u[k].toNat : Nat) : Int) = (c.toNat : Nat) := by rw [hc]
              have hsg := scan_ge
              have HSG := hide hsg
              clear hcall hb hcat HC hc hsg
              -- the next round's fact, the hit's fact, the end's fact
              have hnext : ∀ q' : Bool, scan q (c :: u.data.toList.drop (k + 1)) = up (scan q' (u.data.toList.drop (k + 1))) → cutAt u.data.toList = lift (k + 1) (scan q' (u.data.toList.drop (k + 1))) := by
                intro q' h
                rw [unhide HC2, h, lift_up _ _ (unhide HSG _ _)]
              have hhit : scan q (c :: u.data.toList.drop (k + 1)) = 0 → cutAt u.data.toList = k := by
                intro h
                rw [unhide HC2, h]
                simp [lift]
              have hend : scan q (c :: u.data.toList.drop (k + 1)) = -1 → cutAt u.data.toList = -1 := by
                intro h
                rw [unhide HC2, h]
                rfl
              have HNEXT := hide hnext
              have HHIT := hide hhit
              have HEND := hide hend
              clear hnext hhit hend
              by_cases h35 : c = 35
              · subst h35
                have m : (((u[k].toNat : Nat) : Int) == 35) = true := by rw [hcn]; rfl
                clear hcn
                have hfin := unhide HEND (by rw [scan, if_pos rfl])
                have HFIN := hide hfin
                clear hfin
                go_wp2
                go_meet
                exact ⟨unhide HND, by rw [unhide HFIN]⟩
              · cases q with
                | false =>
                  by_cases h63 : c = 63
                  · subst h63
                    have m35 : (((u[k].toNat : Nat) : Int) == 35) = false := by rw [hcn]; rfl
                    have m63 : (((u[k].toNat : Nat) : Int) == 63) = true := by rw [hcn]; rfl
                    have m59 : (((u[k].toNat : Nat) : Int) == 59) = false := by rw [hcn]; rfl
                    have m38 : (((u[k].toNat : Nat) : Int) == 38) = false := by rw [hcn]; rfl
                    cases b with
                    | true =>
                      have hfin := unhide HHIT (by rw [scan_ff, if_neg (by decide), if_pos rfl, if_pos (unhide HBB)])
                      have HFIN := hide hfin
                      clear hfin hcn
                      go_wp2_with (go_at_call 30; refine (unhide HCALL _).mono ?_; rintro e w' ⟨rfl, nd2, hw'⟩; subst w')
                      go_meet
                      refine ⟨?_, by rw [unhide HFIN]⟩
                      obtain ⟨nd, hnd⟩ := unhide HND
                      exact ⟨nd + nd2, by rw [hnd]; simp⟩
                    | false =>
                      have hfin := unhide HNEXT true (by rw [scan_ff, if_neg (by decide), if_pos rfl, if_neg (by rw [unhide HBB]; decide)])
                      have HFIN := hide hfin
                      clear hfin hcn
                      go_wp2_with (go_at_call 30; refine (unhide HCALL _).mono ?_; rintro e w' ⟨rfl, nd2, hw'⟩; subst w')
                      go_roundw
                      case rel =>
                        obtain ⟨nd, hnd⟩ := unhide HND
                        exact ⟨k + 1, true, by omega, by first | rfl | trivial, by first | rfl | trivial, by go_num, ⟨nd + nd2, by rw [hnd]; simp⟩, unhide HFIN⟩
                      case measure => simp [intOf]; omega
                  · by_cases h59 : c = 59
                    · subst h59
                      have m35 : (((u[k].toNat : Nat) : Int) == 35) = false := by rw [hcn]; rfl
                      have m63 : (((u[k].toNat : Nat) : Int) == 63) = false := by rw [hcn]; rfl
                      have m59 : (((u[k].toNat : Nat) : Int) == 59) = true := by rw [hcn]; rfl
                      have m38 : (((u[k].toNat : Nat) : Int) == 38) = false := by rw [hcn]; rfl
                      cases b with
                      | true =>
                        have hfin := unhide HHIT (by rw [scan_ff, if_neg (by decide), if_neg (by decide), if_pos ⟨rfl, unhide HBB⟩])
                        have HFIN := hide hfin
                        clear hfin hcn
                        go_wp2_with (go_at_call 30; refine (unhide HCALL _).mono ?_; rintro e w' ⟨rfl, nd2, hw'⟩; subst w')
                        go_meet
                        refine ⟨?_, by rw [unhide HFIN]⟩
                        obtain ⟨nd, hnd⟩ := unhide HND
                        exact ⟨nd + nd2, by rw [hnd]; simp⟩
                      | false =>
                        have hfin := unhide HNEXT false (by rw [scan_ff, if_neg (by decide), if_neg (by decide), if_neg (fun e => by rw [unhide HBB] at e; exact absurd e.2 (by decide))])
                        have HFIN := hide hfin
                        clear hfin hcn
                        go_wp2_with (go_at_call 30; refine (unhide HCALL _).mono ?_; rintro e w' ⟨rfl, nd2, hw'⟩; subst w')
                        go_roundw
                        case rel =>
                          obtain ⟨nd, hnd⟩ := unhide HND
                          exact ⟨k + 1, false, by omega, by first | rfl | trivial, by first | rfl | trivial, by go_num, ⟨nd + nd2, by rw [hnd]; simp⟩, unhide HFIN⟩
                        case measure => simp [intOf]; omega
                    · by_cases h38 : c = 38
                      · subst h38
                        have m35 : (((u[k].toNat : Nat) : Int) == 35) = false := by rw [hcn]; rfl
                        have m63 : (((u[k].toNat : Nat) : Int) == 63) = false := by rw [hcn]; rfl
                        have m59 : (((u[k].toNat : Nat) : Int) == 59) = false := by rw [hcn]; rfl
                        have m38 : (((u[k].toNat : Nat) : Int) == 38) = true := by rw [hcn]; rfl
                        have hfin := unhide HNEXT false (by rw [scan_ff, if_neg (by decide), if_neg (by decide), if_neg (fun e => absurd e.1 (by decide))])
                        have HFIN := hide hfin
                        clear hfin hcn
                        go_wp2_with fail
                        go_roundw
                        case rel =>
                          exact ⟨k + 1, false, by omega, by first | rfl | trivial, by first | rfl | trivial, by go_num, unhide HND, unhide HFIN⟩
                        case measure => simp [intOf]; omega
                      · have m35 : (((u[k].toNat : Nat) : Int) == 35) = false := by rw [hcn]; exact byte_ne c 35 (by omega) h35
                        have m63 : (((u[k].toNat : Nat) : Int) == 63) = false := by rw [hcn]; exact byte_ne c 63 (by omega) h63
                        have m59 : (((u[k].toNat : Nat) : Int) == 59) = false := by rw [hcn]; exact byte_ne c 59 (by omega) h59
                        have m38 : (((u[k].toNat : Nat) : Int) == 38) = false := by rw [hcn]; exact byte_ne c 38 (by omega) h38
                        have hfin := unhide HNEXT false (by rw [scan_ff, if_neg h35, if_neg h63, if_neg (fun e => h59 e.1)])
                        have HFIN := hide hfin
                        clear hfin hcn
                        go_wp2_with fail
                        go_roundw
                        case rel =>
                          exact ⟨k + 1, false, by omega, by first | rfl | trivial, by first | rfl | trivial, by go_num, unhide HND, unhide HFIN⟩
                        case measure => simp [intOf]; omega
                | true =>
                  by_cases h63 : c = 63
                  · subst h63
                    have m35 : (((u[k].toNat : Nat) : Int) == 35) = false := by rw [hcn]; rfl
                    have m63 : (((u[k].toNat : Nat) : Int) == 63) = true := by rw [hcn]; rfl
                    have m59 : (((u[k].toNat : Nat) : Int) == 59) = false := by rw [hcn]; rfl
                    have m38 : (((u[k].toNat : Nat) : Int) == 38) = false := by rw [hcn]; rfl
                    have hfin := unhide HNEXT true (by rw [scan_tt, if_neg (by decide), if_neg (fun e => absurd e.1 (by decide))])
                    have HFIN := hide hfin
                    clear hfin hcn
                    go_wp2_with fail
                    go_roundw
                    case rel =>
                      exact ⟨k + 1, true, by omega, by first | rfl | trivial, by first | rfl | trivial, by go_num, unhide HND, unhide HFIN⟩
                    case measure => simp [intOf]; omega
                  · by_cases h59 : c = 59
                    · subst h59
                      have m35 : (((u[k].toNat : Nat) : Int) == 35) = false := by rw [hcn]; rfl
                      have m63 : (((u[k].toNat : Nat) : Int) == 63) = false := by rw [hcn]; rfl
                      have m59 : (((u[k].toNat : Nat) : Int) == 59) = true := by rw [hcn]; rfl
                      have m38 : (((u[k].toNat : Nat) : Int) == 38) = false := by rw [hcn]; rfl
                      have hfin := unhide HNEXT true (by rw [scan_tt, if_neg (by decide), if_neg (fun e => absurd e.1 (by decide))])
                      have HFIN := hide hfin
                      clear hfin hcn
                      go_wp2_with fail
                      go_roundw
                      case rel =>
                        exact ⟨k + 1, true, by omega, by first | rfl | trivial, by first | rfl | trivial, by go_num, unhide HND, unhide HFIN⟩
                      case measure => simp [intOf]; omega
                    · by_cases h38 : c = 38
                      · subst h38
                        have m35 : (((u[k].toNat : Nat) : Int) == 35) = false := by rw [hcn]; rfl
                        have m63 : (((u[k].toNat : Nat) : Int) == 63) = false := by rw [hcn]; rfl
                        have m59 : (((u[k].toNat : Nat) : Int) == 59) = false := by rw [hcn]; rfl
                        have m38 : (((u[k].toNat : Nat) : Int) == 38) = true := by rw [hcn]; rfl
                        cases b with
                        | true =>
                          have hfin := unhide HHIT (by rw [scan_tt, if_neg (by decide), if_pos ⟨rfl, unhide HBB⟩])
                          have HFIN := hide hfin
                          clear hfin hcn
                          go_wp2_with (go_at_call 30; refine (unhide HCALL _).mono ?_; rintro e w' ⟨rfl, nd2, hw'⟩; subst w')
                          go_meet
                          refine ⟨?_, by rw [unhide HFIN]⟩
                          obtain ⟨nd, hnd⟩ := unhide HND
                          exact ⟨nd + nd2, by rw [hnd]; simp⟩
                        | false =>
                          have hfin := unhide HNEXT true (by rw [scan_tt, if_neg (by decide), if_neg (fun e => by rw [unhide HBB] at e; exact absurd e.2 (by decide))])
                          have HFIN := hide hfin
                          clear hfin hcn
                          go_wp2_with (go_at_call 30; refine (unhide HCALL _).mono ?_; rintro e w' ⟨rfl, nd2, hw'⟩; subst w')
                          go_roundw
                          case rel =>
                            obtain ⟨nd, hnd⟩ := unhide HND
                            exact ⟨k + 1, true, by omega, by first | rfl | trivial, by first | rfl | trivial, by go_num, ⟨nd + nd2, by rw [hnd]; simp⟩, unhide HFIN⟩
                          case measure => simp [intOf]; omega
                      · have m35 : (((u[k].toNat : Nat) : Int) == 35) = false := by rw [hcn]; exact byte_ne c 35 (by omega) h35
                        have m63 : (((u[k].toNat : Nat) : Int) == 63) = false := by rw [hcn]; exact byte_ne c 63 (by omega) h63
                        have m59 : (((u[k].toNat : Nat) : Int) == 59) = false := by rw [hcn]; exact byte_ne c 59 (by omega) h59
                        have m38 : (((u[k].toNat : Nat) : Int) == 38) = false := by rw [hcn]; exact byte_ne c 38 (by omega) h38
                        have hfin := unhide HNEXT true (by rw [scan_tt, if_neg h35, if_neg (fun e => h38 e.1)])
                        have HFIN := hide hfin
                        clear hfin hcn
                        go_wp2_with fail
                        go_roundw
                        case rel =>
                          exact ⟨k + 1, true, by omega, by first | rfl | trivial, by first | rfl | trivial, by go_num, unhide HND, unhide HFIN⟩
                        case measure => simp [intOf]; omega
            · have hge : u.size ≤ k := by omega
              clear hlt
              have hfin : cutAt u.data.toList = -1 := by
                rw [unhide HC, List.drop_of_length_le (by rw [← size_list]; omega)]
                rfl
              have HFIN := hide hfin
              clear hfin
              go_wp2
              go_meet
              exact ⟨unhide HND, by rw [unhide HFIN]⟩
        case rest =>
          obtain ⟨⟨nd, hwc⟩, rfl⟩ := hcut
          have hg := cutAt_ge u.data.toList
          have hroom := cutAt_room u.data.toList
          have htup : ∀ at' : Int, cutAt u.data.toList = at' → tupOf u = if at' < 0 then .tuple #[.string ⟨#[]⟩, .string u, .bool false] else .tuple #[.string (u.extract (at'.toNat + 19) (endOf u at'.toNat)), .string (restOf u at'.toNat), .bool true] := by
            rintro at' rfl
            rfl
          generalize cutAt u.data.toList = at' at hg hroom htup ⊢
          have htup' := htup at' rfl
          have HT := hide htup'
          have HWC := hide hwc
          clear htup htup' HCAT hwc
          by_cases hneg : at' < 0
          · have hd : decide (at' < 0) = true := by simpa using hneg
            go_wp2_with fail
            refine bodyPost_ret (v := tupOf u) ?_ rfl ⟨rfl, nd, unhide HWC⟩
            rw [unhide HT, if_pos hneg]
            simp [results, Try.results16, go_sem]
          · obtain ⟨k, rfl⟩ : ∃ k : Nat, at' = k := ⟨at'.toNat, by omega⟩
            have hd : decide ((k : Int) < 0) = false := by simp
            have hk := hroom k rfl
            rw [← size_list] at hk
            clear hroom hg
            have he1 : endOf u k ≤ u.size := by
              have := stop_le [58, 47, 63, 35, 91, 93, 64, 33, 36, 38, 39, 40, 41, 42, 43, 44, 59, 61] (u.data.toList.drop (k + 19))
              rw [List.length_drop, ← size_list] at this
              unfold endOf
              omega
            have he0 : k + 19 ≤ endOf u k := by unfold endOf; omega
            have hen : endOf u k = k + 19 + stop resL (u.data.toList.drop (k + 19)) := rfl
            have htt : tupOf u = .tuple #[.string (u.extract (k + 19) (endOf u k)), .string (restOf u k), .bool true] := by
              rw [unhide HT, if_neg (by omega)]
              simp only [Int.toNat_natCast]
            have hrest : ∀ b : Bool, b = (decide (endOf u k < u.size) && subL.contains (u.data.toList.getD (endOf u k) 0)) → restOf u k = if b = true then u.extract 0 (k + 1) ++ u.extract (endOf u k + 1) u.size else u.extract 0 k ++ u.extract (endOf u k) u.size := by
              rintro b rfl
              rfl
            obtain ⟨e, hee⟩ : ∃ e, endOf u k = e := ⟨_, rfl⟩
            rw [hee] at he1 he0 hen htt hrest
            have HEN := hide hen
            have HTT := hide htt
            have HREST := hide hrest
            clear hen hee htt hrest HT
            obtain ⟨w3, hw3⟩ : ∃ w3, w3 = wc := ⟨_, rfl⟩
            subst hw3
            go_upto_block 6 with fail
            go_cut [16] (fun s16 wx => wx = w3 ∧ s16 = .int .i64 e)
            case first =>
              go_wp2_with fail
              go_loopw [16] (fun s16 wr => ∃ q : Nat, k + 19 ≤ q ∧ q ≤ u.size ∧ s16 = .int .i64 q ∧ wr = w3 ∧ e = q + stop resL (u.data.toList.drop q)) (fun v _ => u.size - (intOf v).toNat)
              case atStart => exact ⟨k + 19, Nat.le_refl _, hk, by first | rfl | go_num, by first | rfl | trivial, unhide HEN⟩
              case round =>
                obtain ⟨q, hq0, hq, rfl, rfl, hoq⟩ := hrel
                have HOQ := hide hoq
                clear hoq HEN
                by_cases hlt : q < u.size
                · have hltd : decide ((q : Int) < (u.size : Int)) = true := by simpa using hlt
                  obtain ⟨b, hb⟩ : ∃ b, resL.contains u[q] = b := ⟨_, rfl⟩
                  have ho := unhide HOQ
                  rw [ba_drop u q hlt, stop_cons, hb] at ho
                  have hc19 := w19 u[q]
                  rw [hb] at hc19
                  have HC := hide hc19
                  have HO := hide ho
                  clear ho hb hc19
                  cases b with
                  | true =>
                    go_wp2_with (go_at_call 19; refine (unhide HC _).mono ?_; rintro e w' ⟨rfl, hw'⟩; subst w')
                    go_meet
                    exact ⟨rfl, by rw [unhide HO]; rfl⟩
                  | false =>
                    go_wp2_with (go_at_call 19; refine (unhide HC _).mono ?_; rintro e w' ⟨rfl, hw'⟩; subst w')
                    go_roundw
                    case rel => exact ⟨q + 1, by omega, by omega, by go_num, by first | rfl | trivial, by rw [unhide HO]; simp only [Bool.false_eq_true, if_false]; omega⟩
                    case measure => simp [intOf]; omega
                · have hltd : decide ((q : Int) < (u.size : Int)) = false := by simpa using hlt
                  have ho := unhide HOQ
                  rw [List.drop_of_length_le (by rw [← size_list]; omega)] at ho
                  have HO := hide ho
                  have hge : u.size ≤ q := by omega
                  clear ho hlt
                  go_wp2
                  go_meet
                  exact ⟨rfl, by rw [unhide HO]; rfl⟩
            case rest =>
              obtain ⟨hw, rfl⟩ := hcut
              subst hw
              obtain ⟨w3, hw3⟩ : ∃ w3, w3 = wc := ⟨_, rfl⟩
              subst hw3
              obtain ⟨b, hb⟩ : ∃ b : Bool, b = (decide (e < u.size) && subL.contains (u.data.toList.getD e 0)) := ⟨_, rfl⟩
              have hre := unhide HREST b hb
              have HB := hide hb
              have HRE := hide hre
              clear hb hre HREST HEN
              have hi1 : (k : Int) + 1 + 18 ≤ (e : Int) := by omega
              have hi2 : (e : Int) ≤ (u.size : Int) := by omega
              have hi3 : (0 : Int) ≤ (k : Int) + 1 + 18 := by omega
              go_upto_region 36 with fail
              go_cut [167] (fun s92 wx => wx = w3 ∧ s92 = .bool b)
              case first =>
                by_cases hlt : e < u.size
                · have hltI : ((e : Int) < (u.size : Int)) := by omega
                  have hdl : decide ((e : Int) < (u.size : Int)) = true := by simpa using hlt
                  have hbm : b = subL.contains u[e] := by
                    rw [unhide HB, getD_at u e hlt]
                    simp only [hlt, decide_true, Bool.true_and]
                  have hc31 := w31 u[e]
                  rw [← hbm] at hc31
                  have HC := hide hc31
                  clear hbm hc31
                  go_wp2_with (go_at_call 31; refine (unhide HC _).mono ?_; rintro e w' ⟨rfl, hw'⟩; subst w')
                  go_meet
                  exact ⟨rfl, rfl⟩
                · have hdl : decide ((e : Int) < (u.size : Int)) = false := by simp; omega
                  have hge : u.size ≤ e := by omega
                  have hbf : b = false := by
                    rw [unhide HB]
                    simp only [hlt, decide_false, Bool.false_and]
                  subst hbf
                  clear hlt
                  go_wp2_with fail
                  go_meet
                  exact ⟨rfl, rfl⟩
              case rest =>
                obtain ⟨hw, rfl⟩ := hcut
                subst hw
                have hblt : b = true → e < u.size := by
                  intro h
                  have := unhide HB
                  rw [h] at this
                  have := this.symm
                  simp only [Bool.and_eq_true, decide_eq_true_eq] at this
                  exact this.1
                cases b with
                | true =>
                  have hlt := hblt rfl
                  clear hblt
                  have j1 : (0 : Int) ≤ (k : Int) + 1 := by omega
                  have j2 : (k : Int) + 1 ≤ (u.size : Int) := by omega
                  have j3 : (0 : Int) ≤ (e : Int) + 1 := by omega
                  have j4 : (e : Int) + 1 ≤ (u.size : Int) := by omega
                  go_wp2
                  go_quiet (fail)
                  go_wp2
                  refine bodyPost_ret (v := tupOf u) ?_ rfl ⟨rfl, nd + nq, ?_⟩
                  · rw [unhide HTT, unhide HRE]
                    simp [results, Try.results16, go_sem]
                  · rw [unhide HWC]
                    simp
                | false =>
                  have j1 : (0 : Int) ≤ (k : Int) := by omega
                  have j2 : (k : Int) ≤ (u.size : Int) := by omega
                  have j3 : (0 : Int) ≤ (e : Int) := by omega
                  go_wp2
                  go_quiet (fail)
                  go_wp2
                  refine bodyPost_ret (v := tupOf u) ?_ rfl ⟨rfl, nd + nq, ?_⟩
                  · rw [unhide HTT, unhide HRE]
                    simp [results, Try.results16, go_sem]
                  · rw [unhide HWC]
                    simp
end Go.Proofs.Qxb6602100a
