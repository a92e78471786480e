/-
  DERIVED. WALK: FnCutTokenCutsOneBlockOrNothing returns true.
-/
import Derived.Test.Qxb6602100aLaw6
import Derived.Deep.DeepCutAuto
import Derived.Deep.CutBlock
namespace Go.Proofs.Qxb6602100a
open Go.RowKit
set_option maxRecDepth 100000 in
set_option maxHeartbeats 4000000 in
theorem w6 (p : ByteArray) (w : World) (M : Int) (hM : w.cell? ⟨0, 0, none⟩ = some (.int .i64 M)) (hm : p.size ≤ maxLen) : Calls Try.prog 6 #[.string p] w fun e w' => e = .returned (.bool true) ∧ Below w.heap.size w w' := by
  by_cases hs : p.size ≤ 1048576
  · rcases tup_facts p with ht | ⟨t, r, a, ht, hout, hno, hocc⟩
    · have h15 := w15 p _ _ _ w M hM hs ht
      have H15 := hide h15
      clear h15 ht hM
      go_enter Try.func6, Try.ntmps6
      go_wp2_with (first
        | (go_at_call 17; refine (w17 p _ hs).mono ?_; rintro e w' ⟨rfl, hw'⟩; subst w')
        | (go_at_call 15; refine (unhide H15).mono ?_; rintro e w1 ⟨rfl, hbel1⟩))
      go_ret
      exact ⟨by simp, hbel1⟩
    · have h15 := w15 p _ _ _ w M hM hs ht
      have h18 := fun w => w18 p attrB w hs (by decide) true ⟨fun _ => hocc, fun _ => rfl⟩
      have hts : r.size + (19 + t.size) = p.size := hout.size
      have har : a ≤ r.size := hout.le
      have H15 := hide h15
      have H18 := hide h18
      have HNO := hide hno
      have HOUT := hide hout
      clear h15 ht hM h18 hocc hno hout
      go_enter Try.func6, Try.ntmps6
      go_upto_block 0 with (first
        | (go_at_call 17; refine (w17 p _ hs).mono ?_; rintro e w' ⟨rfl, hw'⟩; subst w')
        | (go_at_call 15; refine (unhide H15).mono ?_; rintro e w1 ⟨rfl, hbel1⟩)
        | (go_at_call 18; refine (unhide H18 _).mono ?_; rintro e w' ⟨rfl, nd, hw'⟩; subst w'))
      have hbel := below_drewN hbel1 nd
      have HBEL := hide hbel
      clear hbel hbel1
      generalize w1.drewN nd = W1 at HBEL ⊢
      go_cut [6] (fun s6 wx => wx = W1)
      case first =>
        go_wp2_with fail
        go_loopw [6] (fun v wr => ∃ k : Nat, k ≤ t.size ∧ v = .int .i64 k ∧ wr = W1) (fun v _ => t.size - (intOf v).toNat)
        case atStart => exact ⟨0, Nat.zero_le _, rfl, rfl⟩
        case round =>
          obtain ⟨k, hk, rfl, rfl⟩ := hrel
          by_cases hlt : k < t.size
          · have h19 := w19 t[k]
            rw [unhide HNO k hlt] at h19
            have H19 := hide h19
            clear h19
            go_wp2_with (go_at_call 19; refine (unhide H19 _).mono ?_; rintro e w' ⟨rfl, hw'⟩; subst w')
            go_roundw
            case rel => exact ⟨k + 1, by omega, by go_num, by first | rfl | trivial⟩
            case measure => simp [intOf]; omega
          · have hge : t.size ≤ k := by omega
            clear hlt
            go_wp2
            go_meet
            rfl
      case rest =>
        subst hcut
        obtain ⟨W1, hw⟩ : ∃ w, w = wc := ⟨_, rfl⟩
        subst hw
        have hne : ((p.size : Int) != (r.size : Int) + 1 + 18 + (t.size : Int)) = false := by
          rw [bne_eq_false_iff_eq]
          omega
        go_upto_block 2 with fail
        go_cut [7] (fun s7 wx => ∃ j : Nat, a ≤ j ∧ j ≤ r.size ∧ s7 = .int .i64 j ∧ Below w.heap.size w wx)
        case first =>
          go_wp2_with fail
          go_loopw [7] (fun v wr => ∃ j : Nat, j ≤ r.size ∧ v = .int .i64 j ∧ Below w.heap.size w wr) (fun v _ => r.size - (intOf v).toNat)
          case atStart => exact ⟨0, Nat.zero_le _, rfl, unhide HBEL⟩
          case round =>
            obtain ⟨j, hj, rfl, hbel⟩ := hrel
            have HBL := hide hbel
            clear hbel
            by_cases hlt : j < r.size
            · have hp' : j < p.size := by omega
              have hI0 : (0 : Int) ≤ (j : Int) := by omega
              have hI1 : (j : Int) < (r.size : Int) := by omega
              have hI2 : (j : Int) < (p.size : Int) := by omega
              have hd : decide ((j : Int) < (r.size : Int)) = true := by simpa using hlt
              by_cases he : r[j] = p[j]
              · have hEI : (((r[j].toNat : Nat) : Int) == ((p[j].toNat : Nat) : Int)) = true := by rw [he]; simp
                clear he
                go_wp2
                go_quiet (fail)
                go_wp2
                go_roundw
                case rel => exact ⟨j + 1, by omega, by go_num, below_drewN (unhide HBL) _⟩
                case measure => simp [intOf]; omega
              · have hEI : (((r[j].toNat : Nat) : Int) == ((p[j].toNat : Nat) : Int)) = false := by
                  rw [beq_eq_false_iff_ne]
                  intro e
                  exact he (UInt8.toNat_inj.1 (by omega))
                have haj : a ≤ j := by
                  rcases Nat.lt_or_ge j a with h | h
                  · exact absurd ((unhide HOUT).fst j hlt hp' h) he
                  · exact h
                clear he
                go_wp2
                go_quiet (fail)
                go_wp2
                go_meet
                exact ⟨j, haj, by omega, rfl, below_drewN (unhide HBL) _⟩
            · have hge : r.size ≤ j := by omega
              have hd : decide ((j : Int) < (r.size : Int)) = false := by simpa using hge
              have hd2 : decide (j < r.size) = false := by simpa using hge
              have hd3 : ¬ (j : Int) < (r.size : Int) := by omega
              go_wp2
              go_quiet (fail)
              go_wp2
              go_meet
              exact ⟨j, by omega, by omega, rfl, below_drewN (unhide HBL) _⟩
        case rest =>
          obtain ⟨l1, hl1, hl1', rfl, hbel⟩ := hcut
          have HB2 := hide hbel
          clear hbel HBEL
          obtain ⟨W2, hw⟩ : ∃ w, w = wc := ⟨_, rfl⟩
          subst hw
          go_upto_block 4 with fail
          go_cut [8] (fun s8 wx => ∃ j : Nat, r.size ≤ a + j ∧ j ≤ r.size ∧ s8 = .int .i64 j ∧ Below w.heap.size w wx)
          case first =>
            go_wp2_with fail
            go_loopw [8] (fun v wr => ∃ j : Nat, j ≤ r.size ∧ v = .int .i64 j ∧ Below w.heap.size w wr) (fun v _ => r.size - (intOf v).toNat)
            case atStart => exact ⟨0, Nat.zero_le _, rfl, unhide HB2⟩
            case round =>
              obtain ⟨j, hj, rfl, hbel⟩ := hrel
              have HBL := hide hbel
              clear hbel
              by_cases hlt : j < r.size
              · have hN1 : r.size - 1 - j < r.size := by omega
                have hN2 : p.size - 1 - j < p.size := by omega
                have hd : decide ((j : Int) < (r.size : Int)) = true := by simpa using hlt
                have hJ0 : (j : Int) ≤ (r.size : Int) - 1 := by omega
                have hJ1 : (r.size : Int) - 1 - (j : Int) < (r.size : Int) := by omega
                have hJ2 : (j : Int) ≤ (p.size : Int) - 1 := by omega
                have hJ3 : (p.size : Int) - 1 - (j : Int) < (p.size : Int) := by omega
                by_cases he : r[r.size - 1 - j] = p[p.size - 1 - j]
                · have hEI : (((r[r.size - 1 - j].toNat : Nat) : Int) == ((p[p.size - 1 - j].toNat : Nat) : Int)) = true := by rw [he]; simp
                  clear he
                  go_wp2
                  go_quiet (fail)
                  go_wp2
                  go_roundw
                  case rel => exact ⟨j + 1, by omega, by go_num, below_drewN (unhide HBL) _⟩
                  case measure => simp [intOf]; omega
                · have hEI : (((r[r.size - 1 - j].toNat : Nat) : Int) == ((p[p.size - 1 - j].toNat : Nat) : Int)) = false := by
                    rw [beq_eq_false_iff_ne]
                    intro e
                    exact he (UInt8.toNat_inj.1 (by omega))
                  have haj : r.size ≤ a + j := by
                    rcases Nat.lt_or_ge (r.size - 1 - j) a with h | h
                    · omega
                    · have h2 := (unhide HOUT).snd (r.size - 1 - j) hN1 (by omega) h
                      simp only [show r.size - 1 - j + (19 + t.size) = p.size - 1 - j from by omega] at h2
                      exact absurd h2 he
                  clear he
                  go_wp2
                  go_quiet (fail)
                  go_wp2
                  go_meet
                  exact ⟨j, haj, by omega, rfl, below_drewN (unhide HBL) _⟩
              · have hge : r.size ≤ j := by omega
                have hd : decide ((j : Int) < (r.size : Int)) = false := by simpa using hge
                have hd2 : decide (j < r.size) = false := by simpa using hge
                have hd3 : ¬ (j : Int) < (r.size : Int) := by omega
                go_wp2
                go_quiet (fail)
                go_wp2
                go_meet
                exact ⟨j, by omega, by omega, rfl, below_drewN (unhide HBL) _⟩
          case rest =>
            obtain ⟨l2, hl2, hl2', rfl, hbel⟩ := hcut
            have HB3 := hide hbel
            clear hbel
            have hd : decide ((r.size : Int) ≤ (l1 : Int) + (l2 : Int)) = true := by simp; omega
            go_wp2
            go_ret
            exact ⟨by first | rfl | (simp; omega), unhide HB3⟩
  · have h1 : 1048576 < p.size := by omega
    have hm' := hm
    unfold maxLen at hm
    go_enter Try.func6, Try.ntmps6
    go_wp2_with (go_at_call 17; refine (w17n p _ hm' h1).mono ?_; rintro e w' ⟨rfl, hw'⟩; subst w')
    go_ret
    exact ⟨rfl, Below.refl _ _⟩
end Go.Proofs.Qxb6602100a
