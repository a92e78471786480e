/-
  DERIVED. WALK: FnCutTokenMatchesScanModel returns true.
-/
import Derived.Test.Qxb6602100aScan
namespace Go.Proofs.Qxb6602100a
open Go.RowKit
theorem tup_shape (u : ByteArray) : ∃ (t r : ByteArray) (b : Bool), tupOf u = .tuple #[.string t, .string r, .bool b] := by
  unfold tupOf
  split
  · exact ⟨_, _, _, rfl⟩
  · exact ⟨_, _, _, rfl⟩
theorem w15 (u t r : ByteArray) (b : Bool) (w : World) (M : Int) (hm : w.cell? ⟨0, 0, none⟩ = some (.int .i64 M)) (hs : u.size ≤ 1048576) (ht : tupOf u = .tuple #[.string t, .string r, .bool b]) :
    Calls Try.prog 15 #[.string u] w fun e w' => e = .returned (.tuple #[.string t, .string r, .bool b]) ∧ Below w.heap.size w w' := by
  have h := w29 u w M hm hs
  rw [ht] at h
  have H := hide h
  clear h ht
  go_enter Try.func15, Try.ntmps15
  go_wp2_with (go_at_call 29; refine (unhide H).mono ?_; rintro e w1 ⟨rfl, hbel⟩)
  refine bodyPost_ret (v := .tuple #[.string t, .string r, .bool b]) ?_ rfl ⟨rfl, hbel⟩
  simp [results, Try.results15, go_sem]
theorem w14 (s : ByteArray) (w : World) (hs : s.size ≤ 1048576) : Calls Try.prog 14 #[.string s] w fun e w' => e = .returned (.bool true) ∧ w' = w := by
  go_enter Try.func14, Try.ntmps14
  go_wp2
  go_ret
  exact ⟨rfl, rfl⟩
theorem w14n (s : ByteArray) (w : World) (hm : s.size ≤ maxLen) (hs : 1048576 < s.size) : Calls Try.prog 14 #[.string s] w fun e w' => e = .returned (.bool false) ∧ w' = w := by
  unfold maxLen at hm
  go_enter Try.func14, Try.ntmps14
  go_wp2
  go_ret
  exact ⟨rfl, rfl⟩
set_option maxHeartbeats 1000000 in
theorem w5 (p : ByteArray) (w : World) (M : Int) (hM : w.cell? ⟨0, 0, none⟩ = some (.int .i64 M)) (hm : p.size ≤ maxLen) : Calls Try.prog 5 #[.string p] w fun e w' => e = .returned (.bool true) ∧ Below w.heap.size w w' := by
  by_cases hs : p.size ≤ 1048576
  · obtain ⟨t, r, b, ht⟩ := tup_shape p
    have h15 := w15 p t r b w M hM hs ht
    have h16 := fun w => w16 p w hs
    rw [ht] at h16
    have H15 := hide h15
    have H16 := hide h16
    clear h15 h16 ht hM
    go_enter Try.func5, Try.ntmps5
    go_wp2_with (first
      | (go_at_call 14; refine (w14 p _ hs).mono ?_; rintro e w' ⟨rfl, hw'⟩; subst w')
      | (go_at_call 15; refine (unhide H15).mono ?_; rintro e w1 ⟨rfl, hbel1⟩)
      | (go_at_call 16; refine (unhide H16 _).mono ?_; rintro e w2 ⟨rfl, nd, hw2⟩; subst w2))
    go_ret
    exact ⟨by simp, below_drewN hbel1 _⟩
  · have h1 : 1048576 < p.size := by omega
    have hm' := hm
    unfold maxLen at hm
    go_enter Try.func5, Try.ntmps5
    go_wp2_with (go_at_call 14; refine (w14n p _ hm' h1).mono ?_; rintro e w' ⟨rfl, hw'⟩; subst w')
    go_ret
    exact ⟨rfl, Below.refl _ _⟩
end Go.Proofs.Qxb6602100a
