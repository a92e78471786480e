/-
  DERIVED. WALK: FnSpliceLinesMatchesForwardScan returns true.
-/
import Derived.Test.Qxb6602227aSplice2
namespace Go.Proofs.Qxb6602227a
open Go.RowKit
theorem w15 (s : ByteArray) (w : World) (hs : s.size ≤ 1048576) : Calls Try.prog 15 #[.string s] w fun e w' => e = .returned (.string ⟨(sp s.data.toList).toArray⟩) ∧ Below w.heap.size w w' := by
  have h := w20 s w hs
  have H := hide h
  clear h
  go_enter Try.func15, Try.ntmps15
  go_wp2_with (go_at_call 20; refine (unhide H).mono ?_; rintro e w1 ⟨rfl, hbel⟩)
  go_ret
  exact ⟨rfl, hbel⟩
theorem w14 (s : ByteArray) (w : World) (hs : s.size ≤ 1048576) : Calls Try.prog 14 #[.string s] w fun e w' => e = .returned (.bool true) ∧ w' = w := by
  go_enter Try.func14, Try.ntmps14
  go_wp2
  go_ret
  exact ⟨rfl, rfl⟩
theorem w14n (s : ByteArray) (w : World) (hm : s.size ≤ maxLen) (hs : 1048576 < s.size) : Calls Try.prog 14 #[.string s] w fun e w' => e = .returned (.bool false) ∧ w' = w := by
  unfold maxLen at hm
  go_enter Try.func14, Try.ntmps14
  go_wp2
  go_ret
  exact ⟨rfl, rfl⟩
theorem w6 (p : ByteArray) (w : World) (hm : p.size ≤ maxLen) : Calls Try.prog 6 #[.string p] w fun e w' => e = .returned (.bool true) ∧ Below w.heap.size w w' := by
  by_cases hs : p.size ≤ 1048576
  · have c15 := fun w1 => w15 p w1 hs
    have c16 := fun w1 => w16 p w1 hs
    generalize sp p.data.toList = y at c15 c16
    have C15 := hide c15
    have C16 := hide c16
    clear c15 c16
    go_enter Try.func6, Try.ntmps6
    go_wp2_with (first
      | (go_at_call 14; refine (w14 p _ hs).mono ?_; rintro e w' ⟨rfl, hw'⟩; subst w')
      | (go_at_call 15; refine (unhide C15 _).mono ?_; rintro e w1 ⟨rfl, hbel1⟩)
      | (go_at_call 16; refine (unhide C16 _).mono ?_; rintro e w2 ⟨rfl, hbel2⟩))
    go_ret
    exact ⟨by simp, hbel1.trans (hbel2.mono hbel1.size)⟩
  · go_enter Try.func6, Try.ntmps6
    go_wp2_with (go_at_call 14; refine (w14n p _ hm (by omega)).mono ?_; rintro e w' ⟨rfl, hw'⟩; subst w')
    go_ret
    exact ⟨rfl, Below.refl _ _⟩
end Go.Proofs.Qxb6602227a
