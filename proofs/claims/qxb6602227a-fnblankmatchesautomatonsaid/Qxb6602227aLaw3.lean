/-
  DERIVED. WALK: FnBlankMatchesAutomaton returns true.
-/
import Derived.Test.Qxb6602227aBlank18
namespace Go.Proofs.Qxb6602227a
open Go.RowKit
theorem w9 (s : ByteArray) (w : World) (M : Int) (hM : w.cell? ⟨0, 0, none⟩ = some (.int .i64 M)) (hs : s.size ≤ 1048576) (b : Bool) (hb : run .out s.data.toList = b) : Calls Try.prog 9 #[.string s] w fun e w' => e = .returned (.bool b) ∧ w' = w := by
  have h := w18 s w M hM hs b hb
  have H := hide h
  clear h hb hM
  go_enter Try.func9, Try.ntmps9
  go_wp2_with (go_at_call 18; refine (unhide H).mono ?_; rintro e w' ⟨rfl, hw'⟩; subst w')
  go_ret
  exact ⟨rfl, rfl⟩
theorem w8 (s : ByteArray) (w : World) (hs : s.size ≤ 1048576) : Calls Try.prog 8 #[.string s] w fun e w' => e = .returned (.bool true) ∧ w' = w := by
  go_enter Try.func8, Try.ntmps8
  go_wp2
  go_ret
  exact ⟨rfl, rfl⟩
theorem w8n (s : ByteArray) (w : World) (hm : s.size ≤ maxLen) (hs : 1048576 < s.size) : Calls Try.prog 8 #[.string s] w fun e w' => e = .returned (.bool false) ∧ w' = w := by
  unfold maxLen at hm
  go_enter Try.func8, Try.ntmps8
  go_wp2
  go_ret
  exact ⟨rfl, rfl⟩
theorem w3 (p : ByteArray) (w : World) (M : Int) (hM : w.cell? ⟨0, 0, none⟩ = some (.int .i64 M)) (hm : p.size ≤ maxLen) : Calls Try.prog 3 #[.string p] w fun e w' => e = .returned (.bool true) ∧ Below w.heap.size w w' := by
  by_cases hs : p.size ≤ 1048576
  · obtain ⟨b, hb⟩ : ∃ b, run .out p.data.toList = b := ⟨_, rfl⟩
    have C9 := hide (w9 p w M hM hs b hb)
    have C10 := hide (fun w1 => w10 p w1 hs b hb)
    clear hb hM
    go_enter Try.func3, Try.ntmps3
    go_wp2_with (first
      | (go_at_call 8; refine (w8 p _ hs).mono ?_; rintro e w' ⟨rfl, hw'⟩; subst w')
      | (go_at_call 9; refine (unhide C9).mono ?_; rintro e w' ⟨rfl, hw'⟩; subst w')
      | (go_at_call 10; refine (unhide C10 _).mono ?_; rintro e w' ⟨rfl, hw'⟩; subst w'))
    go_ret
    exact ⟨by simp, Below.refl _ _⟩
  · clear hM
    go_enter Try.func3, Try.ntmps3
    go_wp2_with (go_at_call 8; refine (w8n p _ hm (by omega)).mono ?_; rintro e w' ⟨rfl, hw'⟩; subst w')
    go_ret
    exact ⟨rfl, Below.refl _ _⟩
end Go.Proofs.Qxb6602227a
