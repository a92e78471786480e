/-
  DERIVED. WALKS of the functions of one byte.
-/
import Derived.Test.Qxb6602061aLaws
namespace Go.Proofs.Qxb6602061a
open Go.RowKit
def letB (n : Int) : Bool := decide ((97 ≤ n ∧ n ≤ 122) ∨ (65 ≤ n ∧ n ≤ 90))
def digB (n : Int) : Bool := decide (48 ≤ n ∧ n ≤ 57)
def hexB (n : Int) : Bool := decide ((48 ≤ n ∧ n ≤ 57) ∨ (97 ≤ n ∧ n ≤ 102) ∨ (65 ≤ n ∧ n ≤ 70))
def unrB (n : Int) : Bool := decide (((97 ≤ n ∧ n ≤ 122) ∨ (65 ≤ n ∧ n ≤ 90)) ∨ (48 ≤ n ∧ n ≤ 57) ∨ n = 45 ∨ n = 46 ∨ n = 95 ∨ n = 126)
def lowN (n : Int) : Int := if 65 ≤ n ∧ n ≤ 90 then n + 32 else n
theorem ret_bool {a b : Bool} (h : a = b) : Ending.returned (.bool a) = .returned (.bool b) := by rw [h]
theorem ret_int' {k : IntKind} {a b : Int} (h : a = b) : Ending.returned (.int k a) = .returned (.int k b) := by rw [h]
theorem w42 (n : Int) (w : World) (h0 : 0 ≤ n) (h1 : n ≤ 255) : Calls Try.prog 42 #[.int .u8 n] w fun e w' => e = .returned (.bool (letB n)) ∧ w' = w := by
  go_enter Try.func42, Try.ntmps42
  go_wp2
  all_goals go_ret
  all_goals refine ⟨ret_bool ?_, rfl⟩
  all_goals rw [Bool.eq_iff_iff]
  all_goals simp [letB] <;> omega
theorem w38 (n : Int) (w : World) (h0 : 0 ≤ n) (h1 : n ≤ 255) : Calls Try.prog 38 #[.int .u8 n] w fun e w' => e = .returned (.bool (letB n)) ∧ w' = w := by
  go_enter Try.func38, Try.ntmps38
  go_wp2
  all_goals go_ret
  all_goals refine ⟨ret_bool ?_, rfl⟩
  all_goals rw [Bool.eq_iff_iff]
  all_goals simp [letB] <;> omega
theorem w43 (n : Int) (w : World) (h0 : 0 ≤ n) (h1 : n ≤ 255) : Calls Try.prog 43 #[.int .u8 n] w fun e w' => e = .returned (.bool (digB n)) ∧ w' = w := by
  go_enter Try.func43, Try.ntmps43
  go_wp2
  all_goals go_ret
  all_goals refine ⟨ret_bool ?_, rfl⟩
  all_goals rw [Bool.eq_iff_iff]
  all_goals simp [digB] <;> omega
theorem w47 (n : Int) (w : World) (h0 : 0 ≤ n) (h1 : n ≤ 255) : Calls Try.prog 47 #[.int .u8 n] w fun e w' => e = .returned (.bool (hexB n)) ∧ w' = w := by
  go_enter Try.func47, Try.ntmps47
  go_wp2
  all_goals go_ret
  all_goals refine ⟨ret_bool ?_, rfl⟩
  all_goals rw [Bool.eq_iff_iff]
  all_goals simp [hexB] <;> omega
theorem w33 (n : Int) (w : World) (h0 : 0 ≤ n) (h1 : n ≤ 255) : Calls Try.prog 33 #[.int .u8 n] w fun e w' => e = .returned (.int .u8 (lowN n)) ∧ w' = w := by
  go_enter Try.func33, Try.ntmps33
  go_wp2
  all_goals go_ret
  all_goals exact ⟨ret_int' (by unfold lowN; split <;> omega), rfl⟩
theorem w15 (n : Int) (w : World) (h0 : 0 ≤ n) (h1 : n ≤ 255) : Calls Try.prog 15 #[.int .u8 n] w fun e w' => e = .returned (.int .u8 (lowN n)) ∧ w' = w := by
  go_enter Try.func15, Try.ntmps15
  go_wp2
  all_goals go_ret
  all_goals exact ⟨ret_int' (by unfold lowN; split <;> omega), rfl⟩
theorem w49 (n : Int) (w : World) (h0 : 0 ≤ n) (h1 : n ≤ 255) : Calls Try.prog 49 #[.int .u8 n] w fun e w' => e = .returned (.bool (unrB n)) ∧ w' = w := by
  go_enter Try.func49, Try.ntmps49
  go_wp2
  all_goals go_ret
  all_goals refine ⟨ret_bool ?_, rfl⟩
  all_goals rw [Bool.eq_iff_iff]
  all_goals simp [unrB] <;> omega
def unhexN (n : Int) : Int := if 48 ≤ n ∧ n ≤ 57 then n - 48 else if 97 ≤ n ∧ n ≤ 102 then n - 97 + 10 else ((n - 65) % 256 + 10) % 256
theorem unhexN_bd (n : Int) : 0 ≤ unhexN n ∧ unhexN n ≤ 255 := by
  unfold unhexN
  split
  · omega
  · split <;> omega
theorem w48 (n : Int) (w : World) (h0 : 0 ≤ n) (h1 : n ≤ 255) : Calls Try.prog 48 #[.int .u8 n] w fun e w' => e = .returned (.int .u8 (unhexN n)) ∧ w' = w := by
  go_enter Try.func48, Try.ntmps48
  go_wp2
  all_goals go_ret
  all_goals refine ⟨ret_int' ?_, rfl⟩
  all_goals unfold unhexN
  all_goals repeat' split
  all_goals omega
end Go.Proofs.Qxb6602061a
