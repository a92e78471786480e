/-
  DERIVED. WALK: splitAuthority parts an authority into three pieces.
-/
import Derived.Test.Qxb6602061aWalk1
import Derived.Deep.QuietTactic
import Derived.BigQuiet
namespace Go.Proofs.Qxb6602061a
open Go.RowKit
theorem lastIndex_bd (s : ByteArray) (c : Int) : -1 ≤ Lib.lastIndexByte s c ∧ Lib.lastIndexByte s c < s.size := by
  rcases Lib.lastIdx_spec s c s.size with ⟨h, _⟩ | ⟨i, h1, h2, _⟩
  · unfold Lib.lastIndexByte
    rw [h]
    omega
  · unfold Lib.lastIndexByte
    rw [h2]
    omega
theorem index_bd (s : ByteArray) (c : UInt8) : -1 ≤ Lib.indexByte s.data.toList c ∧ Lib.indexByte s.data.toList c < s.size := by
  refine ⟨Lib.indexByte_ge _ _, ?_⟩
  rcases Rd.indexByte_lt s.data.toList c with h | ⟨_, h⟩
  · simpa using h
  · omega
theorem sz0 : (⟨#[]⟩ : ByteArray).size = 0 := rfl
theorem c46 (s : ByteArray) (n : Int) (h : Lib.lastIndexByte s 64 = n) (hs : s.size ≤ 1048576) (w : World) : Calls Try.prog 46 #[.string s, .int .u8 64] w fun e w' => e = .returned (.int .i64 n) ∧ w' = w := by
  subst h
  exact Try.strings_LastIndexByte s 64 (by omega) w
theorem c32' (s : ByteArray) (c : Int) (n : Int) (h : Lib.indexByte s.data.toList c.toNat.toUInt8 = n) (w : World) : Calls Try.prog 32 #[.string s, .int .u8 c] w fun e w' => e = .returned (.int .i64 n) ∧ w' = w := by
  subst h
  exact Try.strings_IndexByte s c w
set_option maxHeartbeats 1000000 in
theorem w35a (s : ByteArray) (w : World) (hs : s.size ≤ 1048576) (hr : Lib.lastIndexByte s 64 = -1) :
    Calls Try.prog 35 #[.string s] w fun e w' => ∃ u h p : ByteArray, e = .returned (.tuple #[.string u, .string h, .string p]) ∧ u.size + h.size + p.size = s.size ∧ ∃ n, w' = w.drewN n := by
  obtain ⟨i1, h1⟩ : ∃ i, Lib.indexByte s.data.toList 58 = i := ⟨_, rfl⟩
  obtain ⟨i2, h2⟩ : ∃ i, Lib.indexByte s.data.toList 93 = i := ⟨_, rfl⟩
  have b1 := index_bd s 58
  have b2 := index_bd s 93
  rw [h1] at b1
  rw [h2] at b2
  obtain ⟨b10, b11⟩ := b1
  obtain ⟨b20, b21⟩ := b2
  have Hr : Hid (Lib.lastIndexByte s 64 = -1) := hr
  have H1 : Hid (Lib.indexByte s.data.toList 58 = i1) := h1
  have H2 : Hid (Lib.indexByte s.data.toList 93 = i2) := h2
  clear hr h1 h2
  go_enter Try.func35, Try.ntmps35
  go_wp2_with (first
    | (go_at_call 46; refine (c46 s _ Hr.out hs _).mono ?_; rintro e w' ⟨rfl, hw'⟩; subst w')
    | (go_at_call_of 32 (Value.int IntKind.u8 58); refine (c32' s 58 i1 H1.out _).mono ?_; rintro e w' ⟨rfl, hw'⟩; subst w')
    | (go_at_call_of 32 (Value.int IntKind.u8 93); refine (c32' s 93 i2 H2.out _).mono ?_; rintro e w' ⟨rfl, hw'⟩; subst w')
    | (go_at_call 34; refine (Try.strings_HasPrefix _ _ _).mono ?_; rintro e w' ⟨rfl, hw'⟩; subst w'))
  all_goals go_quiet (fail)
  all_goals go_wp2
  all_goals go_ret3
  all_goals refine ⟨_, _, _, rfl, ?_, nq, rfl⟩
  all_goals simp [sz0]
  all_goals omega
set_option maxHeartbeats 1000000 in
theorem w35b (s : ByteArray) (w : World) (m : Nat) (hs : s.size ≤ 1048576) (hr : Lib.lastIndexByte s 64 = m) :
    Calls Try.prog 35 #[.string s] w fun e w' => ∃ u h p : ByteArray, e = .returned (.tuple #[.string u, .string h, .string p]) ∧ u.size + h.size + p.size = s.size ∧ ∃ n, w' = w.drewN n := by
  have hm := (lastIndex_bd s 64).2
  rw [hr] at hm
  have hm' : m < s.size := by omega
  have hmi : (m : Int) + 1 ≤ (s.size : Int) := by omega
  clear hm
  obtain ⟨i1, h1⟩ : ∃ i, Lib.indexByte (s.extract (m + 1) s.size).data.toList 58 = i := ⟨_, rfl⟩
  obtain ⟨i2, h2⟩ : ∃ i, Lib.indexByte (s.extract (m + 1) s.size).data.toList 93 = i := ⟨_, rfl⟩
  have b1 := index_bd (s.extract (m + 1) s.size) 58
  have b2 := index_bd (s.extract (m + 1) s.size) 93
  rw [h1] at b1
  rw [h2] at b2
  obtain ⟨b10, b11⟩ := b1
  obtain ⟨b20, b21⟩ := b2
  have Hr : Hid (Lib.lastIndexByte s 64 = m) := hr
  have H1 : Hid (Lib.indexByte (s.extract (m + 1) s.size).data.toList 58 = i1) := h1
  have H2 : Hid (Lib.indexByte (s.extract (m + 1) s.size).data.toList 93 = i2) := h2
  have hsz : (s.extract (m + 1) s.size).size = s.size - (m + 1) := by simp
  rw [hsz] at b11 b21
  clear hr h1 h2 hsz
  go_enter Try.func35, Try.ntmps35
  go_wp2_with (first
    | (go_at_call 46; refine (c46 s _ Hr.out hs _).mono ?_; rintro e w' ⟨rfl, hw'⟩; subst w'))
  go_quiet (fail)
  go_wp2_with (first
    | (go_at_call_of 32 (Value.int IntKind.u8 58); refine (c32' _ 58 i1 H1.out _).mono ?_; rintro e w' ⟨rfl, hw'⟩; subst w')
    | (go_at_call_of 32 (Value.int IntKind.u8 93); refine (c32' _ 93 i2 H2.out _).mono ?_; rintro e w' ⟨rfl, hw'⟩; subst w')
    | (go_at_call 34; refine (Try.strings_HasPrefix _ _ _).mono ?_; rintro e w' ⟨rfl, hw'⟩; subst w'))
  all_goals go_quiet (fail)
  all_goals go_wp2
  all_goals go_ret3
  all_goals refine ⟨_, _, _, rfl, ?_, _, by rw [World.drewN_drewN]⟩
  all_goals simp
  all_goals omega
theorem w35 (s : ByteArray) (w : World) (hs : s.size ≤ 1048576) :
    Calls Try.prog 35 #[.string s] w fun e w' => ∃ u h p : ByteArray, e = .returned (.tuple #[.string u, .string h, .string p]) ∧ u.size + h.size + p.size = s.size ∧ ∃ n, w' = w.drewN n := by
  have hb := lastIndex_bd s 64
  by_cases h : Lib.lastIndexByte s 64 = -1
  · exact w35a s w hs h
  · exact w35b s w (Lib.lastIndexByte s 64).toNat hs (by omega)
end Go.Proofs.Qxb6602061a
