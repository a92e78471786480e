/-
  DERIVED. WALKS: bytes.LastIndexByte and dropLastSegment over a row of the call's own.
-/
import Derived.Test.Qxb6602061aLaws
import Derived.Test.Qxb6602061aPlain
import Derived.Test.Qxb6602061aShelf
namespace Go.Proofs.Qxb6602061a
open Go.RowKit
theorem ret_int {k : IntKind} {a b : Int} (h : a = b) : Ending.returned (.int k a) = .returned (.int k b) := by rw [h]
theorem ret_str {a b : ByteArray} (h : a = b) : Ending.returned (.string a) = .returned (.string b) := by rw [h]
theorem byte_eq (b : UInt8) (n : Nat) (hn : n < 256) : (((b.toNat : Int) == (n : Int)) = true) ↔ b = UInt8.ofNat n := by
  rw [beq_iff_eq]
  constructor
  · intro h
    apply UInt8.toNat_inj.1
    rw [UInt8.toNat_ofNat_of_lt' (by simpa using hn)]
    omega
  · rintro rfl
    rw [UInt8.toNat_ofNat_of_lt' (by simpa using hn)]
set_option maxHeartbeats 400000 in
theorem w57 (g cap : Nat) (l : List UInt8) (w : World) (hl : l.length ≤ 1073741824) (hc : ∀ j (hj : j < l.length), w.cell? ⟨g, j, none⟩ = some (.int .u8 l[j].toNat)) :
    Calls Try.prog 57 #[.slice (some ⟨g, 0, none⟩) l.length cap, .int .u8 47] w fun e w' => e = .returned (.int .i64 (Rd.lastIdx l l.length)) ∧ w' = w := by
  go_enter Try.func57, Try.ntmps57
  go_wp2
  go_loop [5] (fun i => ∃ k : Nat, k ≤ l.length ∧ i = .int .i64 ((k : Int) - 1) ∧ Rd.lastIdx l l.length = Rd.lastIdx l k) (fun i => (intOf i + 1).toNat)
  case atStart => exact ⟨l.length, Nat.le_refl _, rfl, rfl⟩
  case round =>
    obtain ⟨k, hk, rfl, he⟩ := hrel
    have He : Hid (Rd.lastIdx l l.length = Rd.lastIdx l k) := he
    clear he
    cases k with
    | zero =>
      go_wp2
      go_ret
      exact ⟨ret_int (by rw [He.out]; rfl), rfl⟩
    | succ m =>
      have hcm := hc m (by omega)
      have hg : l.getD m 0 = l[m] := by rw [List.getD_eq_getElem?_getD, List.getElem?_eq_getElem (by omega)]; rfl
      have Hg : Hid (l.getD m 0 = l[m]) := hg
      clear hg
      cases hq : (((l[m].toNat : Int)) == 47) with
      | true =>
        go_wp2
        go_ret
        refine ⟨ret_int ?_, rfl⟩
        rw [He.out, Rd.lastIdx, if_pos (by rw [Hg.out]; exact (byte_eq _ 47 (by omega)).1 hq)]
      | false =>
        go_wp2
        refine ⟨⟨m, by omega, by go_num, ?_⟩, by simp [intOf]⟩
        rw [He.out, Rd.lastIdx, if_neg]
        rw [Hg.out]
        intro h
        rw [h] at hq
        exact absurd hq (by decide)
theorem w55 (g cap : Nat) (l : List UInt8) (w : World) (hl : l.length ≤ 1073741824) (hc : ∀ j (hj : j < l.length), w.cell? ⟨g, j, none⟩ = some (.int .u8 l[j].toNat)) :
    Calls Try.prog 55 #[.slice (some ⟨g, 0, none⟩) l.length cap, .int .u8 47] w fun e w' => e = .returned (.int .i64 (Rd.lastIdx l l.length)) ∧ w' = w := by
  go_enter Try.func55, Try.ntmps55
  go_wp2_with (go_at_call 57; refine (w57 g cap l _ hl hc).mono ?_; rintro e w' ⟨rfl, hw'⟩; subst w')
  go_ret
  exact ⟨rfl, rfl⟩
theorem lastIdx_bd (l : List UInt8) : ∀ k, -1 ≤ Rd.lastIdx l k ∧ Rd.lastIdx l k < k
  | 0 => by simp [Rd.lastIdx]
  | k + 1 => by
    have := lastIdx_bd l k
    rw [Rd.lastIdx]
    split <;> omega
set_option maxHeartbeats 400000 in
theorem w51 (v : Value) (l : List UInt8) (w : World) (B : Nat) (hl : l.length ≤ 1073741824) (h : Bts w B v l) (hn : v ≠ .slice none 0 0) :
    Calls Try.prog 51 #[v] w fun e w' => ∃ v', e = .returned v' ∧ Bts w B v' (Rd.dropSeg l) ∧ v' ≠ .slice none 0 0 ∧ w' = w := by
  rcases h.shape with ⟨h1, _⟩ | ⟨g, cap, rfl, hB, hcap, hmax, hc⟩
  · exact absurd h1 hn
  · have hb := lastIdx_bd l l.length
    by_cases h0 : 0 ≤ Rd.lastIdx l l.length
    · have hcut := h.cut (Rd.lastIdx l l.length).toNat (by omega)
      have hd : Rd.dropSeg l = l.take (Rd.lastIdx l l.length).toNat := by unfold Rd.dropSeg; rw [if_pos h0]
      have Hd : Hid (Rd.dropSeg l = l.take (Rd.lastIdx l l.length).toNat) := hd
      clear hd
      go_enter Try.func51, Try.ntmps51
      go_wp2_with (go_at_call 55; refine (w55 g cap l _ hl hc).mono ?_; rintro e w' ⟨rfl, hw'⟩; subst w')
      go_ret
      rw [Hd.out]
      exact ⟨_, rfl, by simpa using hcut, by simp, rfl⟩
    · have hcut := h.cut 0 (by omega)
      have hd : Rd.dropSeg l = [] := by unfold Rd.dropSeg; rw [if_neg h0]
      have Hd : Hid (Rd.dropSeg l = []) := hd
      clear hd
      go_enter Try.func51, Try.ntmps51
      go_wp2_with (go_at_call 55; refine (w55 g cap l _ hl hc).mono ?_; rintro e w' ⟨rfl, hw'⟩; subst w')
      go_ret
      rw [Hd.out]
      exact ⟨_, rfl, by simpa using hcut, by simp, rfl⟩
end Go.Proofs.Qxb6602061a
