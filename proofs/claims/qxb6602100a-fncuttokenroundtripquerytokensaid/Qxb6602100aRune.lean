/-
  DERIVED. WALKS of the library's strings.IndexRune (at a rune beyond ASCII, a text of ASCII) and strings.IndexAny (at every string, a set of ASCII).
-/
import Derived.Test.Qxb6602100aRows
import Derived.Test.Qxb6602100aShelf
import Derived.WalkKit
import Derived.WalkSpells
import Derived.ProofKit
import Derived.Lib.OthersKept
import Derived.Lib.IndexAny
import Derived.Lib.IndexLaws
import Derived.Laws.Runes
import Derived.Laws.RangeAny
import Derived.Deep.QuietTactic
import Derived.BigQuiet
import Derived.WalkSmall
import Derived.WalkMore
namespace Go.Proofs.Qxb6602100a
open Go.RowKit
theorem hide {p : Prop} (h : p) : Hid p := h
theorem unhide {p : Prop} (h : Hid p) : p := h
theorem size_list (s : ByteArray) : s.size = s.data.toList.length := by simp
theorem getElem_l (p : ByteArray) (k : Nat) (h : k < p.size) : p.data.toList[k]? = some p[k] := by
  rw [Array.getElem?_toList]
  exact Array.getElem?_eq_getElem h
def Ascii (s : ByteArray) : Prop := ∀ (j : Nat) b, s.data.toList[j]? = some b → b.toNat < 128
set_option maxRecDepth 100000 in
set_option maxHeartbeats 2000000 in
theorem w47_err (s : ByteArray) (w : World) (ha : Ascii s) :
    Calls Try.prog 47 #[.string s, .int .i32 65533] w fun e w' => e = .returned (.int .i64 (-1)) ∧ Below w.heap.size w w' := by
  have HA := hide ha
  clear ha
  go_enter Try.func47, Try.ntmps47
  go_wp2
  go_loopw [5, 6] (fun _ _ wr => ∃ i : Nat, i ≤ s.size ∧ wr = w.iter s i) (fun _ _ wr => s.size - wr.iterPos w.heap.size)
  case atStart => exact ⟨0, Nat.zero_le _, rfl⟩
  case round =>
    obtain ⟨i, hi, rfl⟩ := hrel
    by_cases hlt : i < s.size
    · have hx := unhide HA i s[i] (getElem_l s i hlt)
      have hnx : ∀ ty, (Instr.next (.pointer (some ⟨w.heap.size, 0, none⟩)) true ty).run Try.prog (w.iter s i) = _ := fun ty => run_next_ascii w s i ty hlt hx
      have hne : ((s[i].toNat : Int) == 65533) = false := beq_eq_false_iff_ne.2 (by omega)
      go_wp2
      go_roundw
      case rel => exact ⟨i + 1, by omega, rfl⟩
      case measure => simp; omega
    · have hnx : ∀ ty, (Instr.next (.pointer (some ⟨w.heap.size, 0, none⟩)) true ty).run Try.prog (w.iter s i) = _ := fun ty => run_next_end w s i ty hlt
      go_wp2
      go_ret
      exact ⟨rfl, (Below.refl _ _).alloc (Nat.le_refl _) _⟩
theorem indexByte_high (l : List UInt8) (c : UInt8) (h : ∀ b ∈ l, b.toNat < 128) (hc : 128 ≤ c.toNat) : Lib.indexByte l c = -1 := by
  induction l with
  | nil => rfl
  | cons b l ih =>
    have hb : b ≠ c := fun e => by have := h b (by simp); rw [e] at this; omega
    have ih' := ih (fun x hx => h x (by simp [hx]))
    simp only [Lib.indexByte, ih']
    rw [if_neg (by simpa using hb)]
    simp
theorem Ascii.mem {s : ByteArray} (h : Ascii s) : ∀ b ∈ s.data.toList, b.toNat < 128 := by
  intro b hb
  obtain ⟨j, hj, e⟩ := List.getElem_of_mem hb
  exact h j b (by rw [List.getElem?_eq_getElem hj, e])
theorem c39 (s : ByteArray) (c : Int) (n : Int) (h : Lib.indexByte s.data.toList c.toNat.toUInt8 = n) (w : World) : Calls Try.prog 39 #[.string s, .int .u8 c] w fun e w' => e = .returned (.int .i64 n) ∧ w' = w := by
  subst h
  exact Try.strings_IndexByte s c w
theorem c39h (s : ByteArray) (k : Nat) (L : UInt8) (w : World) (ha : Ascii s) (hL : 128 ≤ L.toNat) : Calls Try.prog 39 #[.string (s.extract k s.size), .int .u8 L.toNat] w fun e w' => e = .returned (.int .i64 (-1)) ∧ w' = w := by
  refine c39 _ _ _ ?_ w
  have e : ((L.toNat : Nat) : Int).toNat.toUInt8 = L := by simp
  rw [e]
  refine indexByte_high _ _ (fun b hb => ?_) hL
  rw [Lib.extract_data] at hb
  exact ha.mem b (List.mem_of_mem_drop (List.mem_of_mem_take hb))
set_option maxRecDepth 100000 in
set_option maxHeartbeats 2000000 in
theorem w47_valid (s : ByteArray) (r : Int) (w : World) (ha : Ascii s) (h128 : 128 ≤ r) (hv : Utf8.valid r = true) (hr : (r == 65533) = false) (_hs : s.size ≤ 1048576) :
    Calls Try.prog 47 #[.string s, .int .i32 r] w fun e w' => e = .returned (.int .i64 (-1)) ∧ Below w.heap.size w w' := by
  obtain ⟨e, he⟩ : ∃ e, Utf8.encode r = e := ⟨_, rfl⟩
  have hf := encode_facts r hv h128
  rw [he] at hf
  obtain ⟨f1, f2, f3⟩ := hf
  obtain ⟨m, hm⟩ : ∃ m, m = e.size - 1 := ⟨_, rfl⟩
  have hme : m < e.size := by omega
  rw [← hm] at f3
  obtain ⟨L, hL⟩ : ∃ L, e[m] = L := ⟨_, rfl⟩
  have f4 : 128 ≤ L.toNat := by rw [← hL]; exact f3 hme
  have hmi : (e.size : Int) - 1 = (m : Int) := by omega
  clear hm
  have hLb := UInt8.toNat_lt L
  clear f3
  have HA := hide ha
  have hlow : decide (r < 128) = false := by simp; omega
  clear ha
  have hvr : Lib.validRune r = true := by
    unfold Lib.validRune
    unfold Utf8.valid at hv
    simp at hv ⊢
    omega
  clear hv
  go_enter Try.func47, Try.ntmps47
  go_wp2_with (go_at_call 58; refine (Try.utf8_ValidRune _ _).mono ?_; rintro e w' ⟨rfl, hw'⟩; subst w')
  go_step3
  go_wp2
  go_loopw [9] (fun i wr => i = .int .i64 m ∧ wr = w) (fun _ _ => 0)
  case atStart => exact ⟨rfl, rfl⟩
  case round =>
    obtain ⟨rfl, rfl⟩ := hrel
    by_cases hlt : m < s.size
    · have hx := unhide HA m s[m] (getElem_l s _ hlt)
      have hne : ((s[m].toNat : Int) != (L.toNat : Int)) = true := by rw [bne_iff_ne]; omega
      have hi0 : (0 : Int) ≤ (m : Int) := by omega
      have hi1 : (m : Int) < (s.size : Int) := by omega
      have hi2 : (m : Int) < (e.size : Int) := by omega
      have hi3 : (m : Int) + 1 ≤ (s.size : Int) := by omega
      have C39 := hide (fun k (w : World) => c39h s k L w (unhide HA) f4)
      go_wp2
      go_step3
      go_wp2
      go_quiet (fail)
      go_wp2
      have HB := below_drewN (Below.refl wr.heap.size wr) nq
      generalize wr.drewN nq = wz at HB ⊢
      go_quiet ((go_at_call 39; exact Calls.quiet_of_same (unhide C39 _ _)))
      go_wp2
      rw [Exit.noGoto_ret]
      go_wp2
      rw [Exit.noGoto_ret]
      go_ret
      exact ⟨rfl, below_drewN HB _⟩
    · have hge : (s.size : Int) ≤ (m : Int) := by omega
      go_wp2
      rw [Exit.noGoto_ret]
      go_ret
      exact ⟨rfl, Below.refl _ _⟩
/-- What a rune beyond ASCII at 'pos' tells of the bytes. -/
theorem decode_cases (s : ByteArray) (pos : Nat) (h : pos < s.size) (ha : 128 ≤ (s[pos]'h).toNat) :
    Utf8.decode s pos = (65533, 1) ∨ (2 ≤ (Utf8.decode s pos).2 ∧ Utf8.valid (Utf8.decode s pos).1 = true ∧ ∀ k, 1 ≤ k → k < (Utf8.decode s pos).2 → pos + k < s.size ∧ (s.get! (pos + k)).toNat / 64 = 2) := by
  have hn : ¬ (s[pos]'h).toNat < 128 := by omega
  have g0 : s.get! (pos + 0) = s[pos]'h := get_at s pos h
  simp only [Utf8.decode, g0, hn, if_false]
  by_cases c1 : ((s[pos]'h).toNat / 32 == 6 && (decide (pos + 1 < s.size) && (s.get! (pos + 1)).toNat / 64 == 2)) = true
  · rw [if_pos c1]
    simp at c1
    split
    · rename_i hc
      right
      refine ⟨by simp, ?_, ?_⟩
      · have := UInt8.toNat_lt (s[pos]'h)
        simp [Utf8.valid]
        left
        omega
      · intro k k1 k2
        have : k = 1 := by simp at k2; omega
        subst this
        exact ⟨c1.2.1, c1.2.2⟩
    · left; rfl
  · rw [if_neg c1]
    by_cases c2 : ((s[pos]'h).toNat / 16 == 14 && (decide (pos + 1 < s.size) && (s.get! (pos + 1)).toNat / 64 == 2) && (decide (pos + 2 < s.size) && (s.get! (pos + 2)).toNat / 64 == 2)) = true
    · rw [if_pos c2]
      simp at c2
      split
      · rename_i hc
        simp at hc
        right
        refine ⟨by simp, hc.2, ?_⟩
        intro k k1 k2
        have : k = 1 ∨ k = 2 := by simp at k2; omega
        rcases this with rfl | rfl
        · exact ⟨c2.1.2.1, c2.1.2.2⟩
        · exact ⟨c2.2.1, c2.2.2⟩
      · left; rfl
    · rw [if_neg c2]
      by_cases c3 : ((s[pos]'h).toNat / 8 == 30 && (decide (pos + 1 < s.size) && (s.get! (pos + 1)).toNat / 64 == 2) && (decide (pos + 2 < s.size) && (s.get! (pos + 2)).toNat / 64 == 2) && (decide (pos + 3 < s.size) && (s.get! (pos + 3)).toNat / 64 == 2)) = true
      · rw [if_pos c3]
        simp at c3
        split
        · rename_i hc
          simp at hc
          right
          refine ⟨by simp, hc.2, ?_⟩
          intro k k1 k2
          have : k = 1 ∨ k = 2 ∨ k = 3 := by simp at k2; omega
          rcases this with rfl | rfl | rfl
          · exact ⟨c3.1.1.2.1, c3.1.1.2.2⟩
          · exact ⟨c3.1.2.1, c3.1.2.2⟩
          · exact ⟨c3.2.1, c3.2.2⟩
        · left; rfl
      · rw [if_neg c3]
        left; rfl
end Go.Proofs.Qxb6602100a
