/-
  DERIVED. WALK: strings.IndexAny at every string, the set two or more bytes of ASCII.
-/
import Derived.Test.Qxb6602100aRune
namespace Go.Proofs.Qxb6602100a
open Go.RowKit
theorem noAny_run {s : ByteArray} {chars : List UInt8} {i n : Nat} (h : Lib.NoAny s.data.toList chars i) (hc : ∀ b ∈ chars, b.toNat < 128)
    (hr : ∀ j (hj : j < s.size), i ≤ j → j < i + n → 128 ≤ (s[j]'hj).toNat) : Lib.NoAny s.data.toList chars (i + n) := by
  intro j b hj hb
  by_cases hlt : j < i
  · exact h j b hlt hb
  · have hjs : j < s.size := by
      rcases Nat.lt_or_ge j s.size with h | h
      · exact h
      · rw [List.getElem?_eq_none (by rw [← size_list]; exact h)] at hb; cases hb
    rw [getElem_l s j hjs] at hb
    simp at hb
    have := hr j hjs (by omega) hj
    rw [hb] at this
    rw [Bool.eq_false_iff]
    intro hcon
    have hm : b ∈ chars := by simpa using hcon
    have := hc b hm
    omega
theorem run_bytes (s : ByteArray) (pos : Nat) (h : pos < s.size) (ha : 128 ≤ (s[pos]'h).toNat) :
    pos + (Utf8.decode s pos).2 ≤ s.size ∧ ∀ j (hj : j < s.size), pos ≤ j → j < pos + (Utf8.decode s pos).2 → 128 ≤ (s[j]'hj).toNat := by
  rcases decode_cases s pos h ha with hd | ⟨h2, _, hk⟩
  · rw [hd]
    refine ⟨by show pos + 1 ≤ _; omega, fun j hj h1 h2 => ?_⟩
    have : j = pos := by simp at h2; omega
    subst this
    exact ha
  · have hlast := hk ((Utf8.decode s pos).2 - 1) (by omega) (by omega)
    refine ⟨by omega, fun j hj h1 h3 => ?_⟩
    by_cases e : j = pos
    · subst e; exact ha
    · have hkk := (hk (j - pos) (by omega) (by omega)).2
      have hg : (s.get! (pos + (j - pos))).toNat = (s[j]'hj).toNat := by
        rw [show pos + (j - pos) = j from by omega]
        simp [ByteArray.get!, getElem!_pos, hj]
        rfl
      rw [hg] at hkk
      omega
theorem below_iterAt {B : Nat} {a w : World} (h : Below B a w) {k : Nat} (hk : B ≤ k) (s : ByteArray) (p : Nat) : Below B a (w.iterAt k s p) :=
  ⟨h.os, h.tape, h.output, by have := h.size; simpa [World.iterAt] using this, fun j hj => by rw [Lib.iterAt_other _ _ _ _ _ (by omega)]; exact h.block j hj⟩
set_option maxRecDepth 100000 in
set_option maxHeartbeats 4000000 in
theorem w38_short (s chars : ByteArray) (w : World) (h2 : 2 ≤ chars.size) (h8 : s.size ≤ 8) (hcs : chars.size ≤ 1048576) (hac : Ascii chars) :
    Calls Try.prog 38 #[.string s, .string chars] w fun e w' => e = .returned (.int .i64 (Lib.indexAny s.data.toList chars.data.toList)) ∧ Below w.heap.size w w' := by
  have HAC := hide hac
  clear hac
  have hemp : chars.toList.isEmpty = false := by
    rw [Lib.toList_data, List.isEmpty_eq_false_iff]
    intro h
    rw [size_list, h] at h2
    simp at h2
  have hn1 : ((chars.size : Int) == 1) = false := beq_eq_false_iff_ne.2 (by omega)
  have h8z : decide ((8 : Int) < (s.size : Int)) = false := decide_eq_false (by omega)
  go_enter Try.func38, Try.ntmps38
  go_wp2_with (go_at_call 48; refine (Try.strings_shouldUseASCIISet _ _).mono ?_; rintro e w' ⟨rfl, hw'⟩; subst w'; rw [h8z])
  go_loopw [9, 10] (fun _ _ wx => ∃ i : Nat, i ≤ s.size ∧ wx.heap[w.heap.size]? = some (.stringIter s i) ∧ Below w.heap.size w wx ∧ Lib.NoAny s.data.toList chars.data.toList i) (fun _ _ wx => s.size - wx.iterPos w.heap.size)
  case atStart => exact ⟨0, Nat.zero_le _, World.iter_heap _ _ _, (Below.refl _ _).alloc (Nat.le_refl _) _, Lib.NoAny.zero _ _⟩
  case round =>
    obtain ⟨i, hi, hk, hbel, hno⟩ := hrel
    have HN := hide hno
    have HK := hide hk
    have HB := hide hbel
    clear hno hbel
    by_cases hlt : i < s.size
    · obtain ⟨r, wd, hd⟩ : ∃ r wd, Utf8.decode s i = (r, wd) := ⟨_, _, rfl⟩
      have hnx : ∀ ty, (Instr.next (.pointer (some ⟨w.heap.size, 0, none⟩)) true ty).run Try.prog wr = _ := fun ty => Lib.run_next_any_at wr w.heap.size s i ty hk hlt
      have hkn := Lib.iterAt_heap wr w.heap.size s i (i + wd) hk
      have hbn := below_iterAt (unhide HB) (Nat.le_refl w.heap.size) s (i + wd)
      rw [hd] at hnx
      simp only at hnx
      generalize wr.iterAt w.heap.size s (i + wd) = wn at hnx hkn hbn
      have hnlt : w.heap.size < wn.heap.size := (Array.getElem?_eq_some_iff.1 hkn).1
      have HKN := hide hkn
      have HBN := hide hbn
      clear hk hkn hbn
      have hfin : ∀ w2, Below wn.heap.size wn w2 → w2.heap[w.heap.size]? = some (.stringIter s (i + wd)) ∧ Below w.heap.size w w2 := fun w2 h =>
        ⟨by rw [h.block _ hnlt]; exact unhide HKN, (unhide HBN).trans (h.mono (by omega))⟩
      have HF := hide hfin
      clear hfin
      obtain ⟨x, hx⟩ : ∃ x, s[i] = x := ⟨_, rfl⟩
      have hxl : s.data.toList[i]? = some x := by rw [← hx]; exact getElem_l s i hlt
      have HX := hide hxl
      clear hxl
      by_cases hx128 : x.toNat < 128
      · have hdd := decode_ascii s i hlt (by rw [hx]; exact hx128)
        rw [hd, hx] at hdd
        simp only [Prod.mk.injEq] at hdd
        obtain ⟨hr, hw1⟩ := hdd
        subst hw1
        subst hr
        have hcon := Lib.contains_iff_indexByte chars.data.toList x
        have hback : ((x.toNat : Int)).toNat.toUInt8 = x := by simp
        have C47 := hide (fun (w : World) => Try.strings_IndexRune_ascii chars (x.toNat : Int) w (by omega) (by omega))
        rw [hback] at C47
        clear hback hd hx
        cases hin : chars.data.toList.contains x
        · rw [hin] at hcon
          have hlt0 : decide ((0 : Int) ≤ Lib.indexByte chars.data.toList x) = false := hcon.symm
          clear hcon
          go_wp2_with (go_at_call 47; refine (unhide C47 _).mono ?_; rintro e w' ⟨rfl, hw'⟩; subst w')
          go_roundw
          case rel =>
            obtain ⟨g1, g2⟩ := unhide HF wn (Below.refl _ _)
            exact ⟨i + 1, by omega, g1, g2, (unhide HN).succ (unhide HX) hin⟩
          case measure =>
            rw [iterPos_of (unhide HK), iterPos_of (unhide HKN)]
            omega
        · rw [hin] at hcon
          have hge0 : decide ((0 : Int) ≤ Lib.indexByte chars.data.toList x) = true := hcon.symm
          clear hcon
          go_wp2_with (go_at_call 47; refine (unhide C47 _).mono ?_; rintro e w' ⟨rfl, hw'⟩; subst w')
          go_ret
          exact ⟨by rw [Lib.indexAny_hit (unhide HN) (unhide HX) hin]; rfl, (unhide HF wn (Below.refl _ _)).2⟩
      · have hx128' : 128 ≤ x.toNat := by omega
        have hrb := run_bytes s i hlt (by rw [hx]; exact hx128')
        have hdc := decode_cases s i hlt (by rw [hx]; exact hx128')
        rw [hd] at hrb hdc
        have hdh := decode_high s i hlt (by rw [hx]; exact hx128')
        rw [hd] at hdh
        have HNN := hide (noAny_run (unhide HN) (unhide HAC).mem hrb.2)
        have hwd : i + wd ≤ s.size := hrb.1
        have hwd1 : 1 ≤ wd := hdh.2
        have C47 : Hid (∀ w : World, Calls Try.prog 47 #[.string chars, .int .i32 (r : Int)] w fun e w' => e = .returned (.int .i64 (-1)) ∧ Below w.heap.size w w') := by
          intro w
          by_cases hr : r = 65533
          · subst hr
            exact w47_err chars w (unhide HAC)
          · rcases hdc with hdc | ⟨_, hv, _⟩
            · simp only [Prod.mk.injEq] at hdc
              exact absurd hdc.1 hr
            · exact w47_valid chars r w (unhide HAC) (by have := hdh.1; simp only at this; omega) hv (beq_eq_false_iff_ne.2 (by omega)) hcs
        clear hrb hdc hdh hd hx hx128 hx128'
        go_wp2_with (go_at_call 47; refine (unhide C47 _).mono ?_; rintro e w2 ⟨rfl, hb2⟩)
        go_roundw
        case rel =>
          obtain ⟨g1, g2⟩ := unhide HF w2 hb2
          exact ⟨i + wd, hwd, g1, g2, unhide HNN⟩
        case measure =>
          rw [iterPos_of (unhide HK), iterPos_of (unhide HF w2 hb2).1]
          omega
    · have hnx : ∀ ty, (Instr.next (.pointer (some ⟨w.heap.size, 0, none⟩)) true ty).run Try.prog wr = _ := fun ty => Lib.run_next_end_at wr w.heap.size s i ty hk hlt
      clear hk
      go_wp2
      go_ret
      have he : i = s.data.toList.length := by rw [← size_list]; omega
      have hn := unhide HN
      rw [he] at hn
      exact ⟨by rw [Lib.indexAny_none hn]; rfl, unhide HB⟩
theorem zero47 : ∀ w, (zeroValue 47).run Try.prog w = .ok (.agg (Array.replicate 256 (.bool false))) w := fun _ => by kernel_rfl
/-- strings.IndexAny at every string of at most 2^20 bytes, the set two or more bytes of ASCII. -/
theorem w38 (s chars : ByteArray) (w : World) (h2 : 2 ≤ chars.size) (hs : s.size ≤ 1048576) (hcs : chars.size ≤ 1048576) (hac : Ascii chars) :
    Calls Try.prog 38 #[.string s, .string chars] w fun e w' => e = .returned (.int .i64 (Lib.indexAny s.data.toList chars.data.toList)) ∧ Below w.heap.size w w' := by
  by_cases h8 : s.size ≤ 8
  · exact w38_short s chars w h2 h8 hcs hac
  · refine (Try.strings_IndexAny_long zero47 s chars w h2 (by omega) (by omega) (by omega) hac).mono ?_
    rintro e w' ⟨rfl, rfl⟩
    exact ⟨rfl, ((Below.refl _ _).alloc (Nat.le_refl _) _).alloc (by simp) _⟩
end Go.Proofs.Qxb6602100a
