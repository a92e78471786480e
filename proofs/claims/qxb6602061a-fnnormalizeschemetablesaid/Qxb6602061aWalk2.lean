/-
  DERIVED. WALK: removeDotSegments computes 'Rd.rd'.
-/
import Derived.Test.Qxb6602061aWalk1
namespace Go.Proofs.Qxb6602061a
open Go.RowKit
def strLen : Value → Nat | .string s => s.size | _ => 0
theorem next {l ol R : Rd.Seg} (hgo : Rd.go l ol = R) (hne : l ≠ []) (i' o' : Rd.Seg) (hx : Rd.step l ol = (i', o')) : Rd.go i' o' = R := by
  rw [Rd.go_step _ _ hne, hx] at hgo
  exact hgo
theorem size_list (s : ByteArray) : s.size = s.data.toList.length := by simp
theorem sz1 : (⟨#[47]⟩ : ByteArray).size = 1 := rfl
theorem sz0 : (⟨#[]⟩ : ByteArray).size = 0 := rfl
theorem c32 (s : ByteArray) (n : Int) (h : Lib.indexByte s.data.toList 47 = n) (w : World) : Calls Try.prog 32 #[.string s, .int .u8 47] w fun e w' => e = .returned (.int .i64 n) ∧ w' = w := by
  subst h
  exact Try.strings_IndexByte s 47 w
set_option maxHeartbeats 1600000 in
theorem w37 (p : ByteArray) (w : World) (hs : p.size ≤ 1048576) (hdot : (0 ≤ Lib.indexByte p.data.toList 46)) :
    Calls Try.prog 37 #[.string p] w fun e w' => e = .returned (.string ⟨(Rd.go p.data.toList []).toArray⟩) ∧ Below w.heap.size w w' := by
  go_enter Try.func37, Try.ntmps37
  go_wp2_with (first
   | (go_at_call 50; refine (Try.strings_Contains_one _ _ _).mono ?_; rintro e w' ⟨rfl, hw'⟩; subst w')
   | (at_make; refine law_make _ w rfl _ _ rfl w.heap.size _ p.size rfl rfl rfl ?_ (Nat.le_refl _) (Below.refl _ _) ?_; omega; intro w1 hown hbel))
  go_loopw [3, 4] (fun i o wr => ∃ (si : ByteArray) (ol : List UInt8), i = .string si ∧ Bts wr w.heap.size o ol ∧ o ≠ .slice none 0 0 ∧ Below w.heap.size w wr ∧ ol.length + si.size ≤ p.size ∧ Rd.go si.data.toList ol = Rd.go p.data.toList []) (fun i _ _ => strLen i)
  case atStart => exact ⟨p, [], rfl, hown, by simp, hbel, by simp, rfl⟩
  case round =>
    obtain ⟨si, ol, rfl, hown, hnn, hbel, hlen, hgo⟩ := hrel
    have Hgo : Hid (Rd.go si.data.toList ol = Rd.go p.data.toList []) := hgo
    clear hgo
    have hsz := hbel.size
    cases hE : si.toList.isEmpty with
    | true =>
      have hcv := conv_bts hown
      go_wp2
      go_ret
      have hnil : si.data.toList = [] := by rw [Lib.toList_data] at hE; simpa using hE
      refine ⟨ret_str ?_, hbel⟩
      have := Hgo.out
      rw [hnil, Rd.go_nil] at this
      rw [this]
    | false =>
      have hne : si.data.toList ≠ [] := by rw [Lib.toList_data] at hE; simpa using hE
      have Hne : Hid (si.data.toList ≠ []) := hne
      clear hne
      cases h1 : Lib.hasPrefix si.data.toList [46, 46, 47] with
      | true =>
        have hp := Rd.prefix_len h1
        rw [← size_list] at hp
        simp only [List.length_cons, List.length_nil] at hp
        go_wp2_with (go_at_call 34; refine (Try.strings_HasPrefix _ _ _).mono ?_; rintro e w' ⟨rfl, hw'⟩; subst w')
        go_roundw
        case rel =>
          refine ⟨si.extract 3 si.size, ol, rfl, hown, hnn, hbel, by simp; omega, ?_⟩
          rw [Lib.extract_to_end]
          exact next Hgo.out Hne.out _ _ (by simp [Rd.step, h1])
        case measure => simp [strLen]; omega
      | false =>
      cases h2 : Lib.hasPrefix si.data.toList [46, 47] with
      | true =>
        have hp := Rd.prefix_len h2
        rw [← size_list] at hp
        simp only [List.length_cons, List.length_nil] at hp
        go_wp2_with (go_at_call 34; refine (Try.strings_HasPrefix _ _ _).mono ?_; rintro e w' ⟨rfl, hw'⟩; subst w')
        go_roundw
        case rel =>
          refine ⟨si.extract 2 si.size, ol, rfl, hown, hnn, hbel, by simp; omega, ?_⟩
          rw [Lib.extract_to_end]
          exact next Hgo.out Hne.out _ _ (by simp [Rd.step, h1, h2])
        case measure => simp [strLen]; omega
      | false =>
      cases h3 : Lib.hasPrefix si.data.toList [47, 46, 47] with
      | true =>
        have hp := Rd.prefix_len h3
        rw [← size_list] at hp
        simp only [List.length_cons, List.length_nil] at hp
        go_wp2_with (go_at_call 34; refine (Try.strings_HasPrefix _ _ _).mono ?_; rintro e w' ⟨rfl, hw'⟩; subst w')
        go_roundw
        case rel =>
          refine ⟨si.extract 2 si.size, ol, rfl, hown, hnn, hbel, by simp; omega, ?_⟩
          rw [Lib.extract_to_end]
          exact next Hgo.out Hne.out _ _ (by simp [Rd.step, h1, h2, h3])
        case measure => simp [strLen]; omega
      | false =>
      cases h4 : (si.toList == [47, 46]) with
      | true =>
        have hl : si.data.toList = [47, 46] := by rw [Lib.toList_data] at h4; exact beq_iff_eq.1 h4
        have hsi : si.size = 2 := by rw [size_list, hl]; rfl
        have Hl : Hid (si.data.toList = [47, 46]) := hl
        have Hsi : Hid (si.size = 2) := hsi
        have hge : 2 ≤ si.size := by omega
        clear hl hsi
        go_wp2_with (go_at_call 34; refine (Try.strings_HasPrefix _ _ _).mono ?_; rintro e w' ⟨rfl, hw'⟩; subst w')
        go_roundw
        case rel =>
          refine ⟨⟨#[47]⟩, ol, rfl, hown, hnn, hbel, by rw [sz1]; have := Hsi.out; omega, ?_⟩
          exact next Hgo.out Hne.out _ _ (by rw [Hl.out]; rfl)
        case measure => simp only [strLen]; rw [Hsi.out]; decide
      | false =>
      have hdl := Rd.dropSeg_len ol
      cases h5 : Lib.hasPrefix si.data.toList [47, 46, 46, 47] with
      | true =>
        have hp := Rd.prefix_len h5
        rw [← size_list] at hp
        simp only [List.length_cons, List.length_nil] at hp
        go_wp2_with (first | (go_at_call 34; refine (Try.strings_HasPrefix _ _ _).mono ?_; rintro e w' ⟨rfl, hw'⟩; subst w') | (go_at_call 51; refine (w51 _ ol _ w.heap.size (by omega) hown hnn).mono ?_; rintro e w' ⟨v', rfl, hown', hnn', hw'⟩; subst w'))
        go_roundw
        case rel =>
          refine ⟨si.extract 3 si.size, Rd.dropSeg ol, rfl, hown', hnn', hbel, by simp; omega, ?_⟩
          rw [Lib.extract_to_end]
          exact next Hgo.out Hne.out _ _ (by rw [Lib.toList_data] at h4; simp [Rd.step, h1, h2, h3, h5, (by simpa using h4 : si.data.toList ≠ [47, 46])])
        case measure => simp [strLen]; omega
      | false =>
      cases h6 : (si.toList == [47, 46, 46]) with
      | true =>
        have hl : si.data.toList = [47, 46, 46] := by rw [Lib.toList_data] at h6; exact beq_iff_eq.1 h6
        have hsi : si.size = 3 := by rw [size_list, hl]; rfl
        have Hl : Hid (si.data.toList = [47, 46, 46]) := hl
        have Hsi : Hid (si.size = 3) := hsi
        have hge : 3 ≤ si.size := by omega
        clear hl hsi
        go_wp2_with (first | (go_at_call 34; refine (Try.strings_HasPrefix _ _ _).mono ?_; rintro e w' ⟨rfl, hw'⟩; subst w') | (go_at_call 51; refine (w51 _ ol _ w.heap.size (by omega) hown hnn).mono ?_; rintro e w' ⟨v', rfl, hown', hnn', hw'⟩; subst w'))
        go_roundw
        case rel =>
          refine ⟨⟨#[47]⟩, Rd.dropSeg ol, rfl, hown', hnn', hbel, by rw [sz1]; have := Hsi.out; omega, ?_⟩
          exact next Hgo.out Hne.out _ _ (by rw [Hl.out]; rfl)
        case measure => simp only [strLen]; rw [Hsi.out]; decide
      | false =>
      cases h7 : (si.toList == [46]) with
      | true =>
        have hl : si.data.toList = [46] := by rw [Lib.toList_data] at h7; exact beq_iff_eq.1 h7
        have hsi : si.size = 1 := by rw [size_list, hl]; rfl
        have Hl : Hid (si.data.toList = [46]) := hl
        have Hsi : Hid (si.size = 1) := hsi
        have hge : 1 ≤ si.size := by omega
        clear hl hsi
        go_wp2_with (go_at_call 34; refine (Try.strings_HasPrefix _ _ _).mono ?_; rintro e w' ⟨rfl, hw'⟩; subst w')
        go_roundw
        case rel =>
          refine ⟨⟨#[]⟩, ol, rfl, hown, hnn, hbel, by rw [sz0]; omega, ?_⟩
          exact next Hgo.out Hne.out _ _ (by rw [Hl.out]; rfl)
        case measure => simp only [strLen]; rw [Hsi.out]; decide
      | false =>
      cases h8 : (si.toList == [46, 46]) with
      | true =>
        have hl : si.data.toList = [46, 46] := by rw [Lib.toList_data] at h8; exact beq_iff_eq.1 h8
        have hsi : si.size = 2 := by rw [size_list, hl]; rfl
        have Hl : Hid (si.data.toList = [46, 46]) := hl
        have Hsi : Hid (si.size = 2) := hsi
        have hge : 2 ≤ si.size := by omega
        clear hl hsi
        go_wp2_with (go_at_call 34; refine (Try.strings_HasPrefix _ _ _).mono ?_; rintro e w' ⟨rfl, hw'⟩; subst w')
        go_roundw
        case rel =>
          refine ⟨⟨#[]⟩, ol, rfl, hown, hnn, hbel, by rw [sz0]; omega, ?_⟩
          exact next Hgo.out Hne.out _ _ (by rw [Hl.out]; rfl)
        case measure => simp only [strLen]; rw [Hsi.out]; decide
      | false =>
      have hdef := Rd.step_default si.data.toList ol h1 h2 h3 (by rw [← Lib.toList_data]; exact h4) h5 (by rw [← Lib.toList_data]; exact h6) (by rw [← Lib.toList_data]; exact h7) (by rw [← Lib.toList_data]; exact h8)
      have Hdef : Hid (Rd.step si.data.toList ol = (si.data.toList.drop (Rd.segEnd si.data.toList), ol ++ si.data.toList.take (Rd.segEnd si.data.toList))) := hdef
      clear hdef
      have hsp : 1 ≤ si.size := by
        have := List.length_pos_iff.2 Hne.out
        rw [← size_list] at this
        omega
      have hix : Lib.indexByte (si.extract 1 si.size).data.toList 47 = Lib.indexByte (si.data.toList.drop 1) 47 := by rw [Lib.extract_to_end]
      have hge := Lib.indexByte_ge (si.data.toList.drop 1) 47
      have hlt := Rd.indexByte_lt (si.data.toList.drop 1) 47
      generalize hn : Lib.indexByte (si.data.toList.drop 1) 47 = n at hix hge hlt
      have Hn : Hid (Lib.indexByte (si.data.toList.drop 1) 47 = n) := hn
      have Hix : Hid (Lib.indexByte (si.extract 1 si.size).data.toList 47 = n) := hix
      have Hlt : Hid (n < (si.data.toList.drop 1).length ∨ si.data.toList.drop 1 = [] ∧ n = -1) := hlt
      clear hn hix hlt
      by_cases hneg : n = -1
      · subst hneg
        have hseg : Rd.segEnd si.data.toList = si.size := by rw [Rd.segEnd_no _ Hn.out, size_list]
        have Hseg : Hid (Rd.segEnd si.data.toList = si.size) := hseg
        clear hseg
        go_wp2_with (first | (go_at_call 34; refine (Try.strings_HasPrefix _ _ _).mono ?_; rintro e w' ⟨rfl, hw'⟩; subst w') | (go_at_call 32; refine (c32 _ _ Hix.out _).mono ?_; rintro e w' ⟨rfl, hw'⟩; subst w') | (at_builtin; refine law_app_str _ w rfl _ _ rfl w.heap.size _ ol rfl hown _ rfl ?_ hsz hbel ?_; (first | omega | (simp; omega)); intro v' w2 hown2 hnn2 hbel2))
        go_roundw
        case rel =>
          refine ⟨ByteArray.empty, ol ++ si.data.toList, rfl, hown2, hnn2 hnn, hbel2, by simp; omega, ?_⟩
          refine next Hgo.out Hne.out _ _ ?_
          rw [Hdef.out, Hseg.out, List.take_of_length_le (by rw [← size_list]; exact Nat.le_refl _), List.drop_of_length_le (by rw [← size_list]; exact Nat.le_refl _)]
          rfl
        case measure => simp [strLen]; omega
      · obtain ⟨m, rfl⟩ : ∃ m : Nat, n = m := ⟨n.toNat, by omega⟩
        have hm : m + 1 < si.size := by
          rcases Hlt.out with h | ⟨_, h⟩
          · rw [List.length_drop, ← size_list] at h
            omega
          · omega
        have hseg : Rd.segEnd si.data.toList = m + 1 := Rd.segEnd_at _ _ Hn.out
        have Hseg : Hid (Rd.segEnd si.data.toList = m + 1) := hseg
        clear hseg
        go_wp2_with (first | (go_at_call 34; refine (Try.strings_HasPrefix _ _ _).mono ?_; rintro e w' ⟨rfl, hw'⟩; subst w') | (go_at_call 32; refine (c32 _ _ Hix.out _).mono ?_; rintro e w' ⟨rfl, hw'⟩; subst w') | (at_builtin; refine law_app_str _ w rfl _ _ rfl w.heap.size _ ol rfl hown _ rfl ?_ hsz hbel ?_; (first | omega | (simp; omega)); intro v' w2 hown2 hnn2 hbel2))
        go_roundw
        case rel =>
          refine ⟨si.extract (m + 1) si.size, ol ++ (si.extract 0 (m + 1)).data.toList, rfl, hown2, hnn2 hnn, hbel2, by simp; omega, ?_⟩
          refine next Hgo.out Hne.out _ _ ?_
          rw [Hdef.out, Hseg.out, Lib.extract_to_end, Lib.extract_data]
          simp
        case measure => simp [strLen]; omega
theorem w37n (p : ByteArray) (w : World) (hdot : Lib.indexByte p.data.toList 46 < 0) :
    Calls Try.prog 37 #[.string p] w fun e w' => e = .returned (.string p) ∧ w' = w := by
  have hd : decide (0 ≤ Lib.indexByte p.data.toList 46) = false := by simpa using hdot
  clear hdot
  go_enter Try.func37, Try.ntmps37
  go_wp2_with (go_at_call 50; refine (Try.strings_Contains_one _ _ _).mono ?_; rintro e w' ⟨rfl, hw'⟩; subst w')
  go_ret
  exact ⟨rfl, rfl⟩
theorem w37a (p : ByteArray) (w : World) (hs : p.size ≤ 1048576) :
    Calls Try.prog 37 #[.string p] w fun e w' => e = .returned (.string ⟨(Rd.rd p.data.toList).toArray⟩) ∧ Below w.heap.size w w' := by
  unfold Rd.rd
  by_cases h : 0 ≤ Lib.indexByte p.data.toList 46
  · rw [if_pos h]
    exact w37 p w hs h
  · rw [if_neg h]
    refine (w37n p w (by omega)).mono ?_
    rintro e w' ⟨rfl, rfl⟩
    exact ⟨rfl, Below.refl _ _⟩
theorem w24 (p : ByteArray) (w : World) (hs : p.size ≤ 1048576) :
    Calls Try.prog 24 #[.string p] w fun e w' => e = .returned (.string ⟨(Rd.rd p.data.toList).toArray⟩) ∧ Below w.heap.size w w' := by
  go_enter Try.func24, Try.ntmps24
  go_wp2_with (go_at_call 37; refine (w37a p _ hs).mono ?_; rintro e w' ⟨rfl, hbel⟩)
  go_ret
  exact ⟨rfl, hbel⟩
end Go.Proofs.Qxb6602061a
