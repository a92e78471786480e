/-
  DERIVED. WALK: splitURI.
-/
import Derived.Test.Qxb6602100aAny
import Derived.Deep.DeepCutAuto
import Derived.Deep.RegionHeld3
namespace Go.Proofs.Qxb6602100a
open Go.RowKit
theorem ascii_of (l : List UInt8) (h : l.all (fun b => b.toNat < 128) = true) : Ascii ⟨l.toArray⟩ := by
  intro j b hb
  have hm : b ∈ l := List.mem_of_getElem? hb
  simpa using List.all_eq_true.1 h b hm
def Blk (w : World) (b : Nat) (vs : Array Value) : Prop := w.heap[b]? = some (.cells vs 35 (0, 0))
theorem Blk.cell {w : World} {b : Nat} {vs : Array Value} (h : Blk w b vs) (j : Nat) : w.cell? ⟨b, j, none⟩ = vs[j]? := cell_of_row w b j vs 35 (0, 0) h
theorem Blk.frozen {w : World} {b : Nat} {vs : Array Value} (h : Blk w b vs) (j : Nat) : w.frozen? ⟨b, j, none⟩ = false := Lib.frozen_of_heap h j
theorem Blk.below {w w' : World} {b B : Nat} {vs : Array Value} (h : Blk w b vs) (hb : Below B w w') (hlt : b < B) : Blk w' b vs := by
  unfold Blk
  rw [hb.block b hlt]
  exact h
def P9 (s a p q f : ByteArray) (b5 b6 b7 b8 : Bool) : Array Value := #[.string s, .string a, .string p, .string q, .string f, .bool b5, .bool b6, .bool b7, .bool b8]
def Z9 : Array Value := P9 ⟨#[]⟩ ⟨#[]⟩ ⟨#[]⟩ ⟨#[]⟩ ⟨#[]⟩ false false false false
theorem indexAny_lt (chars : List UInt8) : ∀ l : List UInt8, Lib.indexAny l chars < l.length ∨ Lib.indexAny l chars = -1
  | [] => .inr rfl
  | b :: l => by
    have ih := indexAny_lt chars l
    simp only [Lib.indexAny, List.length_cons]
    split
    · left; omega
    · split
      · right; rfl
      · rename_i h
        simp at h
        rcases ih with ih | ih
        · left; omega
        · exact absurd ih h
theorem two_blk (w : World) : Blk ((w.alloc (.cells Z9 35)).alloc (.cells Z9 35)) w.heap.size Z9 ∧ Blk ((w.alloc (.cells Z9 35)).alloc (.cells Z9 35)) (w.heap.size + 1) Z9 := by
  constructor
  · show ((w.alloc (.cells Z9 35)).alloc (.cells Z9 35)).heap[w.heap.size]? = _
    rw [heap_alloc_old (w.alloc (.cells Z9 35)) (.cells Z9 35) (by simp)]
    exact heap_alloc_new w _
  · have h := heap_alloc_new (w.alloc (.cells Z9 35)) (.cells Z9 35)
    rw [show (w.alloc (.cells Z9 35)).heap.size = w.heap.size + 1 from by simp] at h
    exact h
theorem Blk.set {w : World} {b : Nat} {vs : Array Value} (h : Blk w b vs) (j : Nat) (v : Value) : Blk (w.setCell ⟨b, j, none⟩ v) b (vs.setIfInBounds j v) := by
  have hlt : b < w.heap.size := (Array.getElem?_eq_some_iff.1 h).1
  have h' : w.heap[b] = .cells vs 35 (0, 0) := by
    have := h
    unfold Blk at this
    simpa [Array.getElem?_eq_getElem hlt] using this
  show (w.heap.modify b _)[b]? = _
  rw [Array.getElem?_eq_getElem (by simpa using hlt), Array.getElem_modify_self, h']
  rfl
theorem Blk.set_other {w : World} {b b' : Nat} {vs : Array Value} (h : Blk w b vs) (hne : b ≠ b') (j : Nat) (v : Value) : Blk (w.setCell ⟨b', j, none⟩ v) b vs := by
  unfold Blk
  rw [Below.heap_setCell _ _ _ _ hne]
  exact h
theorem Blk.drew {w : World} {b : Nat} {vs : Array Value} (h : Blk w b vs) : Blk w.drew b vs := h
theorem Blk.drewN {w : World} {b : Nat} {vs : Array Value} (h : Blk w b vs) (n : Nat) : Blk (w.drewN n) b vs := h
theorem byte58 (u : ByteArray) (k : Nat) (h : k < u.size) (n : Nat) (hn : n < 256) : (u.data.toList.getD k 0 == UInt8.ofNat n) = (((u[k].toNat : Nat) : Int) == (n : Int)) := by
  rw [List.getD_eq_getElem?_getD, getElem_l u k h, Bool.eq_iff_iff, beq_iff_eq, beq_iff_eq]
  constructor
  · intro e
    simp at e
    rw [e]
    simp
    omega
  · intro e
    simp
    apply UInt8.toNat_inj.1
    rw [UInt8.toNat_ofNat_of_lt' (by simpa using hn)]
    omega
/-- Where the scheme's part ends; where the path begins. -/
def off0 (u : List UInt8) : Nat := if (decide (0 < Lib.indexAny u [58, 47, 63, 35]) && (u.getD (Lib.indexAny u [58, 47, 63, 35]).toNat 0 == 58)) then (Lib.indexAny u [58, 47, 63, 35]).toNat + 1 else 0
def authEnd (r : List UInt8) : Nat := if Lib.indexAny r [47, 63, 35] < 0 then r.length else (Lib.indexAny r [47, 63, 35]).toNat
def off1 (u : List UInt8) : Nat := if Lib.hasPrefix (u.drop (off0 u)) [47, 47] then off0 u + 2 + authEnd ((u.drop (off0 u)).drop 2) else off0 u
theorem cut_ba (r : ByteArray) (sep : List UInt8) : ∃ (x y : ByteArray) (b : Bool), Lib.cut r.data.toList sep = (x.data.toList, y.data.toList, b) :=
  ⟨⟨(Lib.cut r.data.toList sep).1.toArray⟩, ⟨(Lib.cut r.data.toList sep).2.1.toArray⟩, (Lib.cut r.data.toList sep).2.2, rfl⟩
theorem ba_eq (l : List UInt8) (x : ByteArray) (h : l = x.data.toList) : (⟨l.toArray⟩ : ByteArray) = x := by
  subst h
  rfl
theorem cut_size {r x y : ByteArray} {sep : List UInt8} {b : Bool} (h : Lib.cut r.data.toList sep = (x.data.toList, y.data.toList, b)) {n : Nat} (hr : r.size ≤ n) : x.size ≤ n := by
  have h1 := congrArg (fun z => z.1.length) h
  simp only at h1
  rw [← size_list] at h1
  rw [← h1]
  unfold Lib.cut
  split
  · simp; omega
  · simpa using hr
theorem c44 (r sep x y : ByteArray) (b : Bool) (M : Int) (w : World) (hs : r.size ≤ 1048576) (hm : w.cell? ⟨0, 0, none⟩ = some (.int .i64 M)) (hC : Lib.cut r.data.toList sep.data.toList = (x.data.toList, y.data.toList, b)) :
    Calls Try.prog 44 #[.string r, .string sep] w fun e w' => e = .returned (.tuple #[.string x, .string y, .bool b]) ∧ ∃ n, w' = w.drewN n := by
  have h := Try.strings_Cut r sep M w (by omega) hm
  rw [hC, ba_eq _ x rfl, ba_eq _ y rfl] at h
  exact h
set_option maxRecDepth 100000 in
set_option maxHeartbeats 4000000 in
theorem w34 (u : ByteArray) (w : World) (M : Int) (hm : w.cell? ⟨0, 0, none⟩ = some (.int .i64 M)) (hs : u.size ≤ 1048576) :
    Calls Try.prog 34 #[.string u] w fun e w' => ∃ (sc au pa qu fr : ByteArray) (sB aB qB fB : Bool), e = .returned (.agg (P9 sc au pa qu fr sB aB qB fB)) ∧
      (if sB then sc.size + 1 else 0) + (if aB then 2 + au.size else 0) = off1 u.data.toList ∧
      Lib.cut (Lib.cut (u.data.toList.drop (off1 u.data.toList)) [35]).1 [63] = (pa.data.toList, qu.data.toList, qB) ∧ Below w.heap.size w w' := by
  obtain ⟨i, hi⟩ : ∃ i, Lib.indexAny u.data.toList [58, 47, 63, 35] = i := ⟨_, rfl⟩
  have hib := Lib.indexAny_ge [58, 47, 63, 35] u.data.toList
  have hiu := indexAny_lt [58, 47, 63, 35] u.data.toList
  rw [hi] at hib hiu
  rw [← size_list] at hiu
  have HI := hide hi
  clear hi
  have hM0 : 0 < w.heap.size := World.block_lt_of_cell? w _ hm
  have HM : Hid (∀ wx, Below w.heap.size w wx → wx.cell? ⟨0, 0, none⟩ = some (.int .i64 M)) := fun wx hx => by rw [hx.cell (p := ⟨0, 0, none⟩) hM0]; exact hm
  clear hm
  obtain ⟨sB, hsB⟩ : ∃ sB : Bool, sB = (decide (0 < i) && (u.data.toList.getD i.toNat 0 == 58)) := ⟨_, rfl⟩
  have HSB := hide hsB
  obtain ⟨o0, ho0⟩ : ∃ o0 : Nat, o0 = if sB then i.toNat + 1 else 0 := ⟨_, rfl⟩
  have hio : sB = true → 0 < i := by intro h; rw [h] at hsB; have := hsB.symm; simp at this; omega
  have HO0 := hide ho0
  have HIO := hide hio
  clear hsB ho0 hio
  go_enter Try.func34, Try.ntmps34
  go_wp2_with fail
  refine (w38 u ⟨#[58, 47, 63, 35]⟩ _ (by decide) hs (by decide) (ascii_of [58, 47, 63, 35] (by decide))).mono ?_
  rintro e w1 ⟨rfl, hbel⟩
  rw [show (Lib.indexAny u.data.toList (⟨#[58, 47, 63, 35]⟩ : ByteArray).data.toList) = i from unhide HI]
  obtain ⟨hb0', hb1'⟩ := two_blk w
  have hb0 : Blk w1 w.heap.size Z9 := hb0'.below hbel (by simp; omega)
  have hb1 : Blk w1 (w.heap.size + 1) Z9 := hb1'.below hbel (by simp)
  have hbw : Below w.heap.size w w1 := (((Below.refl _ _).alloc (Nat.le_refl _) _).alloc (by simp) _).trans (hbel.mono (by simp; omega))
  clear hbel hb0' hb1'
  go_upto_region 3 with fail
  go_cut [17] (fun s17 wx => wx = w1 ∧ s17 = .bool sB)
  case first =>
    by_cases hp : 0 < i
    · obtain ⟨k, rfl⟩ : ∃ k : Nat, i = k := ⟨i.toNat, by omega⟩
      have hks : k < u.size := by omega
      have hb58 := byte58 u k hks 58 (by omega)
      have HB58 := hide hb58
      clear hb58
      go_wp2
      go_meet
      refine ⟨rfl, ?_⟩
      rw [unhide HSB]
      have h1 : decide ((0 : Int) < (k : Int)) = true := by simpa using hp
      rw [h1]
      exact congrArg Value.bool (unhide HB58).symm
    · have hd : decide (0 < i) = false := by simpa using hp
      go_wp2
      go_meet
      refine ⟨rfl, ?_⟩
      rw [unhide HSB, hd]
      rfl
  case rest =>
    obtain ⟨hw1, rfl⟩ := hcut
    subst hw1
    go_upto_if 17 with fail
    go_cut [0] (fun s0 wx => ∃ (r sc : ByteArray), s0 = .string r ∧ r.data.toList = u.data.toList.drop o0 ∧ (if sB then sc.size + 1 else 0) = o0 ∧ Blk wx w.heap.size Z9 ∧ Blk wx (w.heap.size + 1) (P9 sc ⟨#[]⟩ ⟨#[]⟩ ⟨#[]⟩ ⟨#[]⟩ sB false false false) ∧ Below w.heap.size w wx)
    case first =>
      cases sB with
      | false =>
        go_wp2
        go_meet
        refine ⟨u, ⟨#[]⟩, rfl, ?_, ?_, hb0, hb1, hbw⟩
        · rw [unhide HO0]; simp
        · rw [unhide HO0]; simp
      | true =>
        have hp := unhide HIO rfl
        obtain ⟨k, rfl⟩ : ∃ k : Nat, i = k := ⟨i.toNat, by omega⟩
        have hks : k < u.size := by omega
        have hI1 : (0 : Int) ≤ (k : Int) := by omega
        have hI2 : (k : Int) ≤ (u.size : Int) := by omega
        have hI3 : (k : Int) + 1 ≤ (u.size : Int) := by omega
        have c0 := hb1.cell 0
        have c5 := hb1.cell 5
        have f0 := hb1.frozen 0
        have f5 := hb1.frozen 5
        simp [Z9, P9] at c0 c5
        go_wp2
        go_region
        go_wp2
        go_meet
        refine ⟨_, u.extract 0 k, rfl, ?_, ?_, ((hb0.set_other (by omega) 0 _).set_other (by omega) 5 _).drew, ((hb1.set 0 _).set 5 _).drew, ((hbw.setCell (by simp) _).setCell (by simp) _).drew⟩
        · rw [unhide HO0, Lib.extract_to_end]; simp
        · rw [unhide HO0]; simp; omega
    case rest =>
      obtain ⟨r, sc, rfl, hrd, hsc, hb0, hb1, hbw⟩ := hcut
      have hrs : r.size ≤ 1048576 := by
        have := congrArg List.length hrd
        rw [List.length_drop, ← size_list, ← size_list] at this
        omega
      have HRD := hide hrd
      have HSC := hide hsc
      have hoz : o0 ≤ u.size := by
        have h1 := unhide HO0
        split at h1
        · rename_i hh
          have := unhide HIO hh
          omega
        · omega
      clear hrd hsc
      obtain ⟨aB, haB⟩ : ∃ aB : Bool, Lib.hasPrefix r.data.toList [47, 47] = aB := ⟨_, rfl⟩
      obtain ⟨t, ht⟩ : ∃ t : ByteArray, (⟨(Lib.trimPrefix r.data.toList [47, 47]).toArray⟩ : ByteArray) = t := ⟨_, rfl⟩
      have htd : t.data.toList = if aB then r.data.toList.drop 2 else r.data.toList := by
        rw [← ht]
        show Lib.trimPrefix r.data.toList [47, 47] = _
        unfold Lib.trimPrefix
        rw [haB]
        rfl
      have hts : t.size ≤ 1048576 := by
        have := congrArg List.length htd
        rw [← size_list] at this
        split at this
        · rw [List.length_drop, ← size_list] at this; omega
        · rw [← size_list] at this; omega
      have HTD := hide htd
      have C43 := hide (fun (w : World) => Try.strings_CutPrefix r ⟨#[47, 47]⟩ w)
      have hC43 : ∀ w : World, Calls Try.prog 43 #[.string r, .string ⟨#[47, 47]⟩] w fun e w' => e = .returned (.tuple #[.string t, .bool aB]) ∧ w' = w := fun w => by
        have := unhide C43 w
        rw [show (⟨#[47, 47]⟩ : ByteArray).data.toList = [47, 47] from rfl, ht, haB] at this
        exact this
      have HC43 := hide hC43
      clear hC43 C43 htd ht
      obtain ⟨n, hn⟩ : ∃ n, Lib.indexAny t.data.toList [47, 63, 35] = n := ⟨_, rfl⟩
      have hnb := Lib.indexAny_ge [47, 63, 35] t.data.toList
      have hnu := indexAny_lt [47, 63, 35] t.data.toList
      rw [hn] at hnb hnu
      rw [← size_list] at hnu
      obtain ⟨k, hk⟩ : ∃ k : Nat, k = if n < 0 then t.size else n.toNat := ⟨_, rfl⟩
      have hkt : k ≤ t.size := by split at hk <;> omega
      obtain ⟨o1, ho1⟩ : ∃ o1 : Nat, o1 = if aB then o0 + 2 + k else o0 := ⟨_, rfl⟩
      have HN := hide hn
      have HK := hide hk
      have HO1 := hide ho1
      have HAB := hide haB
      clear hn hk ho1 haB
      go_upto_if 32 with (go_at_call 43; refine (unhide HC43 _).mono ?_; rintro e w' ⟨rfl, hw'⟩; subst w')
      go_cut [0] (fun s0 wx => ∃ (r2 au : ByteArray), s0 = .string r2 ∧ r2.data.toList = u.data.toList.drop o1 ∧ (if aB then 2 + au.size else 0) + o0 = o1 ∧ Blk wx w.heap.size Z9 ∧ Blk wx (w.heap.size + 1) (P9 sc au ⟨#[]⟩ ⟨#[]⟩ ⟨#[]⟩ sB aB false false) ∧ Below w.heap.size w wx)
      case first =>
        cases aB with
        | false =>
          go_wp2
          go_meet
          refine ⟨r, ⟨#[]⟩, rfl, ?_, ?_, hb0, hb1, hbw⟩
          · rw [unhide HO1]; exact unhide HRD
          · rw [unhide HO1]; simp
        | true =>
          have hr2 : 2 ≤ r.size := by
            have := unhide HAB
            unfold Lib.hasPrefix at this
            have := (List.isPrefixOf_iff_prefix.1 this).length_le
            rw [← size_list] at this
            simpa using this
          have hbsz := hbw.size
          have hlt1 : w.heap.size + 1 < wc.heap.size := (Array.getElem?_eq_some_iff.1 hb1).1
          go_wp2_with fail
          refine (w38 t ⟨#[47, 63, 35]⟩ _ (by decide) hts (by decide) (ascii_of [47, 63, 35] (by decide))).mono ?_
          rintro e w2 ⟨rfl, hbel2⟩
          rw [show (Lib.indexAny t.data.toList (⟨#[47, 63, 35]⟩ : ByteArray).data.toList) = n from unhide HN]
          have hb0n := hb0.below hbel2 (by omega)
          have hb1n := hb1.below hbel2 (by omega)
          have hbwn := hbw.trans (hbel2.mono (by omega))
          clear hb0 hb1 hbw hbel2
          have c1 := hb1n.cell 1
          have c6 := hb1n.cell 6
          have f1 := hb1n.frozen 1
          have f6 := hb1n.frozen 6
          simp [P9] at c1 c6
          have hkI0 : (0 : Int) ≤ (k : Int) := by omega
          have hkI1 : (k : Int) ≤ (t.size : Int) := by omega
          have hfin : ∀ (A R : ByteArray), A.size = k → R.data.toList = t.data.toList.drop k → ∀ wx : World, wx = ((w2.setCell ⟨w.heap.size + 1, 1, none⟩ (.string A)).setCell ⟨w.heap.size + 1, 6, none⟩ (.bool true)).drew →
              ∃ (r2 au : ByteArray), Value.string R = .string r2 ∧ r2.data.toList = u.data.toList.drop o1 ∧ 2 + au.size + o0 = o1 ∧ Blk wx w.heap.size Z9 ∧ Blk wx (w.heap.size + 1) (P9 sc au ⟨#[]⟩ ⟨#[]⟩ ⟨#[]⟩ sB true false false) ∧ Below w.heap.size w wx := by
            rintro A R hA hR wx rfl
            refine ⟨R, A, rfl, ?_, ?_, ((hb0n.set_other (by omega) 1 _).set_other (by omega) 6 _).drew, ((hb1n.set 1 _).set 6 _).drew, ((hbwn.setCell (by simp) _).setCell (by simp) _).drew⟩
            · rw [hR, unhide HTD, unhide HO1]
              simp only [if_true]
              rw [unhide HRD, List.drop_drop, List.drop_drop]
              congr 1
              omega
            · rw [unhide HO1]
              simp
              omega
          have HF := hide hfin
          clear hfin hb0n hb1n hbwn
          by_cases hneg : n < 0
          · have hks : k = t.size := by have := unhide HK; rw [if_pos hneg] at this; exact this
            subst hks
            go_wp2
            go_region
            go_wp2
            go_meet
            simpa using unhide HF t ByteArray.empty rfl (by rw [List.drop_of_length_le (by rw [← size_list]; exact Nat.le_refl _)]; rfl) _ rfl
          · obtain ⟨n', rfl⟩ : ∃ n' : Nat, n = n' := ⟨n.toNat, by omega⟩
            have hks : k = n' := by have := unhide HK; rw [if_neg hneg] at this; simpa using this
            subst hks
            have hd : decide ((k : Int) < 0) = false := by simp
            go_wp2
            go_region
            go_wp2
            go_meet
            simpa using unhide HF (t.extract 0 k) (t.extract k t.size) (by simp; omega) (Lib.extract_to_end _ _) _ rfl
      case rest =>
        obtain ⟨r2, au, rfl, hr2d, hau, hb0, hb1, hbw⟩ := hcut
        have hr2s : r2.size ≤ 1048576 := by
          have := congrArg List.length hr2d
          rw [List.length_drop, ← size_list, ← size_list] at this
          omega
        have HR2 := hide hr2d
        have HAU := hide hau
        clear hr2d hau
        have c4 := hb1.cell 4
        have c8 := hb1.cell 8
        have f4 := hb1.frozen 4
        have f8 := hb1.frozen 8
        simp [P9] at c4 c8
        have hm1 := unhide HM _ hbw
        obtain ⟨x1, y1, b1, hC1⟩ := cut_ba r2 [35]
        have HC1 := hide hC1
        clear hC1
        go_wp2_with fail
        refine (c44 r2 ⟨#[35]⟩ x1 y1 b1 M _ hr2s hm1 (unhide HC1)).mono ?_
        rintro e w' ⟨rfl, nd, hw'⟩
        subst w'
        go_wp2_with fail
        have hb0' := ((hb0.drewN nd).set_other (b' := w.heap.size + 1) (by omega) 4 (.string y1)).set_other (b' := w.heap.size + 1) (by omega) 8 (.bool b1)
        have hb1' := ((hb1.drewN nd).set 4 (.string y1)).set 8 (.bool b1)
        have hbw' := ((below_drewN hbw nd).setCell (p := ⟨w.heap.size + 1, 4, none⟩) (by simp) (.string y1)).setCell (p := ⟨w.heap.size + 1, 8, none⟩) (by simp) (.bool b1)
        clear hb0 hb1 hbw c4 c8 f4 f8 hm1
        generalize (((wc.drewN nd).setCell ⟨w.heap.size + 1, 4, none⟩ (.string y1)).setCell ⟨w.heap.size + 1, 8, none⟩ (.bool b1)) = W2 at hb0' hb1' hbw' ⊢
        have hx1s : x1.size ≤ 1048576 := cut_size (unhide HC1) hr2s
        obtain ⟨x2, y2, b2, hC2⟩ := cut_ba x1 [63]
        have HC2 := hide hC2
        clear hC2
        have hm2 := unhide HM _ hbw'
        refine (c44 x1 ⟨#[63]⟩ x2 y2 b2 M _ hx1s hm2 (unhide HC2)).mono ?_
        rintro e w' ⟨rfl, nd2, hw'⟩
        subst w'
        have hb1'' : Blk W2 (w.heap.size + 1) (P9 sc au ⟨#[]⟩ ⟨#[]⟩ y1 sB aB false b1) := hb1'
        clear hb1'
        have c0 := hb1''.cell 0
        have c1 := hb1''.cell 1
        have c2 := hb1''.cell 2
        have c3 := hb1''.cell 3
        have c4 := hb1''.cell 4
        have c5 := hb1''.cell 5
        have c6 := hb1''.cell 6
        have c7 := hb1''.cell 7
        have c8 := hb1''.cell 8
        have f2 := hb1''.frozen 2
        have f3 := hb1''.frozen 3
        have f7 := hb1''.frozen 7
        simp [P9] at c0 c1 c2 c3 c4 c5 c6 c7 c8
        have d0 := hb0'.cell 0
        have d1 := hb0'.cell 1
        have d2 := hb0'.cell 2
        have d3 := hb0'.cell 3
        have d4 := hb0'.cell 4
        have d5 := hb0'.cell 5
        have d6 := hb0'.cell 6
        have d7 := hb0'.cell 7
        have d8 := hb0'.cell 8
        simp [P9, Z9] at d0 d1 d2 d3 d4 d5 d6 d7 d8
        have e0 := hb0'.frozen 0
        have e1 := hb0'.frozen 1
        have e2 := hb0'.frozen 2
        have e3 := hb0'.frozen 3
        have e4 := hb0'.frozen 4
        have e5 := hb0'.frozen 5
        have e6 := hb0'.frozen 6
        have e7 := hb0'.frozen 7
        have e8 := hb0'.frozen 8
        have hoff0 : o0 = off0 u.data.toList := by
          unfold off0
          rw [unhide HI, ← unhide HSB]
          exact unhide HO0
        have hoff : o1 = off1 u.data.toList := by
          unfold off1
          rw [← hoff0, ← unhide HRD, unhide HAB, unhide HO1]
          cases aB with
          | false => rfl
          | true =>
            have h1 := unhide HTD
            simp only [if_true] at h1 ⊢
            rw [← h1]
            unfold authEnd
            rw [unhide HN, ← size_list, unhide HK]
        have hsum : (if sB then sc.size + 1 else 0) + (if aB then 2 + au.size else 0) = off1 u.data.toList := by
          rw [← hoff, ← unhide HAU, unhide HSC]
          omega
        have hcc : Lib.cut (Lib.cut (u.data.toList.drop (off1 u.data.toList)) [35]).1 [63] = (x2.data.toList, y2.data.toList, b2) := by
          rw [← hoff, ← unhide HR2]
          have h1 := unhide HC1
          rw [h1]
          exact unhide HC2
        have HSUM := hide hsum
        have HCC := hide hcc
        clear hoff0 hoff hsum hcc
        go_wp2
        refine bodyPost_ret (v := .agg (P9 sc au x2 y2 y1 sB aB b2 b1)) ?_ rfl ⟨sc, au, x2, y2, y1, sB, aB, b2, b1, rfl, unhide HSUM, unhide HCC, ?_⟩
        · simp [results, Try.results34, go_sem, P9, d0, d1, d2, d3, d4, d5, d6, d7, d8]
        · refine Below.setCell (Below.setCell (Below.setCell (Below.setCell (Below.setCell (Below.setCell (Below.setCell (Below.setCell (Below.setCell (Below.setCell (Below.setCell (Below.setCell (below_drewN hbw' nd2) ?_ _) ?_ _) ?_ _) ?_ _) ?_ _) ?_ _) ?_ _) ?_ _) ?_ _) ?_ _) ?_ _) ?_ _
          all_goals simp
end Go.Proofs.Qxb6602100a
