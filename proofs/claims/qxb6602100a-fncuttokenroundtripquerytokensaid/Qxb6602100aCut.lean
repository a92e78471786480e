/-
  DERIVED. WALK: cutToken.
-/
import Derived.Test.Qxb6602100aPlain
import Derived.BigQuiet
namespace Go.Proofs.Qxb6602100a
open Go.RowKit
theorem cut_len1 (l : List UInt8) (c : UInt8) : (Lib.cut l [c]).1.length ≤ l.length ∧ (Lib.cut l [c]).2.1.length ≤ l.length := by
  unfold Lib.cut
  split <;> simp
  omega
set_option maxHeartbeats 1000000 in
theorem w36' (sc au pa qu fr : ByteArray) (sB aB qB fB : Bool) (o : Nat) (w : World) (h1 : sB = true → sc.size ≤ 1048576) (h2 : aB = true → au.size ≤ 1048576) (ho : (if sB then sc.size + 1 else 0) + (if aB then 2 + au.size else 0) = o) :
    Calls Try.prog 36 #[.agg #[.string sc, .string au, .string pa, .string qu, .string fr, .bool sB, .bool aB, .bool qB, .bool fB]] w fun e w' => e = .returned (.int .i64 o) ∧ Below w.heap.size w w' := by
  have HO := hide ho
  clear ho
  cases sB
  all_goals
    cases aB
    all_goals
      try have hsc := h1 rfl
      try have hau := h2 rfl
      clear h1 h2
      go_enter Try.func36, Try.ntmps36
      go_wp2
      go_ret
      refine ⟨?_, (Below.refl _ _).alloc (Nat.le_refl _) _⟩
      rw [← unhide HO]
      simp
      try omega
theorem w36 (sc au pa qu fr : ByteArray) (sB aB qB fB : Bool) (o : Nat) (w : World) (hs : o ≤ 1048576) (ho : (if sB then sc.size + 1 else 0) + (if aB then 2 + au.size else 0) = o) :
    Calls Try.prog 36 #[.agg (P9 sc au pa qu fr sB aB qB fB)] w fun e w' => e = .returned (.int .i64 o) ∧ Below w.heap.size w w' :=
  w36' sc au pa qu fr sB aB qB fB o w (by intro h; rw [h] at ho; simp at ho; omega) (by intro h; rw [h] at ho; simp at ho; omega) ho
theorem Blk.nine {w : World} {b : Nat} {sc au pa qu fr : ByteArray} {sB aB qB fB : Bool} (h : Blk w b (P9 sc au pa qu fr sB aB qB fB)) :
    w.cell? ⟨b, 0, none⟩ = some (.string sc) ∧ w.cell? ⟨b, 1, none⟩ = some (.string au) ∧ w.cell? ⟨b, 2, none⟩ = some (.string pa) ∧ w.cell? ⟨b, 3, none⟩ = some (.string qu) ∧ w.cell? ⟨b, 4, none⟩ = some (.string fr) ∧ w.cell? ⟨b, 5, none⟩ = some (.bool sB) ∧ w.cell? ⟨b, 6, none⟩ = some (.bool aB) ∧ w.cell? ⟨b, 7, none⟩ = some (.bool qB) ∧ w.cell? ⟨b, 8, none⟩ = some (.bool fB) :=
  ⟨h.cell 0, h.cell 1, h.cell 2, h.cell 3, h.cell 4, h.cell 5, h.cell 6, h.cell 7, h.cell 8⟩
theorem c35 (s sub : ByteArray) (l : List UInt8) (x M : Int) (w : World) (hs : s.size ≤ 1048576) (hm : w.cell? ⟨0, 0, none⟩ = some (.int .i64 M)) (hl : sub.data.toList = l) (hx : Lib.index s.data.toList l = x) :
    Calls Try.prog 35 #[.string s, .string sub] w fun e w' => e = .returned (.int .i64 x) ∧ w' = w := by
  subst hx
  subst hl
  exact Try.strings_Index s sub M w (by omega) hm
theorem c37 (s p : ByteArray) (l : List UInt8) (b : Bool) (w : World) (hl : p.data.toList = l) (hx : Lib.hasPrefix s.data.toList l = b) :
    Calls Try.prog 37 #[.string s, .string p] w fun e w' => e = .returned (.bool b) ∧ w' = w := by
  subst hx
  subst hl
  exact Try.strings_HasPrefix s p w
def endOf (u : ByteArray) (k : Nat) : Nat := k + 19 + stop [58, 47, 63, 35, 91, 93, 64, 33, 36, 38, 39, 40, 41, 42, 43, 44, 59, 61] (u.data.toList.drop (k + 19))
def subD (c : UInt8) : Bool := [33, 36, 38, 39, 40, 41, 42, 43, 44, 59, 61].contains c
theorem subD_index (c : UInt8) : subD c = decide (0 ≤ Lib.indexByte [33, 36, 38, 39, 40, 41, 42, 43, 44, 59, 61] c) := by
  unfold subD
  have h := Lib.indexByte_ge [33, 36, 38, 39, 40, 41, 42, 43, 44, 59, 61] c
  rw [Bool.eq_iff_iff, List.contains_iff_mem, decide_eq_true_eq]
  constructor
  · intro hm
    by_cases h1 : Lib.indexByte [33, 36, 38, 39, 40, 41, 42, 43, 44, 59, 61] c = -1
    · obtain ⟨i, hi⟩ := List.mem_iff_getElem?.1 hm
      exact absurd hi (Lib.indexByte_none h1 i)
    · omega
  · intro h0
    obtain ⟨o, ho⟩ : ∃ o : Nat, Lib.indexByte [33, 36, 38, 39, 40, 41, 42, 43, 44, 59, 61] c = o := ⟨(Lib.indexByte [33, 36, 38, 39, 40, 41, 42, 43, 44, 59, 61] c).toNat, by omega⟩
    exact List.mem_iff_getElem?.2 ⟨o, (Lib.indexByte_some ho).1⟩
def restOf (u : ByteArray) (k : Nat) : ByteArray :=
  if (decide (endOf u k < u.size) && subD (u.data.toList.getD (endOf u k) 0)) = true then u.extract 0 (k + 1) ++ u.extract (endOf u k + 1) u.size else u.extract 0 k ++ u.extract (endOf u k) u.size
def tupOf (u : ByteArray) : Value := if cutAt u.data.toList < 0 then .tuple #[.string ⟨#[]⟩, .string u, .bool false] else .tuple #[.string (u.extract ((cutAt u.data.toList).toNat + 19) (endOf u (cutAt u.data.toList).toNat)), .string (restOf u (cutAt u.data.toList).toNat), .bool true]
set_option maxRecDepth 100000 in
set_option maxHeartbeats 4000000 in
theorem w29 (u : ByteArray) (w : World) (M : Int) (hm : w.cell? ⟨0, 0, none⟩ = some (.int .i64 M)) (hs : u.size ≤ 1048576) :
    Calls Try.prog 29 #[.string u] w fun e w' => e = .returned (tupOf u) ∧ Below w.heap.size w w' := by
  have hM0 : 0 < w.heap.size := World.block_lt_of_cell? w _ hm
  have HM : Hid (∀ wx, Below w.heap.size w wx → wx.cell? ⟨0, 0, none⟩ = some (.int .i64 M)) := fun wx hx => by rw [hx.cell (p := ⟨0, 0, none⟩) hM0]; exact hm
  go_enter Try.func29, Try.ntmps29
  go_wp2_with fail
  refine (w34 u _ M hm hs).mono ?_
  rintro e w1 ⟨sc, au, pa, qu, fr, sB, aB, qB, fB, rfl, ho, hc, hbel⟩
  clear hm
  have hole : off1 u.data.toList ≤ u.size := by rw [size_list]; exact off1_le _
  obtain ⟨o, hoe⟩ : ∃ o, off1 u.data.toList = o := ⟨_, rfl⟩
  have hpick : cutAt u.data.toList = lift o (pick3 (pa.data.toList, qu.data.toList, qB)) := by
    unfold cutAt
    rw [hc, hoe]
  have hsub1 : pa.size + o ≤ u.size ∧ qu.size ≤ u.size := by
    have h1 := congrArg (fun z => z.1.length) hc
    have h2 := congrArg (fun z => z.2.1.length) hc
    simp only at h1 h2
    rw [← size_list] at h1 h2
    have h3 := cut_len1 (u.data.toList.drop (off1 u.data.toList)) 35
    have h4 := cut_len1 (Lib.cut (u.data.toList.drop (off1 u.data.toList)) [35]).1 63
    rw [List.length_drop, ← size_list] at h3
    omega
  rw [hoe] at ho hole
  clear hc
  have HO := hide ho
  have HP := hide hpick
  clear ho hpick hoe
  unfold P9
  go_upto_region 4 with fail
  obtain ⟨W, hWe⟩ : ∃ W, W = w1.alloc (.cells (P9 sc au pa qu fr sB aB qB fB) 35) := ⟨_, rfl⟩
  have hB : Blk W w1.heap.size (P9 sc au pa qu fr sB aB qB fB) := by rw [hWe]; exact heap_alloc_new w1 _
  have hbw : Below w.heap.size w W := by rw [hWe]; exact hbel.alloc (hbel.size) _
  have hWs : W.heap.size = w1.heap.size + 1 := by rw [hWe]; simp
  unfold P9 at hWe
  rw [← hWe]
  clear hWe
  obtain ⟨x, hx⟩ : ∃ x, Lib.index pa.data.toList (59 :: attr) = x := ⟨_, rfl⟩
  obtain ⟨y, hy⟩ : ∃ y, Lib.index qu.data.toList (38 :: attr) = y := ⟨_, rfl⟩
  obtain ⟨p, hp⟩ : ∃ p, Lib.hasPrefix qu.data.toList attr = p := ⟨_, rfl⟩
  have hxr := Lib.index_room pa.data.toList (59 :: attr)
  have hyr := Lib.index_room qu.data.toList (38 :: attr)
  have hxg := Lib.index_ge pa.data.toList (59 :: attr)
  have hyg := Lib.index_ge qu.data.toList (38 :: attr)
  rw [hx] at hxr hxg
  rw [hy] at hyr hyg
  rw [← size_list] at hxr hyr
  simp only [attr, List.length_cons, List.length_nil] at hxr hyr
  have HX := hide hx
  have HY := hide hy
  have HPP := hide hp
  have hpk : pick3 (pa.data.toList, qu.data.toList, qB) = if 0 ≤ x then x else if (qB && p) = true then (pa.size : Int) else if (qB && decide (0 ≤ y)) = true then (pa.size : Int) + 1 + y else -1 := by
    unfold pick3
    simp only [hx, hy, hp, ← size_list]
  have HPK := hide hpk
  clear hpk hx hy hp
  have hmW := unhide HM _ hbw
  obtain ⟨c0, c1, c2, c3, c4, c5, c6, c7, c8⟩ := hB.nine
  go_wp2_with fail
  refine (c35 pa _ (59 :: attr) x M _ (by omega) hmW (by decide) (unhide HX)).mono ?_
  rintro e w' ⟨rfl, hw'⟩
  subst w'
  go_upto_if 23 with fail
  go_cut [7] (fun s7 wx => s7 = .int .i64 (cutAt u.data.toList) ∧ Below w.heap.size w wx)
  case first =>
    by_cases hx0 : 0 ≤ x
    · have hxd : decide (0 ≤ x) = true := by simpa using hx0
      go_wp2_with fail
      refine (w36 sc au pa qu fr sB aB qB fB o _ (by omega) (unhide HO)).mono ?_
      rintro e w2 ⟨rfl, hb2⟩
      go_wp2_with fail
      go_meet
      refine ⟨?_, hbw.trans (hb2.mono hbw.size)⟩
      rw [unhide HP, unhide HPK, if_pos hx0]
      unfold lift
      rw [if_neg (by omega)]
    · have hxd : decide (0 ≤ x) = false := by simpa using hx0
      go_upto_region 7 with fail
      go_cut [9] (fun s9 wx => s9 = .int .i64 ((o : Int) + pa.size) ∧ Blk wx w1.heap.size (P9 sc au pa qu fr sB aB qB fB) ∧ Below w.heap.size w wx)
      case first =>
        go_region_with (go_at_call 36; refine (w36 sc au pa qu fr sB aB qB fB o _ ?_ ?_).mono ?_; omega; exact unhide HO; rintro e w2 ⟨rfl, hb2⟩; have hB2 := hB.drew.below hb2 (show w1.heap.size < W.heap.size by omega); have hbw2 := hbw.drew.trans (hb2.mono hbw.drew.size); clear c0 c1 c2 c3 c4 c5 c6 c7 c8; obtain ⟨c0, c1, c2, c3, c4, c5, c6, c7, c8⟩ := hB2.nine)
        all_goals
          go_wp2_with fail
          go_meet
          refine ⟨?_, hB2, hbw2⟩
          exact congrArg (Value.int .i64) (wrap_small _ (by omega) (by omega))
      case rest =>
        obtain ⟨rfl, hB, hbw⟩ := hcut
        clear c0 c1 c2 c3 c4 c5 c6 c7 c8 hmW
        obtain ⟨c0, c1, c2, c3, c4, c5, c6, c7, c8⟩ := hB.nine
        have hmW := unhide HM _ hbw
        have hfin : ∀ z : Int, (if (qB && p) = true then (pa.size : Int) else if (qB && decide (0 ≤ y)) = true then (pa.size : Int) + 1 + y else -1) = z → cutAt u.data.toList = lift o z := by
          rintro z rfl
          rw [unhide HP, unhide HPK, if_neg hx0]
        have HF := hide hfin
        clear hfin
        cases qB with
        | false =>
          go_wp2_with fail
          refine (c35 qu _ (38 :: attr) y M _ (by omega) hmW (by decide) (unhide HY)).mono ?_
          rintro e w' ⟨rfl, hw'⟩
          subst w'
          go_wp2_with fail
          go_meet
          refine ⟨?_, hbw⟩
          rw [unhide HF (-1) (by simp)]
          rfl
        | true =>
          go_wp2_with fail
          refine (c37 qu _ attr p _ rfl (unhide HPP)).mono ?_
          rintro e w' ⟨rfl, hw'⟩
          subst w'
          cases p with
          | true =>
            go_wp2_with fail
            go_meet
            refine ⟨?_, hbw⟩
            rw [unhide HF pa.size (by simp)]
            unfold lift
            rw [if_neg (by omega)]
          | false =>
            go_wp2_with fail
            refine (c35 qu _ (38 :: attr) y M _ (by omega) hmW (by decide) (unhide HY)).mono ?_
            rintro e w' ⟨rfl, hw'⟩
            subst w'
            by_cases hy0 : 0 ≤ y
            · have hyd : decide (0 ≤ y) = true := by simpa using hy0
              go_wp2_with fail
              go_meet
              refine ⟨?_, hbw⟩
              rw [unhide HF (pa.size + 1 + y) (by simp [hy0])]
              unfold lift
              rw [if_neg (by omega)]
              simp
              omega
            · have hyd : decide (0 ≤ y) = false := by simpa using hy0
              go_wp2_with fail
              go_meet
              refine ⟨?_, hbw⟩
              rw [unhide HF (-1) (by rw [if_neg (by decide), if_neg (by simp; omega)])]
              rfl
  case rest =>
    obtain ⟨rfl, hbw'⟩ := hcut
    clear c0 c1 c2 c3 c4 c5 c6 c7 c8 hmW hB hWs hbw HO HP HX HY HPP HPK HM
    have hg := cutAt_ge u.data.toList
    have hroom := cutAt_room u.data.toList
    have htup : ∀ at' : Int, cutAt u.data.toList = at' → tupOf u = if at' < 0 then .tuple #[.string ⟨#[]⟩, .string u, .bool false] else .tuple #[.string (u.extract (at'.toNat + 19) (endOf u at'.toNat)), .string (restOf u at'.toNat), .bool true] := by
      rintro at' rfl
      rfl
    generalize cutAt u.data.toList = at' at hg hroom htup ⊢
    have htup' := htup at' rfl
    have HT := hide htup'
    clear htup htup'
    by_cases hneg : at' < 0
    · have hd : decide (at' < 0) = true := by simpa using hneg
      go_wp2_with fail
      refine bodyPost_ret (v := tupOf u) ?_ rfl ⟨rfl, hbw'⟩
      rw [unhide HT, if_pos hneg]
      simp [results, Try.results29, go_sem]
    · obtain ⟨k, rfl⟩ : ∃ k : Nat, at' = k := ⟨at'.toNat, by omega⟩
      have hd : decide ((k : Int) < 0) = false := by simp
      have hk := hroom k rfl
      rw [← size_list] at hk
      clear hroom hg
      have htd : (u.extract (k + 1 + 18) u.size).data.toList = u.data.toList.drop (k + 19) := Lib.extract_to_end _ _
      have hts : (u.extract (k + 1 + 18) u.size).size ≤ 1048576 := by simp; omega
      have HTD := hide htd
      clear htd
      have he1 : endOf u k ≤ u.size := by
        have := stop_le [58, 47, 63, 35, 91, 93, 64, 33, 36, 38, 39, 40, 41, 42, 43, 44, 59, 61] (u.data.toList.drop (k + 19))
        rw [List.length_drop, ← size_list] at this
        unfold endOf
        omega
      have he0 : k + 19 ≤ endOf u k := by unfold endOf; omega
      obtain ⟨n, hn⟩ : ∃ n, Lib.indexAny (u.data.toList.drop (k + 19)) [58, 47, 63, 35, 91, 93, 64, 33, 36, 38, 39, 40, 41, 42, 43, 44, 59, 61] = n := ⟨_, rfl⟩
      have hen : endOf u k = k + 19 + (if n < 0 then u.size - (k + 19) else n.toNat) := by
        unfold endOf stop
        rw [hn, List.length_drop, ← size_list]
      have hng := Lib.indexAny_ge [58, 47, 63, 35, 91, 93, 64, 33, 36, 38, 39, 40, 41, 42, 43, 44, 59, 61] (u.data.toList.drop (k + 19))
      rw [hn] at hng
      obtain ⟨e, hee⟩ : ∃ e, endOf u k = e := ⟨_, rfl⟩
      rw [hee] at he1 he0 hen
      have HN := hide hn
      have HEN := hide hen
      have HEE := hide hee
      clear hn hen hee
      go_wp2_with fail
      refine (w38 _ ⟨#[58, 47, 63, 35, 91, 93, 64, 33, 36, 38, 39, 40, 41, 42, 43, 44, 59, 61]⟩ _ (by decide) hts (by decide) (ascii_of [58, 47, 63, 35, 91, 93, 64, 33, 36, 38, 39, 40, 41, 42, 43, 44, 59, 61] (by decide))).mono ?_
      rintro ee w2 ⟨rfl, hb2⟩
      rw [show (Lib.indexAny (u.extract (k + 1 + 18) u.size).data.toList (⟨#[58, 47, 63, 35, 91, 93, 64, 33, 36, 38, 39, 40, 41, 42, 43, 44, 59, 61]⟩ : ByteArray).data.toList) = n from by rw [unhide HTD]; exact unhide HN]
      have hbw2 : Below w.heap.size w w2 := hbw'.trans (hb2.mono hbw'.size)
      clear hb2 hbw'
      go_upto_if 74 with fail
      go_cut [13] (fun s13 wx => wx = w2 ∧ s13 = .int .i64 e)
      case first =>
        by_cases hn0 : n < 0
        · have hdn : decide (0 ≤ n) = false := by simp; omega
          have hee : e = u.size := by have := unhide HEN; rw [if_pos hn0] at this; omega
          go_wp2_with fail
          go_meet
          exact ⟨rfl, by rw [hee]⟩
        · have hdn : decide (0 ≤ n) = true := by simp; omega
          have hee : e = k + 19 + n.toNat := by have := unhide HEN; rw [if_neg hn0] at this; exact this
          go_wp2_with fail
          go_meet
          refine ⟨rfl, congrArg (Value.int .i64) ?_⟩
          omega
      case rest =>
        obtain ⟨hw2, rfl⟩ := hcut
        subst hw2
        obtain ⟨w2, hw2⟩ : ∃ w2, w2 = wc := ⟨_, rfl⟩
        subst hw2
        obtain ⟨b, hb⟩ : ∃ b : Bool, b = (decide (e < u.size) && subD (u.data.toList.getD e 0)) := ⟨_, rfl⟩
        have HB := hide hb
        clear hb
        have hrest : restOf u k = if b = true then u.extract 0 (k + 1) ++ u.extract (e + 1) u.size else u.extract 0 k ++ u.extract e u.size := by
          unfold restOf
          rw [unhide HEE, ← unhide HB]
        have htt : tupOf u = .tuple #[.string (u.extract (k + 19) e), .string (restOf u k), .bool true] := by
          rw [unhide HT, if_neg (by omega)]
          simp only [Int.toNat_natCast]
          rw [unhide HEE]
        have HRE := hide hrest
        have HTT := hide htt
        clear hrest htt
        have hi1 : (k : Int) + 1 + 18 ≤ (e : Int) := by omega
        have hi2 : (e : Int) ≤ (u.size : Int) := by omega
        have hi3 : (0 : Int) ≤ (k : Int) + 1 + 18 := by omega
        go_upto_region 22 with fail
        go_cut [92] (fun s92 wx => wx = w2 ∧ s92 = .bool b)
        case first =>
          by_cases hlt : e < u.size
          · have hltI : ((e : Int) < (u.size : Int)) := by omega
            have hdl : decide ((e : Int) < (u.size : Int)) = true := by simpa using hlt
            obtain ⟨m, hmm⟩ : ∃ m, Lib.indexByte (⟨#[33, 36, 38, 39, 40, 41, 42, 43, 44, 59, 61]⟩ : ByteArray).data.toList ((u[e].toNat : Int)).toNat.toUInt8 = m := ⟨_, rfl⟩
            have hmm' : Lib.indexByte [33, 36, 38, 39, 40, 41, 42, 43, 44, 59, 61] u[e] = m := by
              rw [← hmm]
              show _ = Lib.indexByte [33, 36, 38, 39, 40, 41, 42, 43, 44, 59, 61] _
              congr 1
              simp
            have hbm : b = decide (0 ≤ m) := by
              rw [unhide HB, List.getD_eq_getElem?_getD, getElem_l u e hlt]
              simp only [hlt, decide_true, Bool.true_and, Option.getD_some]
              rw [subD_index, hmm']
            clear hmm'
            have HMM := hide hmm
            clear hmm
            go_wp2_with fail
            refine (c39 _ _ m (unhide HMM) _).mono ?_
            rintro ee w' ⟨rfl, hw'⟩
            subst w'
            go_wp2_with fail
            go_meet
            exact ⟨rfl, by rw [hbm]⟩
          · have hdl : decide ((e : Int) < (u.size : Int)) = false := by simp; omega
            go_wp2_with fail
            go_meet
            refine ⟨rfl, ?_⟩
            rw [unhide HB]
            simp [hlt]
        case rest =>
          obtain ⟨hw2, rfl⟩ := hcut
          subst hw2
          have hblt : b = true → e < u.size := by
            intro h
            have := unhide HB
            rw [h] at this
            have := this.symm
            simp only [Bool.and_eq_true, decide_eq_true_eq] at this
            exact this.1
          cases b with
          | true =>
            have hlt := hblt rfl
            clear hblt
            have j1 : (0 : Int) ≤ (k : Int) + 1 := by omega
            have j2 : (k : Int) + 1 ≤ (u.size : Int) := by omega
            have j3 : (0 : Int) ≤ (e : Int) + 1 := by omega
            have j4 : (e : Int) + 1 ≤ (u.size : Int) := by omega
            go_wp2
            go_quiet (fail)
            go_wp2
            refine bodyPost_ret (v := tupOf u) ?_ rfl ⟨rfl, below_drewN hbw2 _⟩
            rw [unhide HTT, unhide HRE]
            simp [results, Try.results29, go_sem]
          | false =>
            have j1 : (0 : Int) ≤ (k : Int) := by omega
            have j2 : (k : Int) ≤ (u.size : Int) := by omega
            have j3 : (0 : Int) ≤ (e : Int) := by omega
            go_wp2
            go_quiet (fail)
            go_wp2
            refine bodyPost_ret (v := tupOf u) ?_ rfl ⟨rfl, below_drewN hbw2 _⟩
            rw [unhide HTT, unhide HRE]
            simp [results, Try.results29, go_sem]
end Go.Proofs.Qxb6602100a
