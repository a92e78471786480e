/-
  DERIVED. WALK: spliceLines.
-/
import Derived.Test.Qxb6602227aSplice
import Derived.Deep.DeepCutAuto
import Derived.Deep.CutBlock
namespace Go.Proofs.Qxb6602227a
open Go.RowKit
theorem c27n (s : ByteArray) (x : Int) (w : World) (hx : Lib.indexByte s.data.toList 10 = x) : Calls Try.prog 27 #[.string s, .int .u8 10] w fun e w' => e = .returned (.int .i64 x) ∧ w' = w := by
  subst hx
  exact Try.strings_IndexByte s 10 w
def wsx (c : UInt8) : Int := Lib.indexByte [32, 9, 12, 11, 13] c
theorem wsx_ws (c : UInt8) : ws c = decide (0 ≤ wsx c) := by
  unfold ws wsx
  have h := Lib.indexByte_ge [32, 9, 12, 11, 13] c
  rw [Bool.eq_iff_iff, List.contains_iff_mem, decide_eq_true_eq]
  constructor
  · intro hm
    by_cases h1 : Lib.indexByte [32, 9, 12, 11, 13] c = -1
    · obtain ⟨i, hi⟩ := List.mem_iff_getElem?.1 hm
      exact absurd hi (Lib.indexByte_none h1 i)
    · omega
  · intro h0
    obtain ⟨o, ho⟩ : ∃ o : Nat, Lib.indexByte [32, 9, 12, 11, 13] c = o := ⟨(Lib.indexByte [32, 9, 12, 11, 13] c).toNat, by omega⟩
    exact List.mem_iff_getElem?.2 ⟨o, (Lib.indexByte_some ho).1⟩
theorem c27w (c : UInt8) (s : ByteArray) (x : Int) (w : World) (hs : s.data.toList = [32, 9, 12, 11, 13]) (hx : wsx c = x) : Calls Try.prog 27 #[.string s, .int .u8 c.toNat] w fun e w' => e = .returned (.int .i64 x) ∧ w' = w := by
  subst hx
  have h := Try.strings_IndexByte s c.toNat w
  have e : ((c.toNat : Nat) : Int).toNat.toUInt8 = c := by simp
  rw [e, hs] at h
  exact h
/-- The builder: untouched while nothing is done, holding o after. -/
def Bld (w : World) (b d : Nat) (o : List UInt8) : Prop := (d = 0 ∧ w.heap[b]? = some (.cells #[.pointer none, .slice none 0 0] 31 (0, 0))) ∨ (0 < d ∧ Lib.IsBuilder 31 5 b b (Lib.byteCells o) w)
set_option maxRecDepth 100000 in
set_option maxHeartbeats 4000000 in
theorem w20 (p : ByteArray) (w : World) (hs : p.size ≤ 1048576) : Calls Try.prog 20 #[.string p] w fun e w' => e = .returned (.string ⟨(sp p.data.toList).toArray⟩) ∧ Below w.heap.size w w' := by
  obtain ⟨l, hl⟩ : ∃ l, p.data.toList = l := ⟨_, rfl⟩
  have hls : l.length = p.size := by rw [← hl, ← size_list]
  have HL := hide hl
  have HLS := hide hls
  rw [hl]
  clear hl hls
  go_enter Try.func20, Try.ntmps20
  go_wp2
  obtain ⟨W0, hW0⟩ : ∃ W, W = w.alloc (.cells #[.pointer none, .slice none 0 0] 31) := ⟨_, rfl⟩
  have hbel0 : Below w.heap.size w W0 := by rw [hW0]; exact (Below.refl _ _).alloc (Nat.le_refl _) _
  have hblk0 : W0.heap[w.heap.size]? = some (.cells #[.pointer none, .slice none 0 0] 31 (0, 0)) := by rw [hW0]; exact heap_alloc_new w _
  rw [← hW0]
  clear hW0
  go_loopw [4, 5] (fun v4 v5 wr => ∃ (d f : Nat) (o : List UInt8), v4 = .int .i64 d ∧ v5 = .int .i64 f ∧ Sofar l o d f ∧ Below w.heap.size w wr ∧ Bld wr w.heap.size d o) (fun _ v5 _ => p.size + 1 - (intOf v5).toNat)
  case atStart => exact ⟨0, 0, [], rfl, rfl, sofar_start l, hbel0, .inl ⟨rfl, hblk0⟩⟩
  case round =>
    clear hbel0 hblk0
    obtain ⟨d, f, o, rfl, rfl, hso, hbel, hbld⟩ := hrel
    have hdf := hso.df
    have hfl := hso.fl
    have hol := hso.ol
    have hszr := hbel.size
    rw [unhide HLS] at hfl
    have hF0 : (0 : Int) ≤ (f : Int) := by omega
    have hF1 : (f : Int) ≤ (p.size : Int) := by omega
    have HSO := hide hso
    have HBD := hide hbld
    clear hso hbld
    obtain ⟨x, hx⟩ : ∃ x, Lib.indexByte (l.drop f) 10 = x := ⟨_, rfl⟩
    have hxe : Lib.indexByte (p.extract f p.size).data.toList 10 = x := by
      rw [seg_ext, unhide HL, ← hx]
      unfold seg
      rw [List.take_of_length_le (by rw [List.length_drop, unhide HLS]; omega)]
    have HXE := hide hxe
    have hxg := Lib.indexByte_ge (l.drop f) 10
    rw [hx] at hxg
    have HX := hide hx
    clear hx hxe
    by_cases hneg : x = -1
    · subst hneg
      have hfin := sofar_end (unhide HSO) (unhide HX)
      have HFIN := hide hfin
      have hd0 : (0 : Int) ≤ (d : Int) := by omega
      have hd1 : (d : Int) ≤ (p.size : Int) := by omega
      clear hfin
      rcases unhide HBD with ⟨hd, hblk⟩ | ⟨hd, hbu⟩
      · have hdb : ((d : Int) == 0) = true := by rw [hd]; rfl
        have HD := hide hd
        clear hd hblk
        go_wp2_with (go_at_call 27; refine (c27n _ (-1) _ (unhide HXE)).mono ?_; rintro e w' ⟨rfl, hw'⟩; subst w')
        go_ret
        refine ⟨?_, hbel⟩
        have ho := (unhide HSO).o0 (unhide HD)
        have h := unhide HFIN
        rw [unhide HD, ho, List.nil_append, List.drop_zero] at h
        rw [h, ← unhide HL]
        rfl
      · have hdb : ((d : Int) == 0) = false := by rw [beq_eq_false_iff_ne]; omega
        have HBU := hide hbu
        have hxd : Lib.byteCells o ++ Lib.strCells (p.extract d p.size) = Lib.byteCells (sp l) := by
          rw [Lib.strCells_eq, ← Lib.byteCells_append, unhide HFIN, seg_ext, unhide HL]
          unfold seg
          rw [List.take_of_length_le (by rw [List.length_drop, unhide HLS]; omega)]
        have HXD := hide hxd
        clear hbu hxd
        go_wp2_with (first
          | (go_at_call 27; refine (c27n _ (-1) _ (unhide HXE)).mono ?_; rintro e w' ⟨rfl, hw'⟩; subst w')
          | (go_at_call 29; refine (Try.Builder_WriteString w.heap.size w.heap.size _ _ _ (unhide HBU) ?_ hszr).mono ?_; (rw [Lib.byteCells_length, ByteArray.size_extract]; omega); rintro e w1 ⟨rfl, hb1, hbel1⟩; rw [unhide HXD] at hb1)
          | (go_at_call 30; refine (Try.Builder_String_any w.heap.size w.heap.size _ _ (.inr hb1) (Nat.le_trans hszr hbel1.size)).mono ?_; rintro e w2 ⟨rfl, hbel2⟩))
        go_ret
        exact ⟨rfl, hbel.trans (hbel1.trans hbel2)⟩
    · obtain ⟨k, rfl⟩ : ∃ k : Nat, x = k := ⟨x.toNat, by omega⟩
      clear hneg hxg
      obtain ⟨n1, _, _, _⟩ := next_nl l f k (unhide HX)
      rw [unhide HLS] at n1
      have hk0 : decide ((k : Int) < 0) = false := by simp
      go_wp2_with (go_at_call 27; refine (c27n _ k _ (unhide HXE)).mono ?_; rintro e w' ⟨rfl, hw'⟩; subst w')
      go_loopw [7] (fun v7 wr' => ∃ e : Nat, f ≤ e ∧ e ≤ f + k ∧ v7 = .int .i64 e ∧ (seg l e (f + k)).all ws = true ∧ wr' = wr) (fun v7 _ => (intOf v7).toNat)
      case atStart => exact ⟨f + k, by omega, by omega, by go_num, by rw [seg_self]; rfl, rfl⟩
      case round =>
        obtain ⟨e, hfe, hen, rfl, hall, hw⟩ := hrel
        subst hw
        have HALL := hide hall
        clear hall
        by_cases he0 : 0 < e
        · have hd1 : decide ((0 : Int) < (e : Int)) = true := by simp; omega
          have hd1' : decide (0 < e) = true := by simp; omega
          have hE0 : (1 : Int) ≤ (e : Int) := by omega
          have hE1 : (e : Int) - 1 < (p.size : Int) := by omega
          have hE2 : (0 : Int) ≤ (e : Int) - 1 := by omega
          have hE3 : e - 1 < p.size := by omega
          have hge : l[e - 1]? = some p[e - 1] := by rw [← unhide HL]; exact getElem_l p (e - 1) (by omega)
          have HG := hide hge
          clear hge
          obtain ⟨y, hy⟩ : ∃ y, wsx p[e - 1] = y := ⟨_, rfl⟩
          have hwy := wsx_ws p[e - 1]
          rw [hy] at hwy
          have HY := hide hy
          clear hy
          by_cases hy0 : 0 ≤ y
          · have dy : decide (0 ≤ y) = true := by simpa using hy0
            rw [dy] at hwy
            have hfe' : f ≤ e - 1 := by
              rcases Nat.lt_or_ge f e with h' | h'
              · omega
              · have hef : f = e := by omega
                rcases (unhide HSO).nl with h2 | h2
                · omega
                · rw [hef, unhide HG] at h2
                  simp only [Option.some.injEq] at h2
                  rw [h2, ws10] at hwy
                  cases hwy
            have hnx : (seg l (e - 1) (f + k)).all ws = true := by
              rw [← seg_app l (e - 1) e (f + k) (by omega) hen, List.all_append, unhide HALL]
              have h1 := seg_one l (e - 1) _ (unhide HG)
              rw [show e - 1 + 1 = e from by omega] at h1
              rw [h1]
              simp [hwy]
            have HNX := hide hnx
            clear hnx hwy
            go_wp2_with (go_at_call 27; refine (c27w p[e - 1] _ y _ rfl (unhide HY)).mono ?_; rintro ex w' ⟨rfl, hw'⟩; subst w')
            go_roundw
            case rel => exact ⟨e - 1, hfe', by omega, by rw [Value.int.injEq]; exact ⟨rfl, by omega⟩, unhide HNX, by first | rfl | trivial⟩
            case measure => simp [intOf]; omega
          · have dy : decide (0 ≤ y) = false := by simpa using hy0
            rw [dy] at hwy
            clear hy0
            by_cases h92 : p[e - 1] = 92
            · have m92 := byte_is _ 92 (by omega) h92
              simp only [Int.cast_ofNat_Int] at m92
              obtain ⟨hde, hnx⟩ := sofar_cut (unhide HSO) k e (unhide HX) hfe hen (unhide HALL) he0 (by rw [unhide HG, h92])
              have hxd : Lib.byteCells o ++ Lib.strCells (p.extract d (e - 1)) = Lib.byteCells (o ++ seg l d (e - 1)) := by
                rw [Lib.strCells_eq, ← Lib.byteCells_append, seg_ext, unhide HL]
              have HXD := hide hxd
              have HNX := hide hnx
              have hD0 : (0 : Int) ≤ (d : Int) := by omega
              have hD1 : (d : Int) ≤ (e : Int) - 1 := by omega
              have hD2 : (e : Int) - 1 ≤ (p.size : Int) := by omega
              clear hxd hnx h92 hwy
              rcases unhide HBD with ⟨hd, hblk⟩ | ⟨hd, hbu⟩
              · have hdb : ((d : Int) == 0) = true := by rw [hd]; rfl
                have ho := (unhide HSO).o0 hd
                have HO := hide ho
                have HBK := hide hblk
                have HD := hide hd
                clear hd hblk ho
                go_wp2_with (first
                  | (go_at_call 27; refine (c27w p[e - 1] _ y _ rfl (unhide HY)).mono ?_; rintro ex w' ⟨rfl, hw'⟩; subst w')
                  | (go_at_call 28; refine (Try.Builder_Grow_fresh w.heap.size w.heap.size _ _ (Nat.le_refl _) (unhide HBK) hszr ?_).mono ?_; omega; rintro ex w1 ⟨rfl, hb1, hbel1⟩)
                  | (go_at_call 29; refine (Try.Builder_WriteString w.heap.size w.heap.size [] _ _ (.inr hb1) ?_ (Nat.le_trans hszr hbel1.size)).mono ?_; (rw [List.length_nil, ByteArray.size_extract]; omega); rintro ex w2 ⟨rfl, hb2, hbel2⟩))
                go_roundw
                case rel =>
                  refine ⟨f + k + 1, f + k + 1, o ++ seg l d (e - 1), by rw [Value.int.injEq]; exact ⟨rfl, by omega⟩, by rw [Value.int.injEq]; exact ⟨rfl, by omega⟩, unhide HNX, hbel.trans (hbel1.trans hbel2), .inr ⟨by omega, .inr ?_⟩⟩
                  have h := unhide HXD
                  rw [unhide HO] at h
                  rw [unhide HO, ← h]
                  exact hb2
                case measure => simp [intOf]; omega
              · have hdb : ((d : Int) == 0) = false := by rw [beq_eq_false_iff_ne]; omega
                have HBU := hide hbu
                clear hbu
                go_wp2_with (first
                  | (go_at_call 27; refine (c27w p[e - 1] _ y _ rfl (unhide HY)).mono ?_; rintro ex w' ⟨rfl, hw'⟩; subst w')
                  | (go_at_call 29; refine (Try.Builder_WriteString w.heap.size w.heap.size _ _ _ (unhide HBU) ?_ hszr).mono ?_; (rw [Lib.byteCells_length, ByteArray.size_extract]; omega); rintro ex w2 ⟨rfl, hb2, hbel2⟩))
                go_roundw
                case rel =>
                  refine ⟨f + k + 1, f + k + 1, o ++ seg l d (e - 1), by rw [Value.int.injEq]; exact ⟨rfl, by omega⟩, by rw [Value.int.injEq]; exact ⟨rfl, by omega⟩, unhide HNX, hbel.trans hbel2, .inr ⟨by omega, .inr ?_⟩⟩
                  rw [← unhide HXD]
                  exact hb2
                case measure => simp [intOf]; omega
            · have m92 := byte_ne _ 92 (by omega) h92
              simp only [Int.cast_ofNat_Int] at m92
              have hnx := sofar_keep (unhide HSO) k e (unhide HX) hfe hen (unhide HALL) (.inr ⟨_, unhide HG, hwy, h92⟩)
              have HNX := hide hnx
              clear hnx h92 hwy
              go_wp2_with (go_at_call 27; refine (c27w p[e - 1] _ y _ rfl (unhide HY)).mono ?_; rintro ex w' ⟨rfl, hw'⟩; subst w')
              go_roundw
              case rel => exact ⟨d, f + k + 1, o, rfl, by rw [Value.int.injEq]; exact ⟨rfl, by omega⟩, unhide HNX, hbel, unhide HBD⟩
              case measure => simp [intOf]; omega
        · have hd1 : decide ((0 : Int) < (e : Int)) = false := by simp; omega
          have hd1' : decide (0 < e) = false := by simp; omega
          have hnx := sofar_keep (unhide HSO) k e (unhide HX) hfe hen (unhide HALL) (.inl (by omega))
          have HNX := hide hnx
          clear hnx he0
          go_wp2
          go_roundw
          case rel => exact ⟨d, f + k + 1, o, rfl, by rw [Value.int.injEq]; exact ⟨rfl, by omega⟩, unhide HNX, hbel, unhide HBD⟩
          case measure => simp [intOf]; omega
end Go.Proofs.Qxb6602227a
