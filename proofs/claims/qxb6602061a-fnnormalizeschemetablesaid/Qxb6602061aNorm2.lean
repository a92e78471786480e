/-
  DERIVED. WALK: Normalize.
-/
import Derived.Test.Qxb6602061aNormal
import Derived.Test.Qxb6602061aWalk2
import Derived.Test.Qxb6602061aPlain3
namespace Go.Proofs.Qxb6602061a
open Go.RowKit
def lowU (c : UInt8) : UInt8 := UInt8.ofNat (lowN c.toNat).toNat
theorem lowU_toNat (c : UInt8) : ((lowU c).toNat : Int) = lowN c.toNat := by
  have hb := byte_bd c
  obtain ⟨h0, h1, _⟩ := low_bd c.toNat hb.1 hb.2
  unfold lowU
  rw [UInt8.toNat_ofNat_of_lt' (by simp; omega)]
  omega
theorem Bts.below {w w' : World} {B : Nat} {v : Value} {l : List UInt8} (h : Bts w B v l) (hb : Below w.heap.size w w') : Bts w' B v l := by
  refine ⟨h.1, ?_⟩
  rcases h.2 with h2 | ⟨g, cap, cur, h1, h2, h3, h4⟩
  · exact .inl h2
  · refine .inr ⟨g, cap, cur, h1, h2, ?_, h4⟩
    rw [hb.block g (Array.getElem?_eq_some_iff.1 h3).1]
    exact h3
theorem c37 (x z : List UInt8) (hz : Rd.rd x = z) (w : World) (hs : x.length ≤ 1048576) :
    Calls Try.prog 37 #[.string ⟨x.toArray⟩] w fun e w' => e = .returned (.string ⟨z.toArray⟩) ∧ Below w.heap.size w w' := by
  subst hz
  exact w37a ⟨x.toArray⟩ w (by show x.toArray.size ≤ _; simpa using hs)
theorem ds_of {l : List UInt8} (h1 : l[0]? = some 47) (h2 : l[1]? = some 47) : l = [47, 47] ++ l.drop 2 := by
  match l, h1, h2 with
  | a :: b :: r, h1, h2 => simp at h1 h2; simp [h1, h2]
/-- What the scheme's part of the normal form is. -/
def NormOk (p g : List UInt8) : Prop := ((∀ q, ¬ IsScheme p q) ∧ g = p) ∨ ∃ n rest, IsScheme p n ∧ g = (p.take n).map lowU ++ 58 :: rest ∧ g.length ≤ p.length
set_option maxRecDepth 100000 in
set_option maxHeartbeats 2000000 in
theorem w13a (p : ByteArray) (w : World) (hs : p.size ≤ 1048576) (hno : ∀ q, ¬ IsScheme p.data.toList q) :
    Calls Try.prog 13 #[.string p] w fun e w' => e = .returned (.string p) ∧ w' = w := by
  have c31 : ∀ w, Calls Try.prog 31 #[.string p] w fun e w' => e = .returned (.int .i64 0) ∧ w' = w := by
    intro w
    refine (w31 p w hs).mono ?_
    rintro e w' ⟨m, rfl, h, _, hw⟩
    rcases h with ⟨rfl, _⟩ | h
    · exact ⟨rfl, hw⟩
    · exact absurd h (hno m)
  have C31 : Hid (∀ w, Calls Try.prog 31 #[.string p] w fun e w' => e = .returned (.int .i64 0) ∧ w' = w) := c31
  clear c31
  go_enter Try.func13, Try.ntmps13
  go_wp2_with (go_at_call 31; refine (C31.out _).mono ?_; rintro e w' ⟨rfl, hw'⟩; subst w')
  go_ret
  exact ⟨rfl, rfl⟩
set_option maxRecDepth 100000 in
set_option maxHeartbeats 4000000 in
theorem w13b (p : ByteArray) (m : Nat) (w : World) (hs : p.size ≤ 1048576) (hsch : IsScheme p.data.toList m) :
    Calls Try.prog 13 #[.string p] w fun e w' => ∃ g : ByteArray, e = .returned (.string g) ∧ (∃ rest, g.data.toList = (p.data.toList.take m).map lowU ++ 58 :: rest) ∧ g.size ≤ p.size ∧ Below w.heap.size w w' := by
  have hm1 : 1 ≤ m := hsch.1
  have hm : m < p.size := by
    have h2 := hsch.2.1
    rcases Nat.lt_or_ge m p.data.toList.length with h | h
    · simpa using h
    · rw [List.getElem?_eq_none h] at h2; cases h2
  have c31 : ∀ w, Calls Try.prog 31 #[.string p] w fun e w' => e = .returned (.int .i64 m) ∧ w' = w := by
    intro w
    refine (w31 p w hs).mono ?_
    rintro e w' ⟨m', rfl, h, _, hw⟩
    have := sch_unique h hsch
    subst this
    exact ⟨rfl, hw⟩
  have C31 : Hid (∀ w, Calls Try.prog 31 #[.string p] w fun e w' => e = .returned (.int .i64 m) ∧ w' = w) := c31
  clear c31 hsch
  have hmz : ((m : Int) == 0) = false := beq_eq_false_iff_ne.2 (by omega)
  obtain ⟨i1, h1⟩ : ∃ i, Lib.indexByte (p.extract (m + 1) p.size).data.toList 35 = i := ⟨_, rfl⟩
  have b1 := index_bd (p.extract (m + 1) p.size) 35
  rw [h1] at b1
  obtain ⟨b10, b11⟩ := b1
  have H1 : Hid (Lib.indexByte (p.extract (m + 1) p.size).data.toList 35 = i1) := h1
  have hsz : (p.extract (m + 1) p.size).size = p.size - (m + 1) := by simp
  rw [hsz] at b11
  clear h1 hsz
  go_enter Try.func13, Try.ntmps13
  go_upto_if 30 with (first | (go_at_call 31; refine (C31.out _).mono ?_; rintro e w' ⟨rfl, hw'⟩; subst w') | (go_at_call 32; refine (c32' _ 35 i1 H1.out _).mono ?_; rintro e w' ⟨rfl, hw'⟩; subst w'))
  go_cut [4, 6] (fun s4 s6 wx => (∃ n, wx = w.drewN n) ∧ ∃ r f : ByteArray, s4 = .string r ∧ s6 = .string f ∧ r.size + f.size + (m + 1) = p.size)
  case first =>
    by_cases hi : 0 ≤ i1
    · go_wp2
      go_quiet (fail)
      go_wp2
      go_meet
      refine ⟨⟨_, rfl⟩, _, _, rfl, rfl, ?_⟩
      simp; omega
    · have hi' : decide (0 ≤ i1) = false := by simpa using hi
      go_wp2
      go_meet
      refine ⟨⟨0, rfl⟩, _, _, rfl, rfl, ?_⟩
      simp [sz0]; omega
  case rest =>
    obtain ⟨⟨nd, hnd⟩, r0, f, rfl, rfl, hrf⟩ := hcut
    subst hnd
    have Hrf : Hid (r0.size + f.size + (m + 1) = p.size) := hrf
    have hr0 : r0.size ≤ 1048576 := by omega
    have hf0 : f.size ≤ 1048576 := by omega
    clear hrf
    obtain ⟨i2, h2⟩ : ∃ i, Lib.indexByte r0.data.toList 63 = i := ⟨_, rfl⟩
    have b2 := index_bd r0 63
    rw [h2] at b2
    obtain ⟨b20, b21⟩ := b2
    have H2 : Hid (Lib.indexByte r0.data.toList 63 = i2) := h2
    clear h2
    go_upto_if 40 with (go_at_call 32; refine (c32' _ 63 i2 H2.out _).mono ?_; rintro e w' ⟨rfl, hw'⟩; subst w')
    go_cut [4, 5] (fun s4 s5 wx => (∃ n, wx = w.drewN n) ∧ ∃ r q : ByteArray, s4 = .string r ∧ s5 = .string q ∧ r.size + q.size = r0.size)
    case first =>
      by_cases hi : 0 ≤ i2
      · go_wp2
        go_quiet (fail)
        go_wp2
        go_meet
        refine ⟨⟨nd + nq, by simp⟩, _, _, rfl, rfl, ?_⟩
        simp; omega
      · have hi' : decide (0 ≤ i2) = false := by simpa using hi
        go_wp2
        go_meet
        refine ⟨⟨_, rfl⟩, _, _, rfl, rfl, ?_⟩
        simp [sz0]
    case rest =>
      obtain ⟨⟨nd2, hnd⟩, r, q, rfl, rfl, hrq⟩ := hcut
      subst hnd
      have Hrq : Hid (r.size + q.size = r0.size) := hrq
      have hr : r.size ≤ 1048576 := by omega
      have hq0 : q.size ≤ 1048576 := by omega
      have hsum : r.size + q.size + f.size + (m + 1) = p.size := by rw [Hrq.out]; exact Hrf.out
      have Hsum : Hid (r.size + q.size + f.size + (m + 1) = p.size) := hsum
      clear hrq hsum b10 b11 b20 b21 hr0
      have hbw : Below w.heap.size w (w.drewN nd2) := below_drewN (Below.refl _ _) _
      go_wp2_with (at_make; refine law_make _ w rfl _ _ rfl w.heap.size _ p.size rfl rfl rfl ?_ (Nat.le_refl _) hbw ?_; omega; intro w1 hown hbel)
      go_loopw [9, 10] (fun v i wr => ∃ k : Nat, k ≤ m ∧ i = .int .i64 k ∧ Bts wr w.heap.size v ((p.data.toList.take k).map lowU) ∧ Below w.heap.size w wr) (fun _ i _ => m - (intOf i).toNat)
      case atStart => exact ⟨0, Nat.zero_le _, rfl, hown, hbel⟩
      case round =>
        obtain ⟨k, hk, rfl, hown, hbel⟩ := hrel
        have hszr := hbel.size
        by_cases hlt : k < m
        · obtain ⟨n, hn⟩ : ∃ n : Int, (p[k].toNat : Int) = n := ⟨_, rfl⟩
          have hb := byte_bd p[k]
          rw [hn] at hb
          obtain ⟨hb0, hb1⟩ := hb
          have hnx : (p.data.toList.take (k + 1)).map lowU = (p.data.toList.take k).map lowU ++ [lowU p[k]] := by
            rw [List.take_add_one, getElem_l p k (by omega)]
            simp
          have hlo : lowN n = ((lowU p[k]).toNat : Int) := by rw [lowU_toNat, hn]
          have Hnx : Hid ((p.data.toList.take (k + 1)).map lowU = (p.data.toList.take k).map lowU ++ [lowU p[k]]) := hnx
          have Hlo : Hid (lowN n = ((lowU p[k]).toNat : Int)) := hlo
          have Hpl : Hid (((p.data.toList.take k).map lowU).length = k) := by show _ = _; simp; omega
          clear hnx hlo
          go_wp2_with (first | (go_at_call 33; refine (w33 n _ hb0 hb1).mono ?_; rintro e w' ⟨rfl, hw'⟩; subst w') | (at_builtin; refine law_app_one wr w _ rfl _ _ rfl w.heap.size _ _ rfl hown (lowU p[k]) Hlo.out rfl ?_ hszr hbel ?_; (rw [Hpl.out]; omega); intro v' w2 hown2 hnn2 hbel2))
          go_roundw
          case rel => exact ⟨k + 1, by omega, by go_num, by rw [Hnx.out]; exact hown2, hbel2⟩
          case measure => simp [intOf]; omega
        · have hke : k = m := by omega
          have hge : m ≤ k := by omega
          clear hlt
          obtain ⟨pre, hpre⟩ : ∃ pre, pre = (p.data.toList.take m).map lowU ++ [58] := ⟨_, rfl⟩
          have hprel : pre.length = m + 1 := by rw [hpre]; simp; omega
          have hown' : Bts wr w.heap.size u9 ((p.data.toList.take m).map lowU) := by rw [← hke]; exact hown
          have hl58 : ((p.data.toList.take m).map lowU).length + 1 ≤ 1073741824 := by simp; omega
          have Hpre : Hid (pre = (p.data.toList.take m).map lowU ++ [58]) := hpre
          have Hprel : Hid (pre.length = m + 1) := hprel
          have hprb : pre.length ≤ 1048577 := by omega
          clear hke hown hpre hprel
          obtain ⟨ha, hha⟩ : ∃ b, Lib.hasPrefix r.data.toList [47, 47] = b := ⟨_, rfl⟩
          have hdec : decide (k < m) = false := by simp; omega
          go_upto_if 68 with (first | (at_builtin; refine law_app_one wr w _ rfl _ _ rfl w.heap.size _ _ rfl hown' 58 rfl rfl hl58 hszr hbel ?_; intro v' w2 hown2 hnn2 hbel2; rw [← Hpre.out] at hown2) | (go_at_call 34; refine (Try.strings_HasPrefix _ _ _).mono ?_; rintro e w' ⟨rfl, hw'⟩; subst w'))
          go_cut [9, 11] (fun s9 s11 wx => ∃ (y : List UInt8) (pth : ByteArray), Bts wx w.heap.size s9 (pre ++ y) ∧ s11 = .string pth ∧ y.length + pth.size ≤ r.size ∧ (ha = false → y = [] ∧ pth = r) ∧ Below w.heap.size w wx)
          case first =>
            cases ha with
            | false =>
              go_wp2
              go_meet
              exact ⟨[], r, by simpa using hown2, rfl, by simp, fun _ => ⟨rfl, rfl⟩, hbel2⟩
            | true =>
              have hr2 : 2 ≤ r.size := by
                have := Rd.prefix_len hha
                simpa using this
              obtain ⟨i3, h3⟩ : ∃ i, Lib.indexByte (r.extract 2 r.size).data.toList 47 = i := ⟨_, rfl⟩
              have b3 := index_bd (r.extract 2 r.size) 47
              rw [h3] at b3
              obtain ⟨b30, b31⟩ := b3
              have H3 : Hid (Lib.indexByte (r.extract 2 r.size).data.toList 47 = i3) := h3
              have hsz3 : (r.extract 2 r.size).size = r.size - 2 := by simp
              rw [hsz3] at b31
              clear h3 hsz3
              go_upto_if 74 with (go_at_call 32; refine (c32' _ 47 i3 H3.out _).mono ?_; rintro e w' ⟨rfl, hw'⟩; subst w')
              go_cut [11, 13] (fun s11 s13 wx => (∃ n, wx = w2.drewN n) ∧ ∃ pt au : ByteArray, s11 = .string pt ∧ s13 = .string au ∧ pt.size + au.size + 2 = r.size)
              case first =>
                by_cases hi : 0 ≤ i3
                · go_wp2
                  go_quiet (fail)
                  go_wp2
                  go_meet
                  refine ⟨⟨_, rfl⟩, _, _, rfl, rfl, ?_⟩
                  simp; omega
                · have hi' : decide (0 ≤ i3) = false := by simpa using hi
                  go_wp2
                  go_meet
                  refine ⟨⟨0, rfl⟩, _, _, rfl, rfl, ?_⟩
                  simp [sz0]; omega
              case rest =>
                obtain ⟨⟨nd3, hnd⟩, pt, au, rfl, rfl, hpa⟩ := hcut
                subst hnd
                have Hpa : Hid (pt.size + au.size + 2 = r.size) := hpa
                have hau : au.size ≤ 1048576 := by omega
                clear hpa
                have hownd : ∀ n, Bts (w2.drewN n) w.heap.size v' pre := fun n => hown2.drewN n
                have hbeld : ∀ n, Below w.heap.size w (w2.drewN n) := fun n => below_drewN hbel2 n
                have hszd : w.heap.size ≤ w2.heap.size := hbel2.size
                have HO : Hid (∀ n, Bts (w2.drewN n) w.heap.size v' pre) := hownd
                have HL : Hid (∀ n, Below w.heap.size w (w2.drewN n)) := hbeld
                clear hownd hbeld
                go_wp2_with (first | (go_at_call 35; refine (w35 au _ hau).mono ?_; rintro e w' ⟨us, ho, po, rfl, hups, nd4, hw'⟩; subst w'; have Hups : Hid (us.size + ho.size + po.size = au.size) := hups; clear hups) | (at_builtin; refine law_app_str _ w rfl _ _ rfl w.heap.size _ pre rfl (HO.out _) _ rfl ?_ hszd (HL.out _) ?_; (show pre.length + 2 ≤ 1073741824; omega); intro v3 w3 hown3 hnn3 hbel3))
                have hsus : us.size ≤ 1048576 ∧ ho.size ≤ 1048576 ∧ po.size ≤ 1048576 := by have := Hups.out; omega
                obtain ⟨hus, hho, hpo⟩ := hsus
                have hsz3 := hbel3.size
                refine (w36 v3 _ us false w3 w.heap.size hsz3 hown3 hus (by simp; omega)).mono ?_
                rintro e w5 ⟨v5, x5, rfl, hown5, hx5, _, hbel5⟩
                have hbel5' := hbel3.trans hbel5
                have hsz5 := hbel5'.size
                clear hown3 hbel3 hbel5
                go_wp2_with fail
                refine (w36 v5 _ ho true w5 w.heap.size hsz5 hown5 hho (by simp; omega)).mono ?_
                rintro e w6 ⟨v6, x6, rfl, hown6, hx6, _, hbel6⟩
                have hbel6' := hbel5'.trans hbel6
                have hsz6 := hbel6'.size
                clear hown5 hbel6 hbel5'
                go_wp2_with fail
                refine (w36 v6 _ po false w6 w.heap.size hsz6 hown6 hpo (by simp; omega)).mono ?_
                rintro e w7 ⟨v7, x7, rfl, hown7, hx7, _, hbel7⟩
                have hbel7' := hbel6'.trans hbel7
                clear hown6 hbel7 hbel6'
                go_wp2
                go_meet
                refine ⟨[47, 47] ++ x5 ++ x6 ++ x7, pt, ?_, rfl, ?_, (fun h => by cases h), hbel7'⟩
                · have e : pre ++ ([47, 47] ++ x5 ++ x6 ++ x7) = pre ++ (⟨#[47, 47]⟩ : ByteArray).data.toList ++ x5 ++ x6 ++ x7 := by simp
                  rw [e]
                  exact hown7
                · have h1 := Hups.out
                  have h2 := Hpa.out
                  simp
                  omega
          case rest =>
            obtain ⟨y, pth, hownY, rfl, hyl, hyf, hbelY⟩ := hcut
            have Hyl : Hid (y.length + pth.size ≤ r.size) := hyl
            have Hyf : Hid (ha = false → y = [] ∧ pth = r) := hyf
            have hpt : pth.size ≤ 1048576 := by omega
            have hyb : (pre ++ y).length ≤ 2097153 := by simp; omega
            have hszY := hbelY.size
            clear hyl hyf
            go_wp2_with fail
            refine (w36 _ [] pth false wc wc.heap.size (Nat.le_refl _) (Bts.nil _ _) hpt (by simp)).mono ?_
            rintro e w3 ⟨v3, x1, rfl, hown3, hx1, hinv, hbel3⟩
            rw [List.nil_append] at hown3
            have hcv := conv_bts hown3
            have hownZ := hownY.below hbel3
            have hbelZ := hbelY.trans (hbel3.mono hszY)
            have hszZ := hbelZ.size
            have hs3 := hbel3.size
            have Hinv : Hid (Inv pth.data.toList x1 pth.size) := hinv
            clear hinv hownY hbelY hszY
            obtain ⟨z, hz⟩ : ∃ z, Rd.rd x1 = z := ⟨_, rfl⟩
            have hz1 := Rd.rd_len x1
            have hz2 := Rd.rd_ds x1
            rw [hz] at hz1 hz2
            have Hz : Hid (Rd.rd x1 = z) := hz
            have Hz2 : Hid (Lib.hasPrefix x1 [47, 47] = false → Lib.hasPrefix z [47, 47] = true → List.length z + 2 ≤ List.length x1) := hz2
            have hz1' : z.length ≤ x1.length := hz1
            clear hz hz1 hz2
            go_wp2_with fail
            refine (c37 x1 z Hz.out _ (by omega)).mono ?_
            rintro e w4 ⟨rfl, hbel4⟩
            have hownW := hownZ.below hbel4
            have hbelW := hbelZ.trans (hbel4.mono hszZ)
            have hszW := hbelW.size
            clear hownZ hbelZ hcv hown3 hbel3 hbel4
            go_upto_region 31 with fail
            go_cut [107] (fun s107 wx => wx = w4 ∧ ∃ b : Bool, s107 = .bool b ∧ (b = true → ha = false ∧ Lib.hasPrefix z [47, 47] = true))
            case first =>
              cases ha with
              | false =>
                go_wp2_with (go_at_call 34; refine (Try.strings_HasPrefix _ _ _).mono ?_; rintro e w' ⟨rfl, hw'⟩; subst w')
                go_meet
                exact ⟨rfl, _, rfl, fun h => by simpa using h⟩
              | true =>
                go_wp2
                go_meet
                exact ⟨rfl, _, rfl, fun h => by cases h⟩
            case rest =>
              obtain ⟨hwc, b, rfl, hb⟩ := hcut
              subst hwc
              have Hb : Hid (b = true → ha = false ∧ Lib.hasPrefix z [47, 47] = true) := hb
              clear hb
              go_upto_if 107 with fail
              go_cut [9] (fun s9 wx => ∃ t : List UInt8, Bts wx w.heap.size s9 ((pre ++ y) ++ t) ∧ t.length + z.length ≤ pth.size ∧ Below w.heap.size w wx)
              case first =>
                cases b with
                | false =>
                  go_wp2
                  go_meet
                  exact ⟨[], by simpa using hownW, by simp; omega, hbelW⟩
                | true =>
                  go_wp2_with (at_builtin; refine law_app_str _ w rfl _ _ rfl w.heap.size _ _ rfl hownW _ rfl ?_ hszW hbelW ?_; (show (pre ++ y).length + 2 ≤ 1073741824; omega); intro v8 w8 hown8 hnn8 hbel8)
                  go_meet
                  refine ⟨[47, 46], hown8, ?_, hbel8⟩
                  obtain ⟨hf1, hf2⟩ := Hb.out (by trivial)
                  obtain ⟨_, hpr⟩ := Hyf.out hf1
                  have hx47 : Lib.hasPrefix x1 [47, 47] = false := by
                    rw [Bool.eq_false_iff]
                    intro hp
                    obtain ⟨rr, hrr⟩ := (Rd.pre_iff _ _).1 hp
                    have hi := Hinv.out
                    rw [hrr] at hi
                    have e1 := hi.2.1 (by simp)
                    have e2 := hi.2.2.2 (by simp) (by simp)
                    rw [hpr] at e1 e2
                    rw [hf1] at hha
                    exact absurd ((Rd.pre_iff [47, 47] r.data.toList).2 ⟨r.data.toList.drop 2, ds_of e1 e2⟩) (by rw [hha]; simp)
                  have := Hz2.out hx47 hf2
                  show 2 + z.length ≤ pth.size
                  omega
              case rest =>
                obtain ⟨t, hownT, htl, hbelT⟩ := hcut
                have hszT := hbelT.size
                have hlT : ((pre ++ y) ++ t).length ≤ 3145730 := by rw [List.length_append]; omega
                go_wp2_with (at_builtin; refine law_app_str _ w rfl _ _ rfl w.heap.size _ _ rfl hownT _ rfl ?_ hszT hbelT ?_; (show ((pre ++ y) ++ t).length + z.toArray.size ≤ 1073741824; simp only [List.size_toArray]; omega); intro v9 w9 hown9 hnn9 hbel9)
                have hown9' : Bts w9 w.heap.size v9 (((pre ++ y) ++ t) ++ z) := hown9
                have hsz9 := hbel9.size
                have hl9 : (((pre ++ y) ++ t) ++ z).length ≤ 2097153 := by have h2 := Hyl.out; simp only [List.length_append]; omega
                clear hown9 hownT
                refine (w36 v9 _ q false w9 w.heap.size hsz9 hown9' hq0 (by omega)).mono ?_
                rintro e w10 ⟨v10, x10, rfl, hown10, hx10, _, hbel10⟩
                have hbel10' := hbel9.trans hbel10
                have hsz10 := hbel10'.size
                have hl10 : ((((pre ++ y) ++ t) ++ z) ++ x10).length ≤ 4194304 := by rw [List.length_append]; omega
                clear hown9' hbel10
                go_wp2_with fail
                refine (w36 v10 _ f false w10 w.heap.size hsz10 hown10 hf0 hl10).mono ?_
                rintro e w11 ⟨v11, x11, rfl, hown11, hx11, _, hbel11⟩
                have hbel11' := hbel10'.trans hbel11
                have hcv := conv_bts hown11
                go_wp2
                go_ret
                refine ⟨_, rfl, ⟨y ++ t ++ z ++ x10 ++ x11, ?_⟩, ?_, hbel11'⟩
                · show pre ++ (y ++ (t ++ (z ++ (x10 ++ x11)))) = _
                  rw [Hpre.out]
                  simp
                · show (pre ++ (y ++ (t ++ (z ++ (x10 ++ x11))))).toArray.size ≤ _
                  have h1 := Hsum.out
                  have h2 := Hyl.out
                  have h3 := Hprel.out
                  simp only [List.size_toArray, List.length_append]
                  omega
theorem w13 (p : ByteArray) (w : World) (hs : p.size ≤ 1048576) :
    Calls Try.prog 13 #[.string p] w fun e w' => ∃ g : ByteArray, e = .returned (.string g) ∧ NormOk p.data.toList g.data.toList ∧ Below w.heap.size w w' := by
  by_cases h : ∃ m, IsScheme p.data.toList m
  · obtain ⟨m, hm⟩ := h
    refine (w13b p m w hs hm).mono ?_
    rintro e w' ⟨g, rfl, ⟨rest, hr⟩, hl, hb⟩
    exact ⟨g, rfl, .inr ⟨m, rest, hm, hr, by simpa using hl⟩, hb⟩
  · refine (w13a p w hs (fun q hq => h ⟨q, hq⟩)).mono ?_
    rintro e w' ⟨rfl, rfl⟩
    exact ⟨p, rfl, .inl ⟨fun q hq => h ⟨q, hq⟩, rfl⟩, Below.refl _ _⟩
end Go.Proofs.Qxb6602061a
