/-
  DERIVED. WALK: appendNormal appends at most as many bytes as it is handed, and makes no new double slash at the head.
-/
import Derived.Test.Qxb6602061aAuth
import Derived.Test.Qxb6602061aScheme
import Derived.Deep.DeepCutAuto
import Derived.Deep.RegionHeld3
import Derived.Deep.AppendLies
import Derived.OpenShut
import Derived.WalkSmall
namespace Go.Proofs.Qxb6602061a
open Go.RowKit
def Inv (s x : List UInt8) (k : Nat) : Prop :=
  (x = [] → k = 0) ∧ (x[0]? = some 47 → s[0]? = some 47) ∧ (x.length = 1 → x[0]? = some 47 → k = 1) ∧ (x[0]? = some 47 → x[1]? = some 47 → s[1]? = some 47)
theorem inv_nil (s : List UInt8) : Inv s [] 0 := by simp [Inv]
theorem inv_byte {s x : List UInt8} {k : Nat} (h : Inv s x k) {c d : UInt8} (hc : s[k]? = some c) (hd : d = 47 → c = 47) : Inv s (x ++ [d]) (k + 1) := by
  obtain ⟨h1, h2, h3, h4⟩ := h
  match x, h1, h2, h3, h4 with
  | [], h1, h2, h3, h4 =>
    have hk : k = 0 := h1 rfl
    subst hk
    refine ⟨by simp, ?_, by simp, by simp⟩
    intro e
    simp at e
    rw [hc, hd e]
  | [a], h1, h2, h3, h4 =>
    refine ⟨by simp, by simpa using h2, by simp, ?_⟩
    intro e1 e2
    simp at e1 e2
    have hk : k = 1 := h3 rfl (by simp [e1])
    subst hk
    rw [hc, hd e2]
  | a :: b :: r, h1, h2, h3, h4 => exact ⟨by simp, by simpa using h2, by simp, by simpa using h4⟩
theorem inv_chunk {s x : List UInt8} {k k' : Nat} (h : Inv s x k) {d : UInt8} {ys : List UInt8} (hd : d ≠ 47) : Inv s (x ++ d :: ys) k' := by
  obtain ⟨h1, h2, h3, h4⟩ := h
  match x, h1, h2, h3, h4 with
  | [], h1, h2, h3, h4 =>
    refine ⟨by simp, ?_, ?_, ?_⟩
    · intro e; simp at e; exact absurd e hd
    · intro _ e; simp at e; exact absurd e hd
    · intro e; simp at e; exact absurd e hd
  | [a], h1, h2, h3, h4 =>
    refine ⟨by simp, by simpa using h2, by simp, ?_⟩
    intro e1 e2
    simp at e2
    exact absurd e2 hd
  | a :: b :: r, h1, h2, h3, h4 => exact ⟨by simp, by simpa using h2, by simp, by simpa using h4⟩
/-- A number of a byte's range as a byte. -/
theorem byte_mk (n : Int) (h0 : 0 ≤ n) (h1 : n ≤ 255) : ∃ c : UInt8, n = (c.toNat : Int) := by
  refine ⟨UInt8.ofNat n.toNat, ?_⟩
  rw [UInt8.toNat_ofNat_of_lt' (by simp; omega)]
  omega
theorem low_bd (n : Int) (h0 : 0 ≤ n) (h1 : n ≤ 255) : 0 ≤ lowN n ∧ lowN n ≤ 255 ∧ (lowN n = 47 → n = 47) := by
  unfold lowN
  split <;> omega
theorem Bts.any {w : World} {B : Nat} {v : Value} {l : List UInt8} (h : Bts w B v l) : ∃ ao cap, v = .slice ao l.length cap := by
  rcases h.shape with ⟨rfl, rfl⟩ | ⟨g, cap, rfl, _⟩
  · exact ⟨none, 0, rfl⟩
  · exact ⟨_, _, rfl⟩
theorem Bts.drewN {w : World} {B : Nat} {v : Value} {l : List UInt8} (h : Bts w B v l) (n : Nat) : Bts (w.drewN n) B v l := h
theorem and15 (d : Int) (h0 : 0 ≤ d) (h1 : d ≤ 255) : 0 ≤ bits BinOp.and IntKind.u8 d 15 ∧ bits BinOp.and IntKind.u8 d 15 ≤ 15 := by
  have key : ∀ n : Fin 256, 0 ≤ bits BinOp.and IntKind.u8 (n.val : Int) 15 ∧ bits BinOp.and IntKind.u8 (n.val : Int) 15 ≤ 15 := by decide +kernel
  have := key ⟨d.toNat, by omega⟩
  have e : ((d.toNat : Nat) : Int) = d := by omega
  simp only [e] at this
  exact this
theorem step_app3 (wc w0 : World) (C1 C2 C3 : Int) {ops : Array Oper} {o : Oper} {a : Act} {K : Act → World → Prop} {Q : Exit → Act → World → Prop} {E : Prop} (hgd : o.guard = none) (sl x : Operand)
    (ho : o.op = .call { callee := .builtin .append, args := #[sl, x], argTypes := #[26, 26] })
    (B : Nat) (v : Value) (y : List UInt8) (hs : a.eval sl = v) (hown : Bts wc B v y) (c1 c2 c3 : UInt8) (h1 : C1 = (c1.toNat : Int)) (h2 : C2 = (c2.toNat : Int)) (h3 : C3 = (c3.toNat : Int))
    (hx : a.eval x = .slice (some ⟨wc.heap.size, 0, none⟩) 3 3) (hn : y.length + 3 ≤ 1073741824) (hB : B ≤ wc.heap.size) (hbel : Below B w0 wc)
    (h : ∀ v' w', Bts w' B v' (y ++ [c1, c2, c3]) → Below B w0 w' → K (a.put o.dst v') w') :
    if Region.wanted o (yielded ops a.tmps) = true then Oper.wp Try.prog o a ((wc.alloc (.cells #[.int .u8 C1, .int .u8 C2, .int .u8 C3] 5)).drew) K Q else E := by
  subst h1 h2 h3
  have hw : Region.wanted o (yielded ops a.tmps) = true := by simp [Region.wanted, hgd]
  rw [if_pos hw]
  obtain ⟨i0, hi, hz0, hz1, hz2⟩ := info_parts info5
  have hown' : ((wc.alloc (.cells #[.int .u8 (c1.toNat : Int), .int .u8 (c2.toNat : Int), .int .u8 (c3.toNat : Int)] 5)).drew).ownsRow B 5 1 v y.length (bcells y) := World.ownsRow.alloc hown _
  have hblk : ((wc.alloc (.cells #[.int .u8 (c1.toNat : Int), .int .u8 (c2.toNat : Int), .int .u8 (c3.toNat : Int)] 5)).drew).heap[wc.heap.size]? = some (.cells #[.int .u8 (c1.toNat : Int), .int .u8 (c2.toNat : Int), .int .u8 (c3.toNat : Int)] 5 (0, 0)) := heap_alloc_new wc _
  refine wp_append_own _ sl x 26 ho B 5 i0 (.int .u8 0) 1 1 Try.underlying26 hi hz0 hz1 hz2 rfl (by decide) v y.length (bcells y) hs hown' ⟨wc.heap.size, 0, none⟩ 3 3 (bcells [c1, c2, c3]) hx rfl (World.news_of_block hblk) ?_ (by unfold maxLen; omega) (by omega) ?_ ?_
  · intro u hu
    simp only [bcells, List.mem_map] at hu
    obtain ⟨c, _, rfl⟩ := hu
    rfl
  · show B ≤ (wc.alloc _).heap.size
    simp
    omega
  · intro v' w' g1 g2 _
    refine h v' w' ?_ (((hbel.alloc hB _).drew).grown g2 (by show B ≤ (wc.alloc _).heap.size; simp; omega) (fun k hk => (World.ownsRow.lt hown k hk).1))
    have e : (y ++ [c1, c2, c3]).length = y.length + 3 := by simp
    unfold Bts
    rw [e, bcells_append]
    exact g1
set_option maxRecDepth 100000 in
set_option maxHeartbeats 4000000 in
theorem w36 (v : Value) (l : List UInt8) (s : ByteArray) (lc : Bool) (w : World) (B : Nat) (hB : B ≤ w.heap.size) (h : Bts w B v l) (hs : s.size ≤ 1048576) (hl : l.length ≤ 4194304) :
    Calls Try.prog 36 #[v, .string s, .bool lc] w fun e w' => ∃ v' x, e = .returned v' ∧ Bts w' B v' (l ++ x) ∧ x.length ≤ s.size ∧ Inv s.data.toList x s.size ∧ Below B w w' := by
  go_enter Try.func36, Try.ntmps36
  go_wp2
  go_loopw [0, 7, 8] (fun v t i wr => ∃ (k : Nat) (x : List UInt8) (st : Int), k ≤ s.size ∧ i = .int .i64 k ∧ t = .int .i64 st ∧ Bts wr B v (l ++ x) ∧ x.length ≤ k ∧ Inv s.data.toList x k ∧ Below B w wr) (fun _ _ i _ => s.size - (intOf i).toNat)
  case atStart => exact ⟨0, [], -1, by omega, rfl, rfl, by simpa using h, by simp, inv_nil _, Below.refl _ _⟩
  case round =>
    obtain ⟨k, x, st, hk, rfl, rfl, hown, hxl, hinv, hbel⟩ := hrel
    have HI : Hid (Inv s.data.toList x k) := hinv
    clear hinv
    have hsz := hbel.size
    have hBr : B ≤ wr.heap.size := by omega
    have hlx : (l ++ x).length ≤ 8388608 := by simp; omega
    by_cases hlt : k < s.size
    · obtain ⟨n, hn⟩ : ∃ n : Int, (s[k].toNat : Int) = n := ⟨_, rfl⟩
      have hb := byte_bd s[k]
      rw [hn] at hb
      obtain ⟨hb0, hb1⟩ := hb
      have HG : Hid (s.data.toList[k]? = some s[k]) := getElem_l s k hlt
      cases hc : (n != 37) with
      | true =>
        cases lc with
        | false =>
          go_wp2_with (at_builtin; refine law_app_one wr w _ rfl _ _ rfl B _ _ rfl hown s[k] hn.symm rfl ?_ hBr hbel ?_; omega; intro v' w2 hown2 hnn2 hbel2)
          go_roundw
          case rel =>
            refine ⟨k + 1, x ++ [s[k]], st, by omega, by go_num, rfl, by rw [← List.append_assoc]; exact hown2, by simp; omega, inv_byte HI.out HG.out id, hbel2⟩
          case measure => simp [intOf]; omega
        | true =>
          obtain ⟨q0, q1, q2⟩ := low_bd n hb0 hb1
          obtain ⟨c, hcc⟩ := byte_mk (lowN n) q0 q1
          have Hcc : Hid (lowN n = (c.toNat : Int)) := hcc
          have Hq : Hid (lowN n = 47 → n = 47) := q2
          clear hcc q0 q1 q2
          go_wp2_with (first | (go_at_call 33; refine (w33 n _ hb0 hb1).mono ?_; rintro e w' ⟨rfl, hw'⟩; subst w') | (at_builtin; refine law_app_one wr w _ rfl _ _ rfl B _ _ rfl hown c Hcc.out rfl ?_ hBr hbel ?_; omega; intro v' w2 hown2 hnn2 hbel2))
          go_roundw
          case rel =>
            refine ⟨k + 1, x ++ [c], st, by omega, by go_num, rfl, by rw [← List.append_assoc]; exact hown2, by simp; omega, inv_byte HI.out HG.out ?_, hbel2⟩
            intro e
            have h5 := Hcc.out
            rw [e] at h5
            have h6 := Hq.out h5
            exact byte_of (n := 47) (by omega) (by rw [hn, h6]; rfl)
          case measure => simp [intOf]; omega
      | false =>
        obtain ⟨y, hy⟩ : ∃ y, y = l ++ x := ⟨_, rfl⟩
        have HY : Hid (y = l ++ x) := hy
        rw [← hy] at hown hlx
        clear hy
        obtain ⟨ao, cap, rfl⟩ := hown.any
        by_cases hsh : k + 2 < s.size
        · obtain ⟨n1, hn1⟩ : ∃ n : Int, (s[k + 1].toNat : Int) = n := ⟨_, rfl⟩
          obtain ⟨n2, hn2⟩ : ∃ n : Int, (s[k + 2].toNat : Int) = n := ⟨_, rfl⟩
          have hb' := byte_bd s[k + 1]
          have hb'' := byte_bd s[k + 2]
          rw [hn1] at hb'
          rw [hn2] at hb''
          obtain ⟨hc0, hc1⟩ := hb'
          obtain ⟨hd0, hd1⟩ := hb''
          cases hx : (hexB n1 && hexB n2) with
          | false =>
            have hx1 : hexB n1 = false ∨ (hexB n1 = true ∧ hexB n2 = false) := by
              cases h1 : hexB n1
              · exact .inl rfl
              · rw [h1] at hx
                exact .inr ⟨rfl, by simpa using hx⟩
            clear hx
            have hdd : decide ((s.size : Int) ≤ (k : Int) + 2) = false := by simp; omega
            rcases hx1 with hx1 | ⟨hx1, hx2⟩
            all_goals
              go_wp2_with (first | (go_at_call_of 47 (Value.int IntKind.u8 n1); refine (w47 n1 _ hc0 hc1).mono ?_; rintro e w' ⟨rfl, hw'⟩; subst w') | (go_at_call_of 47 (Value.int IntKind.u8 n2); refine (w47 n2 _ hd0 hd1).mono ?_; rintro e w' ⟨rfl, hw'⟩; subst w') | (at_builtin; refine law_app_one wr w _ rfl _ _ rfl B _ _ rfl hown 37 rfl rfl ?_ hBr hbel ?_; omega; intro v' w2 hown2 hnn2 hbel2))
              have H2 : Bts w2 B v' (l ++ (x ++ [37])) := by rw [← List.append_assoc, ← HY.out]; exact hown2
              exact ⟨⟨k + 1, x ++ [37], _, by omega, by go_num, rfl, H2, by simp; omega, inv_chunk HI.out (by decide), hbel2⟩, by simp [intOf]; omega⟩
          | true =>
            have hx1 : hexB n1 = true := by simp at hx; exact hx.1
            have hx2 : hexB n2 = true := by simp at hx; exact hx.2
            clear hx
            go_upto_region 13 with (first | (go_at_call_of 47 (Value.int IntKind.u8 n1); refine (w47 n1 _ hc0 hc1).mono ?_; rintro e w' ⟨rfl, hw'⟩; subst w') | (go_at_call_of 47 (Value.int IntKind.u8 n2); refine (w47 n2 _ hd0 hd1).mono ?_; rintro e w' ⟨rfl, hw'⟩; subst w'))
            go_cut [10] (fun s10 wx => ∃ d : Int, 0 ≤ d ∧ d ≤ 255 ∧ s10 = .int .u8 d ∧ Bts wx B (.slice ao y.length cap) y ∧ Below B w wx)
            case first =>
              go_quiet ((go_at_call 48; exact Calls.quiet_of_same (w48 _ _ (by omega) (by omega))))
              go_wp2
              go_meet
              case rel =>
                exact ⟨_, (bounds_u8 (wf_bits _ _ _ _)).1, (bounds_u8 (wf_bits _ _ _ _)).2, rfl, hown.drewN _, below_drewN hbel _⟩
            case rest =>
              obtain ⟨d, hd0', hd1', rfl, hown1, hbel1⟩ := hcut
              clear hown hbel hsz hBr
              have hsz1 := hbel1.size
              have hB1 : B ≤ wc.heap.size := by omega
              go_upto_region 14 with fail
              go_cut [7, 11] (fun s7 s11 wx => wx = wc ∧ ∃ (st' : Int) (b : Bool), s7 = .int .i64 st' ∧ s11 = .bool b)
              case first =>
                rcases hown1.shape with ⟨hv, hy0⟩ | ⟨g, c2, hv, _, _, _, hcl⟩
                · simp only [Value.slice.injEq] at hv
                  obtain ⟨rfl, _, rfl⟩ := hv
                  subst hy0
                  go_wp2
                  all_goals go_meet
                  all_goals exact ⟨rfl, _, _, rfl, rfl⟩
                · simp only [Value.slice.injEq, true_and] at hv
                  obtain ⟨rfl, rfl⟩ := hv
                  by_cases hyl : 2 ≤ y.length
                  · obtain ⟨e, he⟩ : ∃ e, y[y.length - 1] = e := ⟨_, rfl⟩
                    have hce := hcl (y.length - 1) (by omega)
                    rw [he] at hce
                    have hbe := byte_bd e
                    go_wp2_with (go_at_call 47; refine (w47 _ _ hbe.1 hbe.2).mono ?_; rintro e w' ⟨rfl, hw'⟩; subst w')
                    all_goals go_meet
                    all_goals exact ⟨rfl, _, _, rfl, rfl⟩
                  · have hyl' : y.length ≤ 1 := by omega
                    clear hyl hcl
                    go_wp2
                    all_goals go_meet
                    all_goals exact ⟨rfl, _, _, rfl, rfl⟩
              case rest =>
                obtain ⟨hwc, st2, b, rfl, rfl⟩ := hcut
                subst hwc
                cases hu : (unrB d && !(b && hexB d)) with
                | true =>
                  have hu1 : unrB d = true := by simp at hu; exact hu.1
                  have hd47 : d ≠ 47 := by rintro rfl; exact absurd hu1 (by decide)
                  have Hd47 : Hid (d ≠ 47) := hd47
                  have hu2 : b = false ∨ hexB d = false := by simp at hu; exact hu.2
                  clear hd47 hu
                  obtain ⟨q0, q1, q2⟩ := low_bd d hd0' hd1'
                  obtain ⟨c, hcc⟩ := byte_mk (if lc then lowN d else d) (by split <;> omega) (by split <;> omega)
                  have hc47 : c ≠ 47 := by
                    intro e
                    rw [e] at hcc
                    split at hcc
                    · exact Hd47.out (q2 hcc)
                    · exact Hd47.out hcc
                  have Hcc : Hid ((if lc then lowN d else d) = (c.toNat : Int)) := hcc
                  have Hc47 : Hid (c ≠ 47) := hc47
                  clear hcc hc47 q0 q1 q2
                  cases lc
                  all_goals
                    cases b
                    all_goals
                      first | (have hu3 : hexB d = false := by simpa using hu2) | skip
                      clear hu2
                      go_wp2_with (first | (go_at_call 49; refine (w49 d _ hd0' hd1').mono ?_; rintro e w' ⟨rfl, hw'⟩; subst w') | (go_at_call 47; refine (w47 d _ hd0' hd1').mono ?_; rintro e w' ⟨rfl, hw'⟩; subst w') | (go_at_call 33; refine (w33 d _ hd0' hd1').mono ?_; rintro e w' ⟨rfl, hw'⟩; subst w') | (at_builtin; refine law_app_one wc w _ rfl _ _ rfl B _ _ rfl hown1 c Hcc.out rfl ?_ hB1 hbel1 ?_; omega; intro v' w2 hown2 hnn2 hbel2))
                      have H2 : Bts w2 B v' (l ++ (x ++ [c])) := by rw [← List.append_assoc, ← HY.out]; exact hown2
                      exact ⟨⟨k + 3, x ++ [c], st2, by omega, by go_num, rfl, H2, by simp; omega, inv_chunk HI.out Hc47.out, hbel2⟩, by simp [intOf]; omega⟩
                | false =>
                  have hu2 : unrB d = false ∨ (unrB d = true ∧ b = true ∧ hexB d = true) := by
                    cases h1 : unrB d
                    · exact .inl rfl
                    · rw [h1] at hu
                      simp at hu
                      exact .inr ⟨rfl, hu⟩
                  clear hu
                  have h15 := and15 d hd0' hd1'
                  have hsh : 0 ≤ d / 16 ∧ d / 16 ≤ 15 := by omega
                  rcases hu2 with hu2 | ⟨hu2, rfl, hu3⟩
                  all_goals
                    go_upto_region 19 with (first | (go_at_call 49; refine (w49 d _ hd0' hd1').mono ?_; rintro e w' ⟨rfl, hw'⟩; subst w') | (go_at_call 47; refine (w47 d _ hd0' hd1').mono ?_; rintro e w' ⟨rfl, hw'⟩; subst w'))
                    go_cut [0] (fun s0 wx => ∃ (c1 c2 : UInt8), Bts wx B s0 (y ++ [37, c1, c2]) ∧ Below B w wx)
                    case first =>
                      go_region_held3 (fun _ => True) (trivial) ((refine step_app3 wc w _ _ _ (by rfl) _ _ (by rfl) B _ y (by rfl) hown1 37 _ _ (by rfl) (by rfl) (by rfl) (by rfl) (by omega) hB1 hbel1 ?_; intro v' w2 hown2 hbel2))
                      all_goals go_wp2
                      all_goals go_meet
                      all_goals exact ⟨_, _, hown2, hbel2⟩
                    case rest =>
                      obtain ⟨c1, c2, hown2, hbel2⟩ := hcut
                      go_wp2
                      have H2 : Bts wc B u0 (l ++ (x ++ [37, c1, c2])) := by rw [← List.append_assoc, ← HY.out]; exact hown2
                      exact ⟨⟨k + 3, x ++ [37, c1, c2], st2, by omega, by go_num, rfl, H2, by simp; omega, inv_chunk HI.out (by decide), hbel2⟩, by simp [intOf]; omega⟩
        · have hge : (s.size : Int) ≤ (k : Int) + 2 := by omega
          clear hsh
          go_wp2_with (first | (at_builtin; refine law_app_one wr w _ rfl _ _ rfl B _ _ rfl hown 37 rfl rfl ?_ hBr hbel ?_; omega; intro v' w2 hown2 hnn2 hbel2))
          have H2 : Bts w2 B v' (l ++ (x ++ [37])) := by rw [← List.append_assoc, ← HY.out]; exact hown2
          exact ⟨⟨k + 1, x ++ [37], _, by omega, by go_num, rfl, H2, by simp; omega, inv_chunk HI.out (by decide), hbel2⟩, by simp [intOf]; omega⟩
    · have hke : k = s.size := by omega
      have hge : s.size ≤ k := by omega
      have HK : Hid (k = s.size) := hke
      clear hke hlt
      go_wp2
      go_ret
      refine ⟨_, x, rfl, hown, by omega, ?_, hbel⟩
      have := HI.out
      rw [HK.out] at this
      exact this
end Go.Proofs.Qxb6602061a
