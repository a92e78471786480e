/-
  DERIVED. WALK: FnClosingQuoteFindsTheQuoteAfterEscapedText returns true.
-/
import Derived.Test.Qxb6602372aClose
import Derived.Deep.DeepCutAuto
import Derived.Deep.CutBlock
namespace Go.Proofs.Qxb6602372a
open Go.RowKit
theorem w12 (D : List UInt8) (g cap n s e : Nat) (w : World) (hn : D.length = n) (hD : n ≤ 1048576) (hcap : n ≤ cap) (hc : ∀ j (hj : j < D.length), w.cell? ⟨g, j, none⟩ = some (.int .u8 D[j].toNat)) (hE : Ends D s e) :
    Calls Try.prog 12 #[.slice (some ⟨g, 0, none⟩) n cap, .int .i64 s] w fun ex w' => ex = .returned (.int .i64 e) ∧ w' = w := by
  have h := w26 D g cap s e w (by omega) (by omega) hc hE
  rw [hn] at h
  have H := hide h
  clear h hc hE hn
  go_enter Try.func12, Try.ntmps12
  go_wp2_with (go_at_call 26; refine (unhide H).mono ?_; rintro e w' ⟨rfl, hw'⟩; subst w')
  go_ret
  exact ⟨rfl, rfl⟩
theorem w16 (a0 a1 a2 : Option Addr) (n0 c0 n1 c1 n2 c2 : Nat) (w : World) (h : n0 + n1 + n2 ≤ 1048576) :
    Calls Try.prog 16 #[.slice a0 n0 c0, .slice a1 n1 c1, .slice a2 n2 c2] w fun ex w' => ex = .returned (.bool true) ∧ w' = w := by
  have h0 : n0 ≤ 1048576 := by omega
  have h1 : n1 ≤ 1048576 := by omega
  have h2 : n2 ≤ 1048576 := by omega
  have h3 : (n0 : Int) + (n1 : Int) ≤ 1048576 := by omega
  have h4 : (n0 : Int) + (n1 : Int) + (n2 : Int) ≤ 1048576 := by omega
  go_enter Try.func16, Try.ntmps16
  go_wp2
  go_ret
  exact ⟨rfl, rfl⟩
theorem w16n (a0 a1 a2 : Option Addr) (n0 c0 n1 c1 n2 c2 : Nat) (w : World) (m0 : n0 ≤ maxLen) (m1 : n1 ≤ maxLen) (m2 : n2 ≤ maxLen) (h : 1048576 < n0 + n1 + n2) :
    Calls Try.prog 16 #[.slice a0 n0 c0, .slice a1 n1 c1, .slice a2 n2 c2] w fun ex w' => ex = .returned (.bool false) ∧ w' = w := by
  unfold maxLen at m0 m1 m2
  by_cases h0 : 1048576 < n0
  · go_enter Try.func16, Try.ntmps16
    go_wp2
    go_ret
    exact ⟨rfl, rfl⟩
  · have h0' : n0 ≤ 1048576 := by omega
    clear h0
    by_cases h1 : 1048576 < n1
    · go_enter Try.func16, Try.ntmps16
      go_wp2
      go_ret
      exact ⟨rfl, rfl⟩
    · have h1' : n1 ≤ 1048576 := by omega
      clear h1
      by_cases h2 : 1048576 < n0 + n1
      · have h2' : (1048576 : Int) < (n0 : Int) + (n1 : Int) := by omega
        go_enter Try.func16, Try.ntmps16
        go_wp2
        go_ret
        exact ⟨rfl, rfl⟩
      · have h2' : (n0 : Int) + (n1 : Int) ≤ 1048576 := by omega
        clear h2
        by_cases h3 : 1048576 < n2
        · go_enter Try.func16, Try.ntmps16
          go_wp2
          go_ret
          exact ⟨rfl, rfl⟩
        · have h3' : n2 ≤ 1048576 := by omega
          have h4' : (1048576 : Int) < (n0 : Int) + (n1 : Int) + (n2 : Int) := by omega
          clear h3
          go_enter Try.func16, Try.ntmps16
          go_wp2
          go_ret
          exact ⟨rfl, rfl⟩
/-- A slice of bytes that came in, as bytes. -/
def Held (w : World) (a : Option Addr) (l : List UInt8) : Prop := ∀ i (h : i < l.length), ∃ x, a = some x ∧ w.cell? (x.add i) = some (.int .u8 l[i].toNat)
theorem Bts.some {w : World} {B : Nat} {v : Value} {l : List UInt8} (h : Bts w B v l) (hne : v ≠ .slice none 0 0) (n : Nat) (hn : l.length = n) :
    ∃ g cap, v = .slice (some ⟨g, 0, none⟩) n cap ∧ n ≤ cap ∧ ∀ j (hj : j < l.length), w.cell? ⟨g, j, none⟩ = some (.int .u8 l[j].toNat) := by
  subst hn
  rcases h.shape with ⟨h1, _⟩ | ⟨g, cap, h1, _, h3, _, h5⟩
  · exact absurd h1 hne
  · exact ⟨g, cap, h1, h3, h5⟩
theorem Held.at_ {w w' : World} {a : Option Addr} {l : List UInt8} (h : Held w a l) (hb : Below w.heap.size w w') (i : Nat) (hi : i < l.length) : ∃ x, a = some x ∧ w'.cell? (x.add i) = some (.int .u8 l[i].toNat) := by
  obtain ⟨x, hx, hc⟩ := h i hi
  refine ⟨x, hx, ?_⟩
  rw [hb.cell (p := x.add i) (World.block_lt_of_cell? w _ hc)]
  exact hc
theorem take_snoc (l : List UInt8) (k : Nat) (h : k < l.length) : l.take (k + 1) = l.take k ++ [l[k]] := by
  rw [List.take_add_one, List.getElem?_eq_getElem h]
  rfl
set_option maxRecDepth 100000 in
set_option maxHeartbeats 4000000 in
theorem w5main (a0 a1 a2 : Option Addr) (n0 c0 n1 c1 n2 c2 : Nat) (P t T : List UInt8) (w : World) (hP : P.length = n0) (ht : t.length = n1) (hT : T.length = n2) (H0 : Held w a0 P) (H1 : Held w a1 t) (H2 : Held w a2 T)
    (h0 : n0 ≤ 131072) (h1 : n1 ≤ 262144) (h2 : n2 ≤ 131072) :
    Calls Try.prog 5 #[.slice a0 n0 c0, .slice a1 n1 c1, .slice a2 n2 c2] w fun ex w' => ex = .returned (.bool true) ∧ Below w.heap.size w w' := by
  have hsum : n0 + n1 + n2 ≤ 1048576 := by omega
  have K0 := hide H0
  have K1 := hide H1
  have K2 := hide H2
  have LP := hide hP
  have LT := hide ht
  have LL := hide hT
  clear H0 H1 H2 hP ht hT
  go_enter Try.func5, Try.ntmps5
  go_wp2_with (first
    | (go_at_call 16; refine (w16 a0 a1 a2 n0 c0 n1 c1 n2 c2 _ hsum).mono ?_; rintro e w' ⟨rfl, hw'⟩; subst w')
    | (at_make; refine law_make _ w rfl _ _ rfl w.heap.size _ (n0 + 2 * n1 + 1 + n2) rfl rfl ?_ ?_ (Nat.le_refl _) (Below.refl _ _) ?_; omega; omega; intro w1 hown hbel))
  go_loopw [7, 8] (fun v i wr => ∃ k : Nat, k ≤ n0 ∧ i = .int .i64 k ∧ Bts wr w.heap.size v (P.take k) ∧ v ≠ .slice none 0 0 ∧ Below w.heap.size w wr) (fun _ i _ => n0 - (intOf i).toNat)
  case atStart => exact ⟨0, Nat.zero_le _, rfl, hown, by simp, hbel⟩
  case round =>
    clear hown hbel
    obtain ⟨k, hk, rfl, hown, hnn, hbel⟩ := hrel
    have hszr := hbel.size
    by_cases hlt : k < n0
    · have hkP : k < P.length := by rw [unhide LP]; exact hlt
      obtain ⟨x, rfl, hc⟩ := (unhide K0).at_ hbel k hkP
      have HNX := hide (take_snoc P k hkP)
      have hlen : (P.take k).length + 1 ≤ 1073741824 := by simp; omega
      generalize P[k] = c at hc HNX
      obtain ⟨n, hn⟩ : ∃ n : Int, n = (c.toNat : Int) := ⟨_, rfl⟩
      rw [← hn] at hc
      have HCN := hide hn
      clear hn
      go_wp2_with (at_builtin; refine law_app_one wr w _ rfl _ _ rfl w.heap.size _ _ rfl hown c (unhide HCN) rfl hlen hszr hbel ?_; intro v' w2 hown2 hnn2 hbel2)
      go_roundw
      case rel => exact ⟨k + 1, by omega, by go_num, by rw [unhide HNX]; exact hown2, hnn2, hbel2⟩
      case measure => simp [intOf]; omega
    · have hke : k = n0 := by omega
      have hge : n0 ≤ k := by omega
      have hdI : decide ((k : Int) < (n0 : Int)) = false := by simp; omega
      have hdN : decide (k < n0) = false := by simp; omega
      have hlP : (P.take k).length = n0 := by rw [List.length_take, unhide LP]; omega
      have htk : P.take k = P := List.take_of_length_le (by rw [unhide LP]; omega)
      obtain ⟨g, cp, hv, hcp, _⟩ := hown.some hnn n0 hlP
      rw [htk] at hown
      subst hv
      clear hlt hke hlP htk hnn
      go_wp2
      go_loopw [7, 10] (fun v i wr => ∃ k : Nat, k ≤ n1 ∧ i = .int .i64 k ∧ Bts wr w.heap.size v (P ++ escs (t.take k)) ∧ v ≠ .slice none 0 0 ∧ Below w.heap.size w wr) (fun _ i _ => n1 - (intOf i).toNat)
      case atStart => exact ⟨0, Nat.zero_le _, rfl, by simpa [escs] using hown, by simp, hbel⟩
      case round =>
        clear hown hbel hszr hge hcp hk
        obtain ⟨k, hk, rfl, hown, hnn, hbel⟩ := hrel
        have hszr := hbel.size
        have hle := escs_len (t.take k)
        have hlen : (P ++ escs (t.take k)).length + 2 ≤ 1073741824 := by
          rw [List.length_append, unhide LP]
          rw [List.length_take] at hle
          omega
        have hlen1 : (P ++ escs (t.take k)).length + 1 ≤ 1073741824 := by omega
        clear hle
        by_cases hlt : k < n1
        · have hkP : k < t.length := by rw [unhide LT]; exact hlt
          obtain ⟨x, rfl, hc⟩ := (unhide K1).at_ hbel k hkP
          have hnx : P ++ escs (t.take (k + 1)) = P ++ escs (t.take k) ++ esc t[k] := by rw [take_snoc t k hkP, escs_snoc, List.append_assoc]
          have hlen2 : (P ++ escs (t.take k) ++ [92]).length + 1 ≤ 1073741824 := by rw [List.length_append]; simp only [List.length_cons, List.length_nil]; omega
          generalize t[k] = c at hc hnx
          by_cases h34 : c = 34
          · subst h34
            have HNX := hide hnx
            clear hnx
            go_wp2_with (first
              | (at_builtin; refine law_app_one wr w _ rfl _ _ rfl w.heap.size _ _ rfl hown 92 rfl rfl hlen1 hszr hbel ?_; intro v' w2 hown2 hnn2 hbel2)
              | (at_builtin; refine law_app_one w2 w _ rfl _ _ rfl w.heap.size _ _ rfl hown2 34 rfl rfl hlen2 hbel2.size hbel2 ?_; intro v'' w3 hown3 hnn3 hbel3))
            go_roundw
            case rel => exact ⟨k + 1, by omega, by go_num, by rw [unhide HNX]; simpa [esc] using hown3, hnn3, hbel3⟩
            case measure => simp [intOf]; omega
          · by_cases h92 : c = 92
            · subst h92
              have HNX := hide hnx
              clear hnx h34
              go_wp2_with (first
                | (at_builtin; refine law_app_one wr w _ rfl _ _ rfl w.heap.size _ _ rfl hown 92 rfl rfl hlen1 hszr hbel ?_; intro v' w2 hown2 hnn2 hbel2)
                | (at_builtin; refine law_app_one w2 w _ rfl _ _ rfl w.heap.size _ _ rfl hown2 92 rfl rfl hlen2 hbel2.size hbel2 ?_; intro v'' w3 hown3 hnn3 hbel3))
              go_roundw
              case rel => exact ⟨k + 1, by omega, by go_num, by rw [unhide HNX]; simpa [esc] using hown3, hnn3, hbel3⟩
              case measure => simp [intOf]; omega
            · have he : esc c = [c] := by simp [esc, h34, h92]
              rw [he] at hnx
              have HNX := hide hnx
              obtain ⟨n, hn⟩ : ∃ n : Int, n = (c.toNat : Int) := ⟨_, rfl⟩
              have d34 : (n == 34) = false := by
                rw [beq_eq_false_iff_ne]
                intro h
                exact h34 (UInt8.toNat_inj.1 (by show c.toNat = 34; omega))
              have d92 : (n == 92) = false := by
                rw [beq_eq_false_iff_ne]
                intro h
                exact h92 (UInt8.toNat_inj.1 (by show c.toNat = 92; omega))
              rw [← hn] at hc
              have HCN := hide hn
              clear hn hnx he h34 h92
              go_wp2_with (at_builtin; refine law_app_one wr w _ rfl _ _ rfl w.heap.size _ _ rfl hown c (unhide HCN) rfl hlen1 hszr hbel ?_; intro v' w2 hown2 hnn2 hbel2)
              go_roundw
              case rel => exact ⟨k + 1, by omega, by go_num, by rw [unhide HNX]; exact hown2, hnn2, hbel2⟩
              case measure => simp [intOf]; omega
        · have hge : n1 ≤ k := by omega
          have hdI : decide ((k : Int) < (n1 : Int)) = false := by simp; omega
          have hdN : decide (k < n1) = false := by simp; omega
          have htk : t.take k = t := List.take_of_length_le (by rw [unhide LT]; omega)
          rw [htk] at hown hlen hlen1
          obtain ⟨E, hE⟩ : ∃ E, (P ++ escs t).length = E := ⟨_, rfl⟩
          obtain ⟨g, cp, hv, hcp, _⟩ := hown.some hnn E hE
          subst hv
          have hEb : E ≤ 655360 := by
            have := escs_len t
            rw [← hE, List.length_append, unhide LP]
            rw [unhide LT] at this
            omega
          have HE := hide hE
          clear hlt htk hnn hE hlen
          go_wp2_with (at_builtin; refine law_app_one wr w _ rfl _ _ rfl w.heap.size _ _ rfl hown 34 rfl rfl hlen1 hszr hbel ?_; intro v' w2 hown2 hnn2 hbel2)
          go_loopw [7, 13] (fun v i wr => ∃ k : Nat, k ≤ n2 ∧ i = .int .i64 k ∧ Bts wr w.heap.size v (P ++ escs t ++ 34 :: T.take k) ∧ v ≠ .slice none 0 0 ∧ Below w.heap.size w wr) (fun _ i _ => n2 - (intOf i).toNat)
          case atStart => exact ⟨0, Nat.zero_le _, rfl, hown2, hnn2, hbel2⟩
          case round =>
            clear hown hbel hszr hge hcp hk hown2 hnn2 hbel2 hlen1
            obtain ⟨k, hk, rfl, hown, hnn, hbel⟩ := hrel
            have hszr := hbel.size
            have hll : (P ++ escs t ++ 34 :: T.take k).length = E + 1 + k := by
              rw [List.length_append, unhide HE, List.length_cons, List.length_take, unhide LL]
              omega
            have hlen1 : (P ++ escs t ++ 34 :: T.take k).length + 1 ≤ 1073741824 := by omega
            by_cases hlt : k < n2
            · have hkP : k < T.length := by rw [unhide LL]; exact hlt
              obtain ⟨x, rfl, hc⟩ := (unhide K2).at_ hbel k hkP
              have hnx : P ++ escs t ++ 34 :: T.take (k + 1) = P ++ escs t ++ 34 :: T.take k ++ [T[k]] := by rw [take_snoc T k hkP]; simp
              have HNX := hide hnx
              clear hnx hll
              generalize T[k] = c at hc HNX
              obtain ⟨n, hn⟩ : ∃ n : Int, n = (c.toNat : Int) := ⟨_, rfl⟩
              rw [← hn] at hc
              have HCN := hide hn
              clear hn
              go_wp2_with (at_builtin; refine law_app_one wr w _ rfl _ _ rfl w.heap.size _ _ rfl hown c (unhide HCN) rfl hlen1 hszr hbel ?_; intro v' w2 hown2 hnn2 hbel2)
              go_roundw
              case rel => exact ⟨k + 1, by omega, by go_num, by rw [unhide HNX]; exact hown2, hnn2, hbel2⟩
              case measure => simp [intOf]; omega
            · have hge : n2 ≤ k := by omega
              have hdI : decide ((k : Int) < (n2 : Int)) = false := by simp; omega
              have hdN : decide (k < n2) = false := by simp; omega
              have htk : T.take k = T := List.take_of_length_le (by rw [unhide LL]; omega)
              rw [htk] at hown hll
              have hkn : E + 1 + k = E + 1 + n2 := by omega
              rw [hkn] at hll
              obtain ⟨g, cp, hv, hcp, hcl⟩ := hown.some hnn (E + 1 + n2) hll
              subst hv
              have hEnd : Ends (P ++ escs t ++ 34 :: T) n0 E := by
                have h := ends_of P t T
                have hE := unhide HE
                rw [List.length_append] at hE
                rw [hE, unhide LP] at h
                exact h
              have h12 := w12 (P ++ escs t ++ 34 :: T) g cp (E + 1 + n2) n0 E wr hll (by omega) hcp hcl hEnd
              have H12 := hide h12
              clear hlt htk hnn hll hlen1 hEnd h12 hcl hkn
              go_wp2_with (go_at_call 12; refine (unhide H12).mono ?_; rintro e w' ⟨rfl, hw'⟩; subst w')
              go_ret
              exact ⟨by simp, hbel⟩
theorem w5 (a0 a1 a2 : Option Addr) (n0 c0 n1 c1 n2 c2 : Nat) (P t T : List UInt8) (w : World) (hP : P.length = n0) (ht : t.length = n1) (hT : T.length = n2) (H0 : Held w a0 P) (H1 : Held w a1 t) (H2 : Held w a2 T)
    (m0 : n0 ≤ maxLen) (m1 : n1 ≤ maxLen) (m2 : n2 ≤ maxLen) :
    Calls Try.prog 5 #[.slice a0 n0 c0, .slice a1 n1 c1, .slice a2 n2 c2] w fun ex w' => ex = .returned (.bool true) ∧ Below w.heap.size w w' := by
  by_cases hs : n0 + n1 + n2 ≤ 1048576
  · by_cases h0 : n0 ≤ 131072
    · by_cases h1 : n1 ≤ 262144
      · by_cases h2 : n2 ≤ 131072
        · exact w5main a0 a1 a2 n0 c0 n1 c1 n2 c2 P t T w hP ht hT H0 H1 H2 h0 h1 h2
        · have h2' : 131072 < n2 := by omega
          clear H0 H1 H2 hP ht hT h2
          go_enter Try.func5, Try.ntmps5
          go_wp2_with (go_at_call 16; refine (w16 a0 a1 a2 n0 c0 n1 c1 n2 c2 _ hs).mono ?_; rintro e w' ⟨rfl, hw'⟩; subst w')
          go_ret
          exact ⟨rfl, Below.refl _ _⟩
      · have h1' : 262144 < n1 := by omega
        clear H0 H1 H2 hP ht hT h1
        go_enter Try.func5, Try.ntmps5
        go_wp2_with (go_at_call 16; refine (w16 a0 a1 a2 n0 c0 n1 c1 n2 c2 _ hs).mono ?_; rintro e w' ⟨rfl, hw'⟩; subst w')
        go_ret
        exact ⟨rfl, Below.refl _ _⟩
    · have h0' : 131072 < n0 := by omega
      clear H0 H1 H2 hP ht hT h0
      go_enter Try.func5, Try.ntmps5
      go_wp2_with (go_at_call 16; refine (w16 a0 a1 a2 n0 c0 n1 c1 n2 c2 _ hs).mono ?_; rintro e w' ⟨rfl, hw'⟩; subst w')
      go_ret
      exact ⟨rfl, Below.refl _ _⟩
  · have hs' : 1048576 < n0 + n1 + n2 := by omega
    clear H0 H1 H2 hP ht hT hs
    go_enter Try.func5, Try.ntmps5
    go_wp2_with (go_at_call 16; refine (w16n a0 a1 a2 n0 c0 n1 c1 n2 c2 _ m0 m1 m2 hs').mono ?_; rintro e w' ⟨rfl, hw'⟩; subst w')
    go_ret
    exact ⟨rfl, Below.refl _ _⟩
end Go.Proofs.Qxb6602372a
