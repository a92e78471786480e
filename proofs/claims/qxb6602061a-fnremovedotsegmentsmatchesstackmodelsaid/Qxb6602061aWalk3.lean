/-
  DERIVED. WALK: zzuSplitSlash computes 'Rd.split'.
-/
import Derived.Test.Qxb6602061aWalk2
import Derived.Test.Qxb6602061aStrs
import Derived.Test.Qxb6602061aPlain2
namespace Go.Proofs.Qxb6602061a
open Go.RowKit
theorem getElem_list (p : ByteArray) (k : Nat) (h : k < p.size) : p.data.toList[k]? = some p[k] := by
  rw [Array.getElem?_toList]
  exact Array.getElem?_eq_getElem h
set_option maxHeartbeats 800000 in
theorem w41 (p : ByteArray) (w : World) (hs : p.size ≤ 1048576) :
    Calls Try.prog 41 #[.string p] w fun e w' => ∃ v ss, e = .returned v ∧ Strs w' w.heap.size v ss ∧ ss.map (fun s => s.data.toList) = Rd.split p.data.toList ∧ Below w.heap.size w w' := by
  go_enter Try.func41, Try.ntmps41
  go_wp2
  go_loopw [3, 4, 5] (fun v s i wr => ∃ (k st : Nat) (ss : List ByteArray), k ≤ p.size ∧ st ≤ k ∧ i = .int .i64 k ∧ s = .int .i64 st ∧ Strs wr w.heap.size v ss ∧ ss.length ≤ k ∧ Below w.heap.size w wr ∧
      Rd.clean p.data.toList st k ∧ Rd.split p.data.toList = ss.map (fun s => s.data.toList) ++ Rd.split (p.data.toList.drop st)) (fun _ _ i _ => p.size - (intOf i).toNat)
  case atStart => exact ⟨0, 0, [], by omega, by omega, rfl, rfl, Strs.nil _ _, by simp, Below.refl _ _, Rd.clean_self _ _, by simp⟩
  case round =>
    obtain ⟨k, st, ss, hk, hst, rfl, rfl, hown, hlen, hbel, hcl, hsp⟩ := hrel
    have Hsp : Hid (Rd.split p.data.toList = ss.map (fun s => s.data.toList) ++ Rd.split (p.data.toList.drop st)) := hsp
    have Hcl : Hid (Rd.clean p.data.toList st k) := hcl
    clear hsp hcl
    have hsz := hbel.size
    by_cases hlt : k < p.size
    · have hget := getElem_list p k hlt
      have Hget : Hid (p.data.toList[k]? = some p[k]) := hget
      clear hget
      cases hq : ((p[k].toNat : Int) == 47) with
      | true =>
        have h47 : p[k] = 47 := (byte_eq _ 47 (by omega)).1 hq
        have Hk : Hid (p.data.toList[k]? = some 47) := by
          have := Hget.out
          rw [h47] at this
          exact this
        clear h47
        go_wp2_with (at_builtin; go_must (refine law_app_elt wr w _ rfl _ _ rfl w.heap.size _ ss rfl hown rfl ?_ hsz hbel ?_); omega; intro v' w2 hown2 hnn2 hbel2)
        go_roundw
        case rel =>
          refine ⟨k + 1, k + 1, ss ++ [p.extract st k], by omega, by omega, by go_num, by go_num, hown2, by simp; omega, hbel2, Rd.clean_self _ _, ?_⟩
          rw [Hsp.out, Rd.split_at Hcl.out hst Hk.out]
          simp only [List.map_append, List.map_cons, List.map_nil, Lib.extract_data, List.append_assoc, List.cons_append, List.nil_append]
        case measure => simp [intOf]; omega
      | false =>
        go_wp2
        go_roundw
        case rel =>
          refine ⟨k + 1, st, ss, by omega, by omega, by go_num, rfl, hown, by omega, hbel, Rd.clean_succ Hcl.out ?_, Hsp.out⟩
          rw [Hget.out]
          intro h
          simp at h
          rw [h] at hq
          exact absurd hq (by decide)
        case measure => simp [intOf]; omega
    · have hke : k = p.size := by omega
      have Hke : Hid (k = p.size) := hke
      clear hke
      have hge : p.size ≤ k := by omega
      clear hlt
      go_wp2_with (at_builtin; go_must (refine law_app_elt wr w _ rfl _ _ rfl w.heap.size _ ss rfl hown rfl ?_ hsz hbel ?_); omega; intro v' w2 hown2 hnn2 hbel2)
      go_ret
      refine ⟨_, _, rfl, hown2, ?_, hbel2⟩
      have hc := Hcl.out
      rw [Hke.out, size_list] at hc
      rw [Hsp.out, Rd.split_end hc]
      simp only [List.map_append, List.map_cons, List.map_nil, Lib.extract_to_end]
end Go.Proofs.Qxb6602061a
