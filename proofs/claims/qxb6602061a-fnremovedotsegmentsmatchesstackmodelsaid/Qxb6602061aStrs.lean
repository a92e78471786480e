/-
  DERIVED. Laws on rows of strings that a call itself has made.
-/
import Derived.Test.Qxb6602061aLaws
namespace Go.Proofs.Qxb6602061a
open Go.RowKit
/-- 'v' is a slice of strings of the call's own, and holds ss. -/
def Strs (w : World) (B : Nat) (v : Value) (ss : List ByteArray) : Prop := w.ownsRow B 9 1 v ss.length (ss.map Value.string)
theorem Strs.nil (w : World) (B : Nat) : Strs w B (.slice none 0 0) [] := World.ownsRow_nil _ _ _ _
theorem Strs.shape {w : World} {B : Nat} {v : Value} {l : List ByteArray} (h : Strs w B v l) :
    (v = .slice none 0 0 ∧ l = []) ∨ ∃ g cap, v = .slice (some ⟨g, 0, none⟩) l.length cap ∧ B ≤ g ∧ l.length ≤ cap ∧ cap ≤ maxLen ∧ g < w.heap.size ∧
      ∀ j (hj : j < l.length), w.cell? ⟨g, j, none⟩ = some (.string l[j]) := by
  rcases h.2 with ⟨h1, h2⟩ | ⟨g, cap, cur, rfl, h2, h3, h4, h5, h6, h7⟩
  · exact .inl ⟨h1, List.eq_nil_of_length_eq_zero h2⟩
  · refine .inr ⟨g, cap, rfl, h2, h4, h5, (Array.getElem?_eq_some_iff.1 h3).1, fun j hj => ?_⟩
    have hc := World.ownsRow.cells h (g := g) rfl j (.string l[j]) (by simp [hj])
    have hadd : (⟨g, 0, none⟩ : Addr).add j = ⟨g, j, none⟩ := by unfold Addr.add; split <;> simp_all
    rw [hadd] at hc
    exact hc
theorem Strs.cut {w : World} {B g cap : Nat} {l : List ByteArray} (h : Strs w B (.slice (some ⟨g, 0, none⟩) l.length cap) l) (n : Nat) (hn : n ≤ l.length) : Strs w B (.slice (some ⟨g, 0, none⟩) n cap) (l.take n) := by
  have hl : (l.take n).length = n := by simp; omega
  rcases h.2 with ⟨h1, h2⟩ | ⟨g', cap', cur, hv, h2, h3, h4, h5, h6, h7⟩
  · cases h1
  · simp only [Value.slice.injEq, Option.some.injEq, Addr.mk.injEq] at hv
    obtain ⟨⟨rfl, _, _⟩, _, rfl⟩ := hv
    refine ⟨by simp, .inr ⟨g, cap, cur, by rw [hl], h2, h3, by omega, h5, h6, ?_⟩⟩
    rw [hl]
    have : (cur.toList.take (l.length * 1)).take n = (l.map Value.string).take n := by rw [h7]
    rw [List.take_take, Nat.min_eq_left (by omega)] at this
    simp only [Nat.mul_one]
    rw [this]
    simp [List.map_take]
section
variable {ops : Array Oper} {rest : List Oper} {o : Oper} {a : Act} {Q : Exit → Act → World → Prop}
/-- append(ss, s): the world already bears the one new cell -/
theorem law_app_elt (wr w0 : World) (s : ByteArray) (hgd : o.guard = none) (sl x : Operand) (ho : o.op = .call { callee := .builtin .append, args := #[sl, x], argTypes := #[39, 39] })
    (B : Nat) (v : Value) (l : List ByteArray) (hs : a.eval sl = v) (hown : Strs wr B v l) (hx : a.eval x = .slice (some ⟨wr.heap.size, 0, none⟩) 1 1)
    (hn : l.length + 1 ≤ 1073741824) (hB : B ≤ wr.heap.size) (hbel : Below B w0 wr)
    (h : ∀ v' w', Strs w' B v' (l ++ [s]) → v' ≠ .slice none 0 0 → Below B w0 w' → wpList Try.prog ops Q rest (a.put o.dst v') w') :
    wpList Try.prog ops Q (o :: rest) a (wr.alloc (.cells #[.string s] 9)) := by
  obtain ⟨i0, hi, hz0, hz1, hz2⟩ := info_parts info9
  refine wpList_append_own _ hgd sl x 39 ho B 9 i0 (.string ByteArray.empty) 1 16 Try.underlying39 hi hz0 hz1 hz2 rfl (by decide) v l.length (l.map Value.string) hs (World.ownsRow.alloc hown _) ⟨wr.heap.size, 0, none⟩ 1 1 [.string s] hx rfl (cell_one_new _ _ _) (fun u hu => by simp at hu; subst hu; rfl) (by unfold maxLen; omega) (by omega) (by simp; omega) ?_
  intro v' w' h1 h2 h3
  refine h v' w' ?_ (fun e => by have := (h3.1 e).2; omega) ((hbel.alloc hB _).grown h2 (by simp; omega) (fun k hk => (World.ownsRow.lt hown k hk).1))
  have e : (l ++ [s]).length = l.length + 1 := by simp
  unfold Strs
  rw [e, List.map_append]
  exact h1
end
end Go.Proofs.Qxb6602061a
