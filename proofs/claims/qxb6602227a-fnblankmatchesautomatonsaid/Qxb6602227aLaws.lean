/-
  DERIVED. Laws on rows of bytes and of strings that a call itself has made, at this seat's type numbers: one word 'Bts' ('Strs'), and make, append and string(..) over it with the frame 'Below' carried along.
-/
import Derived.Test.Qxb6602227aRows
import Derived.WalkKit
import Derived.WalkSpells
import Derived.ProofKit
import Derived.Lib.AppendStr
namespace Go.Proofs.Qxb6602227a
open Go.RowKit
theorem info5 : (Try.prog.info? 5).map (fun i => (i.zero, i.size, i.bytes)) = some (some (.int .u8 0), 1, 1) := by kernel_rfl
theorem info9 : (Try.prog.info? 9).map (fun i => (i.zero, i.size, i.bytes)) = some (some (.string ByteArray.empty), 1, 16) := by kernel_rfl
/-- Bytes as cells. -/
def bcells (l : List UInt8) : List Value := l.map fun b => Value.int .u8 b.toNat
/-- 'v' is a slice of bytes of the call's own (its block numbered from B on), and holds l. -/
def Bts (w : World) (B : Nat) (v : Value) (l : List UInt8) : Prop := w.ownsRow B 5 1 v l.length (bcells l)
theorem bcells_length (l : List UInt8) : (bcells l).length = l.length := by simp [bcells]
theorem bcells_append (l k : List UInt8) : bcells (l ++ k) = bcells l ++ bcells k := by simp [bcells]
theorem bcells_str (s : ByteArray) : Lib.strCells s = bcells s.data.toList := rfl
theorem Bts.nil (w : World) (B : Nat) : Bts w B (.slice none 0 0) [] := World.ownsRow_nil _ _ _ _
theorem Bts.alloc {w : World} {B : Nat} {v : Value} {l : List UInt8} (h : Bts w B v l) (o : Obj) : Bts (w.alloc o) B v l := World.ownsRow.alloc h o
/-- The shape of such a value, and its cells. -/
theorem Bts.shape {w : World} {B : Nat} {v : Value} {l : List UInt8} (h : Bts w B v l) :
    (v = .slice none 0 0 ∧ l = []) ∨ ∃ g cap, v = .slice (some ⟨g, 0, none⟩) l.length cap ∧ B ≤ g ∧ l.length ≤ cap ∧ cap ≤ maxLen ∧
      ∀ j (hj : j < l.length), w.cell? ⟨g, j, none⟩ = some (.int .u8 l[j].toNat) := by
  rcases h.2 with ⟨h1, h2⟩ | ⟨g, cap, cur, rfl, h2, h3, h4, h5, h6, h7⟩
  · exact .inl ⟨h1, List.eq_nil_of_length_eq_zero h2⟩
  · refine .inr ⟨g, cap, rfl, h2, h4, h5, fun j hj => ?_⟩
    have hc := World.ownsRow.cells h (g := g) rfl j (.int .u8 l[j].toNat) (by simp [bcells, hj])
    have hadd : (⟨g, 0, none⟩ : Addr).add j = ⟨g, j, none⟩ := by unfold Addr.add; split <;> simp_all
    rw [hadd] at hc
    exact hc
/-- A slice cut at its end. -/
theorem Bts.cut {w : World} {B g cap : Nat} {l : List UInt8} (h : Bts w B (.slice (some ⟨g, 0, none⟩) l.length cap) l) (n : Nat) (hn : n ≤ l.length) : Bts w B (.slice (some ⟨g, 0, none⟩) n cap) (l.take n) := by
  have hl : (l.take n).length = n := by simp; omega
  rcases h.2 with ⟨h1, h2⟩ | ⟨g', cap', cur, hv, h2, h3, h4, h5, h6, h7⟩
  · cases h1
  · simp only [Value.slice.injEq, Option.some.injEq, Addr.mk.injEq] at hv
    obtain ⟨⟨rfl, _, _⟩, _, rfl⟩ := hv
    refine ⟨by simp [bcells], .inr ⟨g, cap, cur, by rw [hl], h2, h3, by omega, h5, h6, ?_⟩⟩
    rw [hl]
    have : (cur.toList.take (l.length * 1)).take n = (bcells l).take n := by rw [h7]
    rw [List.take_take, Nat.min_eq_left (by omega)] at this
    simp only [Nat.mul_one]
    rw [this]
    simp [bcells, List.map_take]
section
variable {ops : Array Oper} {rest : List Oper} {o : Oper} {a : Act} {Q : Exit → Act → World → Prop}
/-- make([]byte, 0, n) -/
theorem law_make (w w0 : World) (hg : o.guard = none) (l c : Operand) (hop : o.op = Op.makeSlice 26 l c) (B : Nat)
    (C : Int) (n : Nat) (hl : a.eval l = .int .i64 0) (hc : a.eval c = .int .i64 C) (hC : C = (n : Int)) (hn : n ≤ 1073741824) (hB : B ≤ w.heap.size) (hbel : Below B w0 w)
    (hK : ∀ w', Bts w' B (.slice (some ⟨w.heap.size, 0, none⟩) 0 n) [] → Below B w0 w' → wpList Try.prog ops Q rest (a.put o.dst (.slice (some ⟨w.heap.size, 0, none⟩) 0 n)) w') :
    wpList Try.prog ops Q (o :: rest) a w := by
  obtain ⟨i0, hi, hz0, hz1, hz2⟩ := info_parts info5
  refine wpList_make_own w hg l c 26 hop B 5 i0 (.int .u8 0) 1 Try.underlying26 hi hz0 hz1 .i64 .i64 C n hl hc hC (by rw [hz2]; omega) (by unfold maxLen; omega) hB ?_
  intro w' h1 h2
  exact hK w' h1 (hbel.grown h2 hB (by intro k hk; cases hk))
/-- append(out, s...), s a string -/
theorem law_app_str (w w0 : World) (hgd : o.guard = none) (sl x : Operand) (ho : o.op = .call { callee := .builtin .append, args := #[sl, x], argTypes := #[26, 9] })
    (B : Nat) (v : Value) (l : List UInt8) (hs : a.eval sl = v) (hown : Bts w B v l) (s : ByteArray) (hx : a.eval x = .string s)
    (hn : l.length + s.size ≤ 1073741824) (hB : B ≤ w.heap.size) (hbel : Below B w0 w)
    (h : ∀ v' w', Bts w' B v' (l ++ s.data.toList) → (v ≠ .slice none 0 0 → v' ≠ .slice none 0 0) → Below B w0 w' → wpList Try.prog ops Q rest (a.put o.dst v') w') : wpList Try.prog ops Q (o :: rest) a w := by
  obtain ⟨i0, hi, hz0, hz1, hz2⟩ := info_parts info5
  refine Lib.wpList_append_own_string w hgd sl x 26 9 ho B 5 i0 Try.underlying26 Try.underlying9 hi hz0 hz1 hz2 v l.length (bcells l) hs hown s hx (by unfold maxLen; omega) (by omega) hB ?_
  intro v' w' h1 h2 h3
  refine h v' w' ?_ (fun hv e => hv (h3.1 e).1) (hbel.grown h2 hB (fun k hk => (World.ownsRow.lt hown k hk).1))
  have e : (l ++ s.data.toList).length = l.length + s.size := by simp
  unfold Bts
  rw [e, bcells_append, ← bcells_str]
  exact h1
/-- append(out, c): the world already bears the one new cell -/
theorem law_app_one (wr w0 : World) (C : Int) (hgd : o.guard = none) (sl x : Operand) (ho : o.op = .call { callee := .builtin .append, args := #[sl, x], argTypes := #[26, 26] })
    (B : Nat) (v : Value) (l : List UInt8) (hs : a.eval sl = v) (hown : Bts wr B v l) (c : UInt8) (hC : C = (c.toNat : Int)) (hx : a.eval x = .slice (some ⟨wr.heap.size, 0, none⟩) 1 1)
    (hn : l.length + 1 ≤ 1073741824) (hB : B ≤ wr.heap.size) (hbel : Below B w0 wr)
    (h : ∀ v' w', Bts w' B v' (l ++ [c]) → v' ≠ .slice none 0 0 → Below B w0 w' → wpList Try.prog ops Q rest (a.put o.dst v') w') :
    wpList Try.prog ops Q (o :: rest) a (wr.alloc (.cells #[.int .u8 C] 5)) := by
  subst hC
  obtain ⟨i0, hi, hz0, hz1, hz2⟩ := info_parts info5
  refine wpList_append_own _ hgd sl x 26 ho B 5 i0 (.int .u8 0) 1 1 Try.underlying26 hi hz0 hz1 hz2 rfl (by decide) v l.length (bcells l) hs (World.ownsRow.alloc hown _) ⟨wr.heap.size, 0, none⟩ 1 1 [.int .u8 (c.toNat : Int)] hx rfl (cell_one_new _ _ _) (fun u hu => by simp at hu; subst hu; rfl) (by unfold maxLen; omega) (by omega) (by simp; omega) ?_
  intro v' w' h1 h2 h3
  refine h v' w' ?_ (fun e => by have := (h3.1 e).2; omega) ((hbel.alloc hB _).grown h2 (by simp; omega) (fun k hk => (World.ownsRow.lt hown k hk).1))
  have e : (l ++ [c]).length = l.length + 1 := by simp
  unfold Bts
  rw [e, bcells_append]
  exact h1
end
/-- string(out) -/
theorem conv_bts {w : World} {B : Nat} {v : Value} {l : List UInt8} (h : Bts w B v l) : (convert 26 9 v).run Try.prog w = .ok (.string ⟨l.toArray⟩) w := by
  rcases h.shape with ⟨rfl, rfl⟩ | ⟨g, cap, rfl, _, _, _, hc⟩
  · rw [run_convert_bytes_string w 26 9 5 none 0 0 Try.underlying26 Try.underlying5 Try.underlying9]
    kernel_rfl
  · refine run_convert_bytes_back w 26 9 5 ⟨g, 0, none⟩ cap l Try.underlying26 Try.underlying5 Try.underlying9 (fun j hj => ?_)
    have hadd : (⟨g, 0, none⟩ : Addr).add j = ⟨g, j, none⟩ := by unfold Addr.add; split <;> simp_all
    rw [hadd]
    exact hc j hj
end Go.Proofs.Qxb6602227a
