/-
  DERIVED. THE PLAIN PART of 'removeDotSegments' against the stack model: no Go in sight.
-/
import Derived.Lib.Strings
import Derived.Lib.Bytealg
import Derived.Lib.IndexLaws
namespace Go.Proofs.Qxb6602061a
namespace Rd
abbrev Seg := List UInt8
/-- Where the last slash stands, cut there; nothing where there is none. -/
def lastIdx : Seg → Nat → Int
  | _, 0 => -1
  | l, k + 1 => if l.getD k 0 = 47 then (k : Int) else lastIdx l k
def dropSeg (l : Seg) : Seg := if 0 ≤ lastIdx l l.length then l.take (lastIdx l l.length).toNat else []
/-- Where the first segment (with the slash before it) ends. -/
def segEnd (inp : Seg) : Nat := if Lib.indexByte (inp.drop 1) 47 + 1 = 0 then inp.length else (Lib.indexByte (inp.drop 1) 47 + 1).toNat
def step (inp out : Seg) : Seg × Seg :=
  if Lib.hasPrefix inp [46, 46, 47] then (inp.drop 3, out)
  else if Lib.hasPrefix inp [46, 47] then (inp.drop 2, out)
  else if Lib.hasPrefix inp [47, 46, 47] then (inp.drop 2, out)
  else if inp == [47, 46] then ([47], out)
  else if Lib.hasPrefix inp [47, 46, 46, 47] then (inp.drop 3, dropSeg out)
  else if inp == [47, 46, 46] then ([47], dropSeg out)
  else if inp == [46] then ([], out)
  else if inp == [46, 46] then ([], out)
  else (inp.drop (segEnd inp), out ++ inp.take (segEnd inp))
def run : Nat → Seg → Seg → Seg
  | 0, _, out => out
  | f + 1, inp, out => if inp = [] then out else run f (step inp out).1 (step inp out).2
theorem prefix_len {p l : Seg} (h : Lib.hasPrefix l p = true) : p.length ≤ l.length := by
  unfold Lib.hasPrefix at h
  exact (List.isPrefixOf_iff_prefix.1 h).length_le
theorem segEnd_pos (inp : Seg) (h : inp ≠ []) : 1 ≤ segEnd inp := by
  unfold segEnd
  have := Lib.indexByte_ge (inp.drop 1) 47
  have : 0 < inp.length := List.length_pos_iff.2 h
  split <;> omega
theorem indexByte_lt (l : Seg) (c : UInt8) : Lib.indexByte l c < l.length ∨ l = [] ∧ Lib.indexByte l c = -1 := by
  cases l with
  | nil => exact .inr ⟨rfl, rfl⟩
  | cons b l =>
    refine .inl ?_
    have ih := indexByte_lt l c
    have := Lib.indexByte_ge l c
    simp only [Lib.indexByte, List.length_cons]
    split
    · omega
    · split
      · omega
      · rcases ih with ih | ⟨rfl, h⟩
        · omega
        · rw [h]; simp
theorem segEnd_le (inp : Seg) (h : inp ≠ []) : segEnd inp ≤ inp.length := by
  unfold segEnd
  have h0 : 0 < inp.length := List.length_pos_iff.2 h
  have := indexByte_lt (inp.drop 1) 47
  simp only [List.length_drop] at this
  split
  · omega
  · rcases this with h | ⟨_, h⟩
    · omega
    · omega
theorem step_lt (inp out : Seg) (h : inp ≠ []) : (step inp out).1.length < inp.length := by
  have h0 : 0 < inp.length := List.length_pos_iff.2 h
  have h1 := segEnd_pos inp h
  unfold step
  repeat' split
  all_goals first
    | (simp only [List.length_drop]; omega)
    | (rename_i hh; have := prefix_len hh; simp only [List.length_drop, List.length_cons, List.length_nil] at *; omega)
    | (simp_all; done)
theorem run_fuel : ∀ (f g : Nat) (inp out : Seg), inp.length ≤ f → inp.length ≤ g → run f inp out = run g inp out := by
  intro f
  induction f with
  | zero =>
    intro g inp out hf hg
    have : inp = [] := List.eq_nil_of_length_eq_zero (by omega)
    subst this
    cases g <;> simp [run]
  | succ f ih =>
    intro g inp out hf hg
    by_cases h : inp = []
    · subst h
      cases g <;> simp [run]
    · cases g with
      | zero => exact absurd (List.eq_nil_of_length_eq_zero (by omega)) h
      | succ g =>
        have := step_lt inp out h
        simp only [run, if_neg h]
        exact ih g _ _ (by omega) (by omega)
/-- What removeDotSegments' loop makes of (in, out). -/
def go (inp out : Seg) : Seg := run inp.length inp out
theorem go_nil (out : Seg) : go [] out = out := rfl
theorem go_step (inp out : Seg) (h : inp ≠ []) : go inp out = go (step inp out).1 (step inp out).2 := by
  have := step_lt inp out h
  unfold go
  cases hn : inp.length with
  | zero => exact absurd (List.eq_nil_of_length_eq_zero hn) h
  | succ n =>
    rw [run, if_neg h]
    exact run_fuel _ _ _ _ (by omega) (by omega)
/-- removeDotSegments -/
def rd (p : Seg) : Seg := if 0 ≤ Lib.indexByte p 46 then go p [] else p
/-! ### the model -/
def split : Seg → List Seg
  | [] => [[]]
  | c :: r => if c = 47 then [] :: split r else match split r with
    | s :: ss => (c :: s) :: ss
    | [] => [[c]]
def sm : List Seg → List Seg → Bool → List Seg × Bool
  | [], st, hh => (st, hh)
  | t :: ts, st, hh =>
    if t == [46] then sm ts (if ts.isEmpty then st ++ [[]] else st) hh
    else if t == [46, 46] then
      sm ts (if ts.isEmpty then (if 0 < st.length then st.dropLast else st) ++ [[]] else (if 0 < st.length then st.dropLast else st)) (if 0 < st.length then hh else false)
    else sm ts (st ++ [t]) hh
def join : List Seg → Seg
  | [] => []
  | t :: ts => 47 :: (t ++ join ts)
def render (head : Seg) (x : List Seg × Bool) : Seg := (if x.2 then head else []) ++ join x.1
def slash (head : Seg) (hh : Bool) (ts : List Seg) : Seg := render head (sm ts [] hh)
def rel : List Seg → Seg
  | [] => []
  | s :: rest => if s == [46] || s == [46, 46] then
      (match rest with
       | [] => []
       | t :: rest' => if t = [] then (if rest' = [] then [] else slash [] false rest') else rel (t :: rest'))
    else slash s true rest
def model (p : Seg) : Seg := match p with
  | [] => []
  | c :: r => if c = 47 then slash [] false (split r) else rel (split (c :: r))
/-! ### laws -/
theorem join_append (a b : List Seg) : join (a ++ b) = join a ++ join b := by
  induction a with
  | nil => rfl
  | cons t ts ih => simp [join, ih]
theorem split_ne (p : Seg) : split p ≠ [] := by
  cases p with
  | nil => simp [split]
  | cons c r =>
    unfold split
    split
    · simp
    · split <;> simp
theorem split_spec : ∀ p : Seg, ∃ s ss, split p = s :: ss ∧ p = s ++ join ss ∧ (∀ t ∈ s :: ss, (47 : UInt8) ∉ t) := by
  intro p
  induction p with
  | nil => exact ⟨[], [], rfl, rfl, by simp⟩
  | cons c r ih =>
    obtain ⟨s, ss, h1, h2, h3⟩ := ih
    by_cases hc : c = 47
    · subst hc
      refine ⟨[], s :: ss, by simp [split, h1], by simp [join, ← h2], ?_⟩
      intro t ht
      rcases List.mem_cons.1 ht with rfl | ht
      · simp
      · exact h3 t ht
    · refine ⟨c :: s, ss, by simp [split, hc, h1], by simp [← h2], ?_⟩
      intro t ht
      rcases List.mem_cons.1 ht with rfl | ht
      · intro hm
        rcases List.mem_cons.1 hm with h | h
        · exact hc h.symm
        · exact h3 s (by simp) h
      · exact h3 t (by simp [ht])
theorem lastIdx_of (a b : Seg) (hb : (47 : UInt8) ∉ b) : ∀ k, k ≤ b.length → lastIdx (a ++ 47 :: b) (a.length + 1 + k) = a.length := by
  intro k
  induction k with
  | zero =>
    intro _
    simp [lastIdx]
  | succ k ih =>
    intro hk
    rw [← Nat.add_assoc, lastIdx, if_neg]
    · exact ih (by omega)
    · have : (a ++ 47 :: b).getD (a.length + 1 + k) 0 = b.getD k 0 := by
        simp only [List.getD_eq_getElem?_getD]
        rw [List.getElem?_append_right (by omega)]
        have : a.length + 1 + k - a.length = k + 1 := by omega
        rw [this]
        simp
      rw [this]
      intro he
      apply hb
      rw [List.getD_eq_getElem?_getD, List.getElem?_eq_getElem (by omega)] at he
      simp at he
      rw [← he]
      exact List.getElem_mem _
theorem lastIdx_none (a : Seg) (ha : (47 : UInt8) ∉ a) : ∀ k, k ≤ a.length → lastIdx a k = -1 := by
  intro k
  induction k with
  | zero => intro _; rfl
  | succ k ih =>
    intro hk
    rw [lastIdx, if_neg]
    · exact ih (by omega)
    · intro he
      apply ha
      rw [List.getD_eq_getElem?_getD, List.getElem?_eq_getElem (by omega)] at he
      simp at he
      rw [← he]
      exact List.getElem_mem _
theorem dropSeg_of (a b : Seg) (hb : (47 : UInt8) ∉ b) : dropSeg (a ++ 47 :: b) = a := by
  have h := lastIdx_of a b hb b.length (Nat.le_refl _)
  have e : (a ++ 47 :: b).length = a.length + 1 + b.length := by simp; omega
  unfold dropSeg
  rw [e, h, if_pos (by omega)]
  simp
theorem dropSeg_none (a : Seg) (ha : (47 : UInt8) ∉ a) : dropSeg a = [] := by
  unfold dropSeg
  rw [lastIdx_none a ha a.length (Nat.le_refl _)]
  simp
theorem dropSeg_len (l : Seg) : (dropSeg l).length ≤ l.length := by
  unfold dropSeg
  split
  · simp; omega
  · simp
theorem indexByte_append (t r : Seg) (ht : (47 : UInt8) ∉ t) : Lib.indexByte (t ++ 47 :: r) 47 = t.length := by
  induction t with
  | nil => simp [Lib.indexByte]
  | cons b t ih =>
    have hb : b ≠ 47 := fun e => ht (by simp [e])
    have ih' := ih (fun h => ht (by simp [h]))
    simp only [List.cons_append, Lib.indexByte, ih', List.length_cons]
    rw [if_neg (by simpa using hb), if_neg (by simp)]
    simp
theorem indexByte_no (t : Seg) (c : UInt8) (ht : c ∉ t) : Lib.indexByte t c = -1 := by
  induction t with
  | nil => rfl
  | cons b t ih =>
    have hb : b ≠ c := fun e => ht (by simp [e])
    have ih' := ih (fun h => ht (by simp [h]))
    simp only [Lib.indexByte, ih']
    rw [if_neg (by simpa using hb)]
    simp
/-- The first segment of 'b t /..': its end. -/
theorem segEnd_at (inp : Seg) (n : Nat) (h : Lib.indexByte (inp.drop 1) 47 = n) : segEnd inp = n + 1 := by
  unfold segEnd
  rw [if_neg (by omega)]
  omega
theorem segEnd_no (inp : Seg) (h : Lib.indexByte (inp.drop 1) 47 = -1) : segEnd inp = inp.length := by
  unfold segEnd
  rw [if_pos (by omega)]
theorem segEnd_of (b : UInt8) (t : Seg) (ts : List Seg) (ht : (47 : UInt8) ∉ t) : segEnd (b :: (t ++ join ts)) = t.length + 1 := by
  cases ts with
  | nil =>
    rw [segEnd_no _ (by simpa [join] using indexByte_no t 47 ht)]
    simp [join]
  | cons u us => exact segEnd_at _ _ (by simpa [join] using indexByte_append t _ ht)
theorem pre_iff (p l : Seg) : Lib.hasPrefix l p = true ↔ ∃ r, l = p ++ r := by
  unfold Lib.hasPrefix
  rw [List.isPrefixOf_iff_prefix]
  constructor
  · rintro ⟨r, h⟩; exact ⟨r, h.symm⟩
  · rintro ⟨r, h⟩; exact ⟨r, h.symm⟩
theorem step_dot_last (out : Seg) : step [47, 46] out = ([47], out) := rfl
theorem step_slash_last (out : Seg) : step [47] out = ([], out ++ [47]) := rfl
theorem step_ddot_last (out : Seg) : step [47, 46, 46] out = ([47], dropSeg out) := rfl
theorem step_dot (r out : Seg) : step (47 :: 46 :: 47 :: r) out = (47 :: r, out) := by
  simp [step, Lib.hasPrefix]
theorem step_ddot (r out : Seg) : step (47 :: 46 :: 46 :: 47 :: r) out = (47 :: r, dropSeg out) := by
  simp [step, Lib.hasPrefix]
/-- The default arm. -/
theorem step_default (inp out : Seg) (h1 : Lib.hasPrefix inp [46, 46, 47] = false) (h2 : Lib.hasPrefix inp [46, 47] = false) (h3 : Lib.hasPrefix inp [47, 46, 47] = false) (h4 : (inp == [47, 46]) = false)
    (h5 : Lib.hasPrefix inp [47, 46, 46, 47] = false) (h6 : (inp == [47, 46, 46]) = false) (h7 : (inp == [46]) = false) (h8 : (inp == [46, 46]) = false) :
    step inp out = (inp.drop (segEnd inp), out ++ inp.take (segEnd inp)) := by
  simp [step, h1, h2, h3, h5, (by simpa using h4 : inp ≠ [47, 46]), (by simpa using h6 : inp ≠ [47, 46, 46]), (by simpa using h7 : inp ≠ [46]), (by simpa using h8 : inp ≠ [46, 46])]
theorem not_pre {p l : Seg} (h : ∀ r, l ≠ p ++ r) : Lib.hasPrefix l p = false := by
  rw [Bool.eq_false_iff]
  intro hp
  obtain ⟨r, hr⟩ := (pre_iff p l).1 hp
  exact h r hr
theorem not_eq {l k : Seg} (h : l ≠ k) : (l == k) = false := by simpa using h
/-- A segment without a slash that is followed by what 'join' makes, against a word and a slash. -/
theorem seg_cut {t p r : Seg} {ts : List Seg} (ht : (47 : UInt8) ∉ t) (hp : (47 : UInt8) ∉ p) (h : t ++ join ts = p ++ 47 :: r) : t = p := by
  induction t generalizing p with
  | nil =>
    cases p with
    | nil => rfl
    | cons b p =>
      cases ts with
      | nil => simp [join] at h
      | cons u us =>
        simp [join] at h
        exact absurd (by simp [h.1]) hp
  | cons c t ih =>
    cases p with
    | nil =>
      simp at h
      exact absurd (by simp [h.1]) ht
    | cons b p =>
      simp only [List.cons_append, List.cons.injEq] at h
      rw [h.1, ih (fun hm => ht (by simp [hm])) (fun hm => hp (by simp [hm])) h.2]
theorem seg_end {t p : Seg} {ts : List Seg} (hp : (47 : UInt8) ∉ p) (h : t ++ join ts = p) : t = p ∧ ts = [] := by
  cases ts with
  | nil => exact ⟨by simpa [join] using h, rfl⟩
  | cons u us =>
    refine absurd ?_ hp
    rw [← h]
    simp [join]
theorem step_other (t : Seg) (ts : List Seg) (out : Seg) (ht : (47 : UInt8) ∉ t) (h1 : t ≠ [46]) (h2 : t ≠ [46, 46]) :
    step (47 :: (t ++ join ts)) out = (join ts, out ++ 47 :: t) := by
  rw [step_default]
  · rw [segEnd_of 47 t ts ht]
    simp
  · exact not_pre (by intro r h; simp at h)
  · exact not_pre (by intro r h; simp at h)
  · refine not_pre (fun r h => h1 ?_)
    simp only [List.cons_append, List.cons.injEq, true_and, List.nil_append] at h
    exact seg_cut (p := [46]) (r := r) ht (by decide) h
  · refine not_eq (fun h => h1 ?_)
    simp only [List.cons.injEq, true_and] at h
    exact (seg_end (p := [46]) (by decide) h).1
  · refine not_pre (fun r h => h2 ?_)
    simp only [List.cons_append, List.cons.injEq, true_and, List.nil_append] at h
    exact seg_cut (p := [46, 46]) (r := r) ht (by decide) h
  · refine not_eq (fun h => h2 ?_)
    simp only [List.cons.injEq, true_and] at h
    exact (seg_end (p := [46, 46]) (by decide) h).1
  · exact not_eq (by intro h; simp at h)
  · exact not_eq (by intro h; simp at h)
theorem dropSeg_render (head : Seg) (hhead : (47 : UInt8) ∉ head) (st : List Seg) (hh : Bool) (hst : ∀ t ∈ st, (47 : UInt8) ∉ t) :
    dropSeg (render head (st, hh)) = render head (if 0 < st.length then st.dropLast else st, if 0 < st.length then hh else false) := by
  by_cases h : st = []
  · subst h
    simp only [render, join, List.append_nil, List.length_nil, Nat.lt_irrefl, if_false]
    rw [dropSeg_none]
    · simp
    · split
      · exact hhead
      · simp
  · have hl : 0 < st.length := List.length_pos_iff.2 h
    rw [if_pos hl, if_pos hl]
    have e : st = st.dropLast ++ [st.getLast h] := (List.dropLast_concat_getLast h).symm
    have hx : (47 : UInt8) ∉ st.getLast h := hst _ (List.getLast_mem h)
    have e2 : render head (st, hh) = render head (st.dropLast, hh) ++ 47 :: st.getLast h := by
      have e3 : render head (st, hh) = render head (st.dropLast ++ [st.getLast h], hh) := by rw [← e]
      rw [e3]
      simp [render, join_append, join]
    rw [e2, dropSeg_of _ _ hx]
theorem render_snoc (head : Seg) (st : List Seg) (hh : Bool) (t : Seg) : render head (st ++ [t], hh) = render head (st, hh) ++ 47 :: t := by
  simp [render, join_append, join]
theorem go_slash (head : Seg) (hhead : (47 : UInt8) ∉ head) : ∀ (ts st : List Seg) (hh : Bool), (∀ t ∈ ts, (47 : UInt8) ∉ t) → (∀ t ∈ st, (47 : UInt8) ∉ t) →
    go (join ts) (render head (st, hh)) = render head (sm ts st hh) := by
  intro ts
  induction ts with
  | nil => intro st hh _ _; rfl
  | cons t ts ih =>
    intro st hh hts hst
    have ht : (47 : UInt8) ∉ t := hts t (by simp)
    have hts' : ∀ t ∈ ts, (47 : UInt8) ∉ t := fun u hu => hts u (by simp [hu])
    have hdl : ∀ t ∈ (if 0 < st.length then st.dropLast else st), (47 : UInt8) ∉ t := by
      intro u hu
      split at hu
      · exact hst u (List.dropLast_subset _ hu)
      · exact hst u hu
    rw [go_step _ _ (by simp [join])]
    by_cases h1 : t = [46]
    · subst h1
      cases ts with
      | nil =>
        simp only [join, List.append_nil, step_dot_last]
        rw [go_step _ _ (by simp), step_slash_last, go_nil]
        simp [sm, render_snoc]
      | cons u us =>
        have e : join ([46] :: u :: us) = 47 :: 46 :: 47 :: (u ++ join us) := rfl
        rw [e, step_dot]
        have := ih st hh hts' hst
        simp only [join] at this
        rw [this]
        simp [sm]
    · by_cases h2 : t = [46, 46]
      · subst h2
        cases ts with
        | nil =>
          simp only [join, List.append_nil, step_ddot_last]
          rw [go_step _ _ (by simp), step_slash_last, go_nil, dropSeg_render head hhead st hh hst, ← render_snoc]
          simp [sm]
        | cons u us =>
          have e : join ([46, 46] :: u :: us) = 47 :: 46 :: 46 :: 47 :: (u ++ join us) := rfl
          rw [e, step_ddot, dropSeg_render head hhead st hh hst]
          have := ih (if 0 < st.length then st.dropLast else st) (if 0 < st.length then hh else false) hts' hdl
          simp only [join] at this
          rw [this]
          simp [sm]
      · have e : join (t :: ts) = 47 :: (t ++ join ts) := rfl
        rw [e, step_other t ts _ ht h1 h2, ← render_snoc]
        rw [ih (st ++ [t]) hh hts' (by intro u hu; rcases List.mem_append.1 hu with h | h; exact hst u h; simp at h; rw [h]; exact ht)]
        simp [sm, h1, h2]
theorem step_rdot (r out : Seg) : step (46 :: 47 :: r) out = (r, out) := by
  simp [step, Lib.hasPrefix]
theorem step_rddot (r out : Seg) : step (46 :: 46 :: 47 :: r) out = (r, out) := by
  simp [step, Lib.hasPrefix]
theorem step_rother (b : UInt8) (t : Seg) (ts : List Seg) (out : Seg) (ht : (47 : UInt8) ∉ b :: t) (h1 : b :: t ≠ [46]) (h2 : b :: t ≠ [46, 46]) :
    step (b :: t ++ join ts) out = (join ts, out ++ b :: t) := by
  have hb : b ≠ 47 := fun e => ht (by simp [e])
  have ht' : (47 : UInt8) ∉ t := fun e => ht (by simp [e])
  rw [step_default]
  · rw [List.cons_append, segEnd_of b t ts ht']
    simp
  · exact not_pre (fun r h => h2 (seg_cut (p := [46, 46]) (r := r) ht (by decide) h))
  · exact not_pre (fun r h => h1 (seg_cut (p := [46]) (r := r) ht (by decide) h))
  · exact not_pre (by intro r h; simp at h; exact hb h.1)
  · exact not_eq (by intro h; simp at h; exact hb h.1)
  · exact not_pre (by intro r h; simp at h; exact hb h.1)
  · exact not_eq (by intro h; simp at h; exact hb h.1)
  · exact not_eq (fun h => h1 (seg_end (p := [46]) (by decide) h).1)
  · exact not_eq (fun h => h2 (seg_end (p := [46, 46]) (by decide) h).1)
theorem rel_cons (s : Seg) (rest : List Seg) : rel (s :: rest) = if s == [46] || s == [46, 46] then
      (match rest with
       | [] => []
       | t :: rest' => if t = [] then (if rest' = [] then [] else slash [] false rest') else rel (t :: rest'))
    else slash s true rest := by
  cases rest <;> rfl
theorem rel_other (s : Seg) (rest : List Seg) (h1 : s ≠ [46]) (h2 : s ≠ [46, 46]) : rel (s :: rest) = slash s true rest := by
  have hc : (s == [46] || s == [46, 46]) = false := by simp [h1, h2]
  rw [rel_cons]
  simp only [hc]
  rfl
theorem go_rel : ∀ (ss : List Seg) (s : Seg), s ≠ [] → (∀ t ∈ s :: ss, (47 : UInt8) ∉ t) → go (s ++ join ss) [] = rel (s :: ss) := by
  intro ss
  induction ss with
  | nil =>
    intro s hs h
    by_cases h1 : s = [46]
    · subst h1; rfl
    · by_cases h2 : s = [46, 46]
      · subst h2; rfl
      · cases s with
        | nil => exact absurd rfl hs
        | cons b t =>
          rw [go_step _ _ (by simp), step_rother b t [] [] (h _ (by simp)) h1 h2]
          have := go_slash (b :: t) (h _ (by simp)) [] [] true (by simp) (by simp)
          simp only [render, if_true, join, List.append_nil] at this
          simp only [List.nil_append, join]
          rw [this, rel_other _ _ h1 h2]
          rfl
  | cons u us ih =>
    intro s hs h
    have hss : ∀ t ∈ u :: us, (47 : UInt8) ∉ t := fun t ht => h t (by simp at ht ⊢; right; exact ht)
    have key : (s = [46] ∨ s = [46, 46]) → go (s ++ join (u :: us)) [] = rel (s :: u :: us) := by
      intro hs2
      have e1 : go (s ++ join (u :: us)) [] = go (u ++ join us) [] := by
        rcases hs2 with rfl | rfl
        · rw [go_step _ _ (by simp)]
          have e : [46] ++ join (u :: us) = 46 :: 47 :: (u ++ join us) := rfl
          rw [e, step_rdot]
        · rw [go_step _ _ (by simp)]
          have e : [46, 46] ++ join (u :: us) = 46 :: 46 :: 47 :: (u ++ join us) := rfl
          rw [e, step_rddot]
      rw [e1]
      have hc : (s == [46] || s == [46, 46]) = true := by rcases hs2 with rfl | rfl <;> rfl
      simp only [rel, hc, if_true]
      by_cases hu : u = []
      · subst hu
        rw [if_pos rfl]
        by_cases hus : us = []
        · subst hus; rfl
        · rw [if_neg hus]
          have := go_slash [] (by simp) us [] false (fun t ht => hss t (by simp [ht])) (by simp)
          simp only [render, join] at this
          exact this
      · rw [if_neg hu]
        exact ih u hu hss
    by_cases h1 : s = [46]
    · exact key (.inl h1)
    · by_cases h2 : s = [46, 46]
      · exact key (.inr h2)
      · cases s with
        | nil => exact absurd rfl hs
        | cons b t =>
          rw [go_step _ _ (by simp), step_rother b t (u :: us) [] (h _ (by simp)) h1 h2]
          have := go_slash (b :: t) (h _ (by simp)) (u :: us) [] true hss (by simp)
          simp only [render, if_true, join, List.append_nil] at this
          simp only [List.nil_append, join]
          rw [this, rel_other _ _ h1 h2]
          rfl
theorem go_model (p : Seg) : go p [] = model p := by
  cases p with
  | nil => rfl
  | cons c r =>
    by_cases hc : c = 47
    · subst hc
      obtain ⟨s, ss, h1, h2, h3⟩ := split_spec r
      have := go_slash [] (by simp) (s :: ss) [] false h3 (by simp)
      simp only [render, join] at this
      simp only [model, if_true, slash, h1]
      rw [h2]
      exact this
    · obtain ⟨s, ss, h1, h2, h3⟩ := split_spec (c :: r)
      simp only [model, if_neg hc, h1]
      rw [h2]
      refine go_rel ss s ?_ h3
      rintro rfl
      cases ss with
      | nil => simp [join] at h2
      | cons u us => simp [join] at h2; exact hc h2.1
theorem go_nodot : ∀ (n : Nat) (inp out : Seg), inp.length ≤ n → (46 : UInt8) ∉ inp → go inp out = out ++ inp := by
  intro n
  induction n with
  | zero =>
    intro inp out h _
    have : inp = [] := List.eq_nil_of_length_eq_zero (by omega)
    subst this
    simp [go_nil]
  | succ n ih =>
    intro inp out h hd
    by_cases hi : inp = []
    · subst hi; simp [go_nil]
    · have hp : ∀ p : Seg, (46 : UInt8) ∈ p → Lib.hasPrefix inp p = false := fun p hm => not_pre (fun r e => hd (by rw [e]; simp [hm]))
      have he : ∀ p : Seg, (46 : UInt8) ∈ p → (inp == p) = false := fun p hm => not_eq (fun e => hd (by rw [e]; exact hm))
      have hl := step_lt inp out hi
      rw [go_step _ _ hi]
      rw [step_default inp out (hp _ (by simp)) (hp _ (by simp)) (hp _ (by simp)) (he _ (by simp)) (hp _ (by simp)) (he _ (by simp)) (he _ (by simp)) (he _ (by simp))] at hl ⊢
      rw [ih _ _ (by simp only at hl ⊢; omega) (fun hm => hd (List.mem_of_mem_drop hm))]
      simp
theorem rd_model (p : Seg) : rd p = model p := by
  rw [← go_model]
  unfold rd
  split
  · rfl
  · rename_i h
    rw [go_nodot p.length p [] (Nat.le_refl _)]
    · simp
    · intro hm
      apply h
      have hge := Lib.indexByte_ge p 46
      by_cases he : Lib.indexByte p 46 = -1
      · obtain ⟨k, hk, e⟩ := List.getElem_of_mem hm
        exact absurd (by rw [List.getElem?_eq_getElem hk, e]) (Lib.indexByte_none he k)
      · omega
end Rd
end Go.Proofs.Qxb6602061a
