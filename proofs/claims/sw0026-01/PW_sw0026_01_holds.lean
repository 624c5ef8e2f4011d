import PyProof.Rows.All
import Wide.All
import OpenK.AllK
import Wide.FinOn
import PySem.Challenge.RW_sw0026_01
open PySem PySem.W PySem.Calls PyProof.Rows
set_option Elab.async false
set_option maxRecDepth 100000
set_option maxHeartbeats 8000000
set_option linter.unusedVariables false
set_option linter.unusedSimpArgs false
set_option linter.unusedSectionVars false
namespace Mine
-- PL
def costOf (x y : Str) : Int := if x == y then 0 else if Txt.lower x == Txt.lower y then 1 else 2
def one (c : Nat) : Str := ⟨#[c]⟩
theorem costOf_range (x y : Str) : 0 ≤ costOf x y ∧ costOf x y ≤ 2 := by
  unfold costOf; split <;> (try split) <;> omega

noncomputable def Sm (c : Nat → Int) : Nat → Int
  | 0 => 0
  | k + 1 => Sm c k + c k
noncomputable def Dst (c : Nat → Int) (i j : Nat) : Int := if i ≤ j then Sm c i + 2 * ((j : Int) - i) else Sm c j + 2 * ((i : Int) - j)
section
variable {c : Nat → Int} (hc : ∀ k, 0 ≤ c k ∧ c k ≤ 2)
include hc
theorem Sm_step (k : Nat) : Sm c k ≤ Sm c (k + 1) ∧ Sm c (k + 1) ≤ Sm c k + 2 := by
  have := hc k
  show Sm c k ≤ Sm c k + c k ∧ Sm c k + c k ≤ Sm c k + 2
  omega
theorem Sm_range (k : Nat) : 0 ≤ Sm c k ∧ Sm c k ≤ 2 * k := by
  induction k with
  | zero => exact ⟨Int.le_refl _, Int.le_refl _⟩
  | succ k ih =>
    have := hc k
    show 0 ≤ Sm c k + c k ∧ Sm c k + c k ≤ 2 * ((k + 1 : Nat) : Int)
    omega
theorem Dst_nonneg (i j : Nat) : 0 ≤ Dst c i j := by
  have h1 := Sm_range hc i
  have h2 := Sm_range hc j
  unfold Dst; split <;> omega
theorem Dst_le (i j : Nat) : Dst c i j ≤ 2 * (i + j : Nat) := by
  have h1 := Sm_range hc i
  have h2 := Sm_range hc j
  unfold Dst; split <;> omega
/-- one cell of the table -/
theorem Dst_cell (i j : Nat) (sub r : Int) (hs : sub = if i = j then c i else 2) (hr : r = if j = 0 then 2 * (i : Int) else Dst c (i + 1) j) :
    min (min r (Dst c i (j + 1)) + 2) (Dst c i j + sub) = Dst c (i + 1) (j + 1) := by
  have a1 := Sm_step hc i
  have a2 := Sm_step hc j
  have b1 := Sm_range hc i
  have b2 := Sm_range hc j
  have b3 := Sm_range hc (i + 1)
  have b4 := Sm_range hc (j + 1)
  have ci := hc i
  have ei : Sm c (i + 1) = Sm c i + c i := rfl
  subst hs hr
  rcases Nat.lt_trichotomy i j with h | h | h
  · have d1 : Dst c (i + 1) (j + 1) = Sm c (i + 1) + 2 * ((j : Int) - i) := by unfold Dst; rw [if_pos (by omega)]; omega
    have d2 : Dst c i (j + 1) = Sm c i + 2 * ((j : Int) + 1 - i) := by unfold Dst; rw [if_pos (by omega)]; omega
    have d3 : Dst c (i + 1) j = Sm c (i + 1) + 2 * ((j : Int) - i - 1) := by unfold Dst; rw [if_pos (by omega)]; omega
    have d4 : Dst c i j = Sm c i + 2 * ((j : Int) - i) := by unfold Dst; rw [if_pos (by omega)]
    rw [if_neg (by omega), if_neg (by omega), d1, d2, d3, d4]
    omega
  · subst h
    have d1 : Dst c (i + 1) (i + 1) = Sm c (i + 1) := by unfold Dst; rw [if_pos (by omega)]; omega
    have d2 : Dst c i (i + 1) = Sm c i + 2 := by unfold Dst; rw [if_pos (by omega)]; omega
    have d4 : Dst c i i = Sm c i := by unfold Dst; rw [if_pos (by omega)]; omega
    rw [if_pos rfl, d1, d2, d4]
    by_cases h0 : i = 0
    · subst h0; rw [if_pos rfl]; have : Sm c 0 = 0 := rfl; omega
    · have d3 : Dst c (i + 1) i = Sm c i + 2 := by unfold Dst; rw [if_neg (by omega)]; omega
      rw [if_neg h0, d3]; omega
  · have d1 : Dst c (i + 1) (j + 1) = Sm c (j + 1) + 2 * ((i : Int) - j) := by
      unfold Dst
      by_cases h2 : i + 1 ≤ j + 1
      · omega
      · rw [if_neg h2]; omega
    have d2 : Dst c i (j + 1) = Sm c (j + 1) + 2 * ((i : Int) - j - 1) := by
      unfold Dst
      by_cases h2 : i ≤ j + 1
      · have e : i = j + 1 := by omega
        subst e; rw [if_pos h2]; omega
      · rw [if_neg h2]; omega
    have d4 : Dst c i j = Sm c j + 2 * ((i : Int) - j) := by unfold Dst; rw [if_neg (by omega)]
    rw [if_neg (by omega : ¬ i = j), d1, d2, d4]
    by_cases h0 : j = 0
    · subst h0; rw [if_pos rfl]; have : Sm c 0 = 0 := rfl; omega
    · have d3 : Dst c (i + 1) j = Sm c j + 2 * ((i : Int) + 1 - j) := by unfold Dst; rw [if_neg (by omega)]; omega
      rw [if_neg h0, d3]; omega
end

/-- the row of the table when the turn i stands at the column j -/
noncomputable def rowAt (c : Nat → Int) (m i j : Nat) : List Int := (List.range m).map fun t => if t < j then Dst c (i + 1) (t + 1) else Dst c i (t + 1)
theorem rowAt_length (c : Nat → Int) (m i j : Nat) : (rowAt c m i j).length = m := by simp [rowAt]
theorem rowAt_get (c : Nat → Int) {m i j : Nat} (h : j < m) : (rowAt c m i j)[j]? = some (Dst c i (j + 1)) := by simp [rowAt, h]
theorem rowAt_set (c : Nat → Int) {m i j : Nat} : (rowAt c m i j).set j (Dst c (i + 1) (j + 1)) = rowAt c m i (j + 1) := by
  apply List.ext_getElem
  · simp [rowAt]
  · intro t h1 h2
    rw [List.getElem_set]
    simp only [rowAt, List.getElem_map, List.getElem_range]
    by_cases e : j = t
    · subst e; rw [if_pos rfl, if_pos (by omega)]
    · rw [if_neg e]
      by_cases q : t < j
      · rw [if_pos q, if_pos (by omega)]
      · rw [if_neg q, if_neg (by omega)]
theorem rowAt_next (c : Nat → Int) (m i : Nat) : rowAt c m i m = rowAt c m (i + 1) 0 := by
  apply List.ext_getElem
  · simp [rowAt]
  · intro t h1 h2
    simp only [rowAt, List.getElem_map, List.getElem_range]
    have : t < m := by simpa [rowAt] using h1
    rw [if_pos this, if_neg (by omega)]

theorem IntsAre.set {vs : List Value} {ns : List Int} (h : IntsAre vs ns) (j : Nat) (v : Int) (t : Tok) : IntsAre (vs.set j (.int v t)) (ns.set j v) := by
  induction h generalizing j with
  | nil => exact .nil
  | cons y u hr ih =>
    cases j with
    | zero => exact .cons _ _ hr
    | succ j => exact .cons _ _ (ih j)
theorem setL_of {vs : List Value} {j : Nat} {v : Value} (h : j < vs.length) : ki_setL vs j v = some (vs.set j v) := by
  induction vs generalizing j with
  | nil => simp at h
  | cons x r ih =>
    cases j with
    | zero => rfl
    | succ j => unfold ki_setL; rw [ih (by simpa using h)]; rfl

-- words
abbrev wd (l : List Nat) : Str := ⟨l.toArray⟩
theorem wd_length (l : List Nat) : (wd l).length = l.length := by show l.toArray.size = _; simp
theorem wd_ne {a b : List Nat} (h : (wd a == wd b) = false) : a ≠ b := fun e => by rw [e] at h; simp at h
theorem item_wd {l : List Nat} {k : Int} {j : Nat} (h : seqIndex? k l.length = some j) (hj : j < l.length) : Txt.item (wd l) k = one l[j] := by
  unfold Txt.item Txt.charAt
  rw [wd_length, h]
  show (⟨#[((l.toArray)[j]?).getD 0]⟩ : Str) = _
  simp [hj, one]
theorem slice_from {l : List Nat} {k : Nat} (h : k ≤ l.length) : Txt.slice (wd l) (some k) none = wd (l.drop k) := by
  rw [slice_from_eq (b := l.length) (by omega) (by rw [wd_length]; omega) (by rw [wd_length])]
  have e : ((l.length : Int) - (k : Int)).toNat = (l.drop k).length := by rw [List.length_drop]; omega
  rw [e, Int.toNat_natCast]
  show wd ((l.toArray.toList.drop k).take _) = _
  rw [List.take_length]
theorem slice_cut {l : List Nat} {q : Nat} (h0 : 0 < q) (h : q ≤ l.length) : Txt.slice (wd l) none (some (-(q : Int))) = wd (l.take (l.length - q)) := by
  rw [slice_to_neg (by omega), wd_length]
  have e : max 0 ((l.length : Int) + -(q : Int)) = ((l.length - q : Nat) : Int) := by omega
  rw [e, beq_iff_eq.mp (slice_closes_toL (x := wd l) (j := ((l.length - q : Nat) : Int)) (by omega) (by rw [wd_length]; omega))]
  have e2 : (((l.length - q : Nat) : Int) - 0).toNat = l.length - q := by omega
  rw [e2]
  rfl
theorem slice_all {x : Str} : Txt.slice x none none = x := by
  unfold Txt.slice
  split
  · rfl
  · rename_i h
    exfalso; apply h
    have : (Builtin.Str.strSliceIndices none none 1 x.length).length = x.length := by
      unfold Builtin.Str.strSliceIndices sliceRange
      simp only [show (1 : Int) > 0 by decide, if_true, List.length_map, List.length_range]
      split <;> (try rw [Int.ediv_one]) <;> omega
    simp [this]

def cost (x y : Nat) : Int := costOf (one x) (one y)
theorem cost_range (x y : Nat) : 0 ≤ cost x y ∧ cost x y ≤ 2 := costOf_range _ _
theorem cost_self (x : Nat) : cost x x = 0 := by unfold cost costOf; simp
/-- the cost of a place -/
def cAt (la lb : List Nat) (i : Nat) : Int := cost (lb.getD i 0) (la.getD i 0)
theorem cAt_range (la lb : List Nat) (k : Nat) : 0 ≤ cAt la lb k ∧ cAt la lb k ≤ 2 := cost_range _ _
/-- no sign of one place is like a sign of another -/
def Apart (la lb : List Nat) : Prop := ∀ i j, i ≠ j → i < la.length → j < lb.length → cost (lb.getD j 0) (la.getD i 0) = 2
theorem Sm_zero {c : Nat → Int} : ∀ {k : Nat}, (∀ i, i < k → c i = 0) → Sm c k = 0
  | 0, _ => rfl
  | k + 1, h => by
    show Sm c k + c k = 0
    rw [Sm_zero (k := k) fun i hi => h i (by omega), h k (by omega)]; rfl
theorem Sm_congr {c d : Nat → Int} : ∀ {k : Nat}, (∀ i, i < k → c i = d i) → Sm c k = Sm d k
  | 0, _ => rfl
  | k + 1, h => by
    show Sm c k + c k = Sm d k + d k
    rw [Sm_congr (k := k) fun i hi => h i (by omega), h k (by omega)]
theorem Sm_add {c : Nat → Int} (k : Nat) : ∀ n : Nat, Sm c (k + n) = Sm c k + Sm (fun i => c (k + i)) n
  | 0 => by show Sm c k = Sm c k + 0; omega
  | n + 1 => by
    show Sm c (k + n) + c (k + n) = Sm c k + (Sm (fun i => c (k + i)) n + c (k + n))
    rw [Sm_add k n]; omega
theorem Apart.drop {la lb : List Nat} (h : Apart la lb) (k : Nat) : Apart (la.drop k) (lb.drop k) := by
  intro i j hij hi hj
  rw [List.length_drop] at hi hj
  have := h (k + i) (k + j) (by omega) (by omega) (by omega)
  simpa [List.getD_eq_getElem?_getD] using this
theorem Apart.take {la lb : List Nat} (h : Apart la lb) (k : Nat) : Apart (la.take k) (lb.take k) := by
  intro i j hij hi hj
  rw [List.length_take] at hi hj
  have := h i j hij (by omega) (by omega)
  have e1 : i < k := by omega
  have e2 : j < k := by omega
  simpa [List.getD_eq_getElem?_getD, List.getElem?_take, e1, e2] using this
/-- what is alike ahead and behind costs nothing -/
theorem Sm_strip {la lb : List Nat} {k m : Nat} (hl : la.length = lb.length) (hk : k ≤ la.length) (hm : m ≤ la.length - k) (h1 : ∀ i, i < k → la.getD i 0 = lb.getD i 0) (h2 : ∀ i, k + m ≤ i → i < la.length → la.getD i 0 = lb.getD i 0) :
    Sm (cAt ((la.drop k).take m) ((lb.drop k).take m)) m = Sm (cAt la lb) la.length := by
  have e : la.length = k + (m + (la.length - k - m)) := by omega
  rw [e, Sm_add k, Sm_add m]
  have z1 : Sm (cAt la lb) k = 0 := Sm_zero fun i hi => by unfold cAt; rw [h1 i hi]; exact cost_self _
  have z2 : Sm (fun i => cAt la lb (k + (m + i))) (la.length - k - m) = 0 := Sm_zero fun i hi => by unfold cAt; rw [h2 (k + (m + i)) (by omega) (by omega)]; exact cost_self _
  have z3 : Sm (cAt ((la.drop k).take m) ((lb.drop k).take m)) m = Sm (fun i => cAt la lb (k + i)) m := Sm_congr fun i hi => by
    unfold cAt
    simp [List.getD_eq_getElem?_getD, hi]
  rw [z1, z2, z3]; omega
theorem one_eq (x y : Nat) : (one x == one y) = decide (x = y) := by
  by_cases h : x = y
  · subst h; simp
  · have : one x ≠ one y := fun e => h (by unfold one at e; injection e with e; simpa using e)
    simp [h, this]
theorem items_eq {la lb : List Nat} {k : Nat} (h : k < la.length) (hab : la.length = lb.length) : (Txt.item (wd la) (k : Int) == Txt.item (wd lb) (k : Int)) = decide (la.getD k 0 = lb.getD k 0) := by
  have hb : k < lb.length := by omega
  rw [item_wd (seqIndex_of (by omega) (by omega)) (j := k) h, item_wd (seqIndex_of (by omega) (by omega)) (j := k) hb, one_eq]
  simp [List.getD_eq_getElem?_getD, h, hb]
theorem items_back {la lb : List Nat} {q : Nat} (h : q < la.length) (hab : la.length = lb.length) : (Txt.item (wd la) (-(q : Int) - 1) == Txt.item (wd lb) (-(q : Int) - 1)) = decide (la.getD (la.length - 1 - q) 0 = lb.getD (la.length - 1 - q) 0) := by
  have ha : la.length - 1 - q < la.length := by omega
  have hb : la.length - 1 - q < lb.length := by omega
  have e1 : seqIndex? (-(q : Int) - 1) la.length = some (la.length - 1 - q) := by rw [seqIndex_neg (by omega) (by omega)]; congr 1; omega
  have e2 : seqIndex? (-(q : Int) - 1) lb.length = some (la.length - 1 - q) := by rw [seqIndex_neg (by omega) (by omega)]; congr 1; omega
  rw [item_wd e1 ha, item_wd e2 hb, one_eq]
  simp [List.getD_eq_getElem?_getD, ha, hb]
theorem range_size2 (m : Nat) : Builtin.Range.rangeSize 2 (2 * ((m : Int) + 1)) 2 = m := by
  unfold Builtin.Range.rangeSize
  simp
  omega
theorem row_start (c : Nat → Int) (m : Nat) {vs : List Value} (hl : vs.length = m) (h : ∀ (i : Nat) (v : Value), vs[i]? = some v → ∃ t, v = Value.int (2 + (i : Int) * 2) t) : IntsAre vs (rowAt c m 0 0) := by
  have key : ∀ (k : Nat) (vs : List Value), (∀ (i : Nat) (v : Value), vs[i]? = some v → ∃ t, v = Value.int (2 + ((k + i : Nat) : Int) * 2) t) → IntsAre vs ((List.range vs.length).map fun (t : Nat) => 2 * ((k : Int) + (t : Int) + 1)) := by
    intro k vs
    induction vs generalizing k with
    | nil => intro _; exact .nil
    | cons v r ih =>
      intro h
      obtain ⟨t, rfl⟩ := h 0 v rfl
      rw [List.length_cons, List.range_succ_eq_map, List.map_cons, List.map_map]
      have e : (2 + ((k + 0 : Nat) : Int) * 2) = 2 * ((k : Int) + ((0 : Nat) : Int) + 1) := by omega
      rw [e]
      refine .cons _ _ ?_
      have := ih (k + 1) fun i v q => by
        have := h (i + 1) v (by simpa using q)
        simpa [Nat.add_assoc, Nat.add_comm 1] using this
      refine cast (congrArg _ (List.map_congr_left fun t _ => ?_)) this
      simp only [Function.comp]; push_cast; omega
  have := key 0 vs (by simpa using h)
  rw [hl] at this
  refine cast (congrArg _ (List.map_congr_left fun t _ => ?_)) this
  have : Sm c 0 = 0 := rfl
  simp only [Nat.not_lt_zero, if_false, Dst, Nat.zero_le, if_true, this]
  push_cast; omega
theorem range_small2 {m : Nat} (h : m ≤ 6) : Builtin.Range.small 2 (2 * ((m : Int) + 1)) 2 = true := by
  have : m = 0 ∨ m = 1 ∨ m = 2 ∨ m = 3 ∨ m = 4 ∨ m = 5 ∨ m = 6 := by omega
  rcases this with rfl | rfl | rfl | rfl | rfl | rfl | rfl <;> decide +kernel
theorem range_size1 (a m : Nat) : Builtin.Range.rangeSize (a : Int) ((a + m : Nat) : Int) 1 = m := by
  unfold Builtin.Range.rangeSize
  simp
  omega
theorem range_size01 (m : Nat) : Builtin.Range.rangeSize 0 (m : Int) 1 = m := by
  have := range_size1 0 m
  simpa using this
theorem range_small01 {m : Nat} (h : m ≤ 1000) : Builtin.Range.small 0 (m : Int) 1 = true := small_one (by omega) (by omega) (by omega) (by omega)
theorem item_getD {l : List Nat} {j : Nat} (h : j < l.length) : Txt.item (wd l) (j : Int) = one (l.getD j 0) := by
  rw [item_wd (seqIndex_of (by omega) (by omega)) (j := j) h]
  simp [List.getD_eq_getElem?_getD, h]
theorem Dst_zero (c : Nat → Int) (i : Nat) : Dst c i 0 = (i : Int) * 2 := by
  have z : Sm c 0 = 0 := rfl
  unfold Dst
  split
  · have : i = 0 := by omega
    subst this; rw [z]; rfl
  · rw [z]; omega
theorem Dst_diag (c : Nat → Int) (i : Nat) : Dst c i i = Sm c i := by unfold Dst; rw [if_pos (Nat.le_refl _)]; omega
theorem cell_if (a b d : Int) : (if a < (if b < d then b else d) + 2 then a else (if b < d then b else d) + 2) = min (min d b + 2) a := by
  split <;> split <;> omega

-- the tree
/-- the paths of a tree of n nodes: each but the top is another's, one letter on -/
structure IsTree (n : Nat) (ps : List (List Nat)) : Prop where
  len : ps.length = n
  top : ps[0]? = some []
  node : ∀ k, 1 ≤ k → k < n → ∃ j, j < k ∧ ps[k]? = some (ps.getD j [] ++ [96 + k])
theorem IsTree.start : IsTree 1 [[]] := ⟨rfl, rfl, fun k h1 h2 => absurd h2 (by omega)⟩
theorem IsTree.more {n j : Nat} {ps : List (List Nat)} (T : IsTree n ps) (hn : 1 ≤ n) (hj : j < n) : IsTree (n + 1) (ps ++ [ps.getD j [] ++ [96 + n]]) := by
  have hl := T.len
  refine ⟨by simp [hl], by rw [List.getElem?_append_left (by omega)]; exact T.top, fun k h1 h2 => ?_⟩
  have gd : ∀ i, i < n → (ps ++ [ps.getD j [] ++ [96 + n]]).getD i [] = ps.getD i [] := fun i hi => by
    simp only [List.getD_eq_getElem?_getD]
    rw [List.getElem?_append_left (by omega)]
  by_cases hk : k < n
  · obtain ⟨i, hi, e⟩ := T.node k h1 hk
    refine ⟨i, hi, ?_⟩
    rw [List.getElem?_append_left (by omega), e, gd i (by omega)]
  · have : k = n := by omega
    subst this
    refine ⟨j, hj, ?_⟩
    rw [List.getElem?_append_right (by omega), gd j hj]
    simp [hl]
theorem wd_append (a b : List Nat) : wd a ++ wd b = wd (a ++ b) := by
  show (⟨a.toArray ++ b.toArray⟩ : Str) = _
  simp
theorem IsTree.short {n : Nat} {ps : List (List Nat)} (T : IsTree n ps) : ∀ (k : Nat) (p : List Nat), ps[k]? = some p → p.length ≤ k := by
  intro k
  induction k using Nat.strongRecOn with
  | ind k ih =>
    intro p hp
    by_cases h0 : k = 0
    · subst h0; rw [T.top] at hp; cases hp; exact Nat.le_refl _
    · have hk : k < ps.length := (List.getElem?_eq_some_iff.mp hp).1
      obtain ⟨j, hj, e⟩ := T.node k (by omega) (by rw [← T.len]; exact hk)
      rw [hp] at e
      cases e
      have := ih j hj (ps.getD j []) (by simp [List.getD_eq_getElem?_getD, show j < ps.length by omega])
      rw [List.length_append, List.length_singleton]; omega
theorem letter_at {i : Nat} (h : i < 6) : Txt.item (Str.ofString "abcdef") (i : Int) = wd [97 + i] := by
  have : i = 0 ∨ i = 1 ∨ i = 2 ∨ i = 3 ∨ i = 4 ∨ i = 5 := by omega
  rcases this with rfl | rfl | rfl | rfl | rfl | rfl <;> decide +kernel
theorem capital_at {i : Nat} (h : i < 6) : Txt.item (Str.ofString "ABCDEF") (i : Int) = wd [65 + i] := by
  have : i = 0 ∨ i = 1 ∨ i = 2 ∨ i = 3 ∨ i = 4 ∨ i = 5 := by omega
  rcases this with rfl | rfl | rfl | rfl | rfl | rfl <;> decide +kernel
theorem figure_at {i : Nat} (h : i < 6) : Txt.item (Str.ofString "123456") (i : Int) = wd [49 + i] := by
  have : i = 0 ∨ i = 1 ∨ i = 2 ∨ i = 3 ∨ i = 4 ∨ i = 5 := by omega
  rcases this with rfl | rfl | rfl | rfl | rfl | rfl <;> decide +kernel
theorem range_size11 (m : Nat) : Builtin.Range.rangeSize 1 ((m + 1 : Nat) : Int) 1 = m := by
  have := range_size1 1 m
  rw [Nat.add_comm] at this
  exact this
theorem range_small11 {m : Nat} (h : m ≤ 1000) : Builtin.Range.small 1 (m : Int) 1 = true := small_one (by omega) (by omega) (by omega) (by omega)
theorem strs_get {vs : List Value} {ps : List (List Nat)} (h : StrsAre vs (ps.map wd)) {j : Nat} (hj : j < ps.length) : ∃ t, vs[j]? = some (.str (wd (ps.getD j [])) t) := by
  obtain ⟨t, e⟩ := h.get j (wd (ps.getD j [])) (by simp [List.getD_eq_getElem?_getD, hj])
  exact ⟨t, e⟩
theorem strs_push {vs : List Value} {ps : List (List Nat)} {p : List Nat} {t : Tok} (h : StrsAre vs (ps.map wd)) : StrsAre (vs ++ [.str (wd p) t]) ((ps ++ [p]).map wd) := by
  rw [List.map_append]
  exact StrsAre.append' h (.cons _ _ .nil)
theorem fmod_at {x : Int} {k : Nat} (h : 0 < k) : ∃ j : Nat, j < k ∧ x.fmod (k : Int) = j := by
  have h1 := Int.fmod_nonneg_of_pos x (by omega : (0 : Int) < k)
  have h2 := Int.fmod_lt_of_pos x (by omega : (0 : Int) < k)
  exact ⟨(x.fmod k).toNat, by omega, by omega⟩

-- dicts of texts
theorem valueAt_cons {K : Type} [DecidableEq K] (a x : K) (b : Value) (r : List (K × Value)) : valueAt ((a, b) :: r) x = if a = x then some b else valueAt r x := by
  unfold valueAt
  rw [List.find?_cons]
  by_cases h : a = x <;> simp [h]
theorem valueAt_put {K : Type} [DecidableEq K] (k x : K) (v : Value) : ∀ l : List (K × Value), valueAt (l.map fun kv => if kv.1 = k then (kv.1, v) else kv) x = if x = k then (if l.any (fun kv => kv.1 = k) then some v else none) else valueAt l x
  | [] => by simp [valueAt]
  | (a, b) :: r => by
    have ih := valueAt_put k x v r
    rw [List.map_cons, List.any_cons, valueAt_cons]
    by_cases ha : a = k
    · subst ha
      simp only [if_true, valueAt_cons, decide_true, Bool.true_or]
      by_cases hx : x = a
      · subst hx; simp
      · have : ¬ a = x := fun e => hx e.symm
        rw [if_neg this, if_neg hx, if_neg this, ih, if_neg hx]
    · simp only [ha, if_false, valueAt_cons, decide_false, Bool.false_or]
      by_cases hx : x = k
      · have : ¬ a = x := fun e => ha (by rw [e, hx])
        rw [if_neg this, ih, if_pos hx, if_pos hx]
      · rw [ih, if_neg hx, if_neg hx]
theorem valueAt_snoc {K : Type} [DecidableEq K] (k x : K) (v : Value) : ∀ l : List (K × Value), ¬ (l.any (fun kv => kv.1 = k) = true) → valueAt (l ++ [(k, v)]) x = if x = k then some v else valueAt l x
  | [], _ => by
    rw [List.nil_append, valueAt_cons]
    by_cases hx : x = k
    · subst hx; simp
    · have : ¬ k = x := fun e => hx e.symm
      rw [if_neg this, if_neg hx]
  | (a, b) :: r, h => by
    rw [List.any_cons, Bool.or_eq_true, not_or] at h
    have ih := valueAt_snoc k x v r h.2
    have hak : ¬ a = k := fun e => h.1 (by simp [e])
    rw [List.cons_append, valueAt_cons, valueAt_cons, ih]
    by_cases hx : x = k
    · have : ¬ a = x := fun e => hak (by rw [e, hx])
      rw [if_neg this, if_pos hx, if_pos hx]
    · rw [if_neg hx, if_neg hx]
theorem valueAt_stored {K : Type} [DecidableEq K] (kvs : List (K × Value)) (k x : K) (v : Value) : valueAt (stored kvs k v) x = if x = k then some v else valueAt kvs x := by
  unfold stored
  split
  · rename_i h
    rw [valueAt_put]
    by_cases hx : x = k
    · rw [if_pos hx, if_pos hx, if_pos h]
    · rw [if_neg hx, if_neg hx]
  · rename_i h
    exact valueAt_snoc k x v kvs h
theorem stored_length {K : Type} [DecidableEq K] (kvs : List (K × Value)) (k : K) (v : Value) : (stored kvs k v).length ≤ kvs.length + 1 := by
  unfold stored
  split
  · rw [List.length_map]; omega
  · rw [List.length_append]; simp

-- the words
def sign (hv p : List Nat) (k : Nat) : Nat := if (97 + k) ∈ p then (if (97 + k) ∈ hv then 49 + k else 65 + k) else 97 + k
def wordOf (hv p : List Nat) (n : Nat) : List Nat := (List.range n).map (sign hv p)
theorem wordOf_succ (hv p : List Nat) (n : Nat) : wordOf hv p (n + 1) = wordOf hv p n ++ [sign hv p n] := by
  unfold wordOf; rw [List.range_succ, List.map_append]; rfl
theorem wordOf_length (hv p : List Nat) (n : Nat) : (wordOf hv p n).length = n := by simp [wordOf]
theorem wd_inj {a b : List Nat} : wd a = wd b ↔ a = b := ⟨fun e => by simpa [wd] using e, fun e => by rw [e]⟩
theorem occ_iff (q : List Nat) (c : Nat) : (Builtin.Str.occurrences (wd q) (wd [c]) 0 (wd q).length 1).isEmpty = !decide (c ∈ q) := by
  have := StrLaws.found_one (wd q) c
  have e : (wd q).cps.toList = q := by simp [wd]
  rw [e] at this
  rw [← this]
  exact (Bool.not_not _).symm

-- the way of two words
theorem low_small {i : Nat} (h : i < 6) : Txt.lower (one (97 + i)) = one (97 + i) ∧ Txt.lower (one (65 + i)) = one (97 + i) ∧ Txt.lower (one (49 + i)) = one (49 + i) := by
  have : i = 0 ∨ i = 1 ∨ i = 2 ∨ i = 3 ∨ i = 4 ∨ i = 5 := by omega
  rcases this with rfl | rfl | rfl | rfl | rfl | rfl <;> decide +kernel
theorem sign_is (hv p : List Nat) (k : Nat) : sign hv p k = 97 + k ∨ sign hv p k = 65 + k ∨ sign hv p k = 49 + k := by
  unfold sign; split <;> (try split) <;> simp
theorem cost_eq (x y : Nat) : cost x y = if x = y then 0 else if Txt.lower (one x) = Txt.lower (one y) then 1 else 2 := by
  unfold cost costOf
  rw [one_eq]
  simp
theorem one_iff {x y : Nat} : one x = one y ↔ x = y := ⟨fun e => by have := one_eq x y; rw [e] at this; simpa using this, fun e => by rw [e]⟩
theorem cost_apart {i j : Nat} (hi : i < 6) (hj : j < 6) (hij : i ≠ j) (hv p q : List Nat) : cost (sign hv p i) (sign hv q j) = 2 := by
  obtain ⟨a1, a2, a3⟩ := low_small hi
  obtain ⟨b1, b2, b3⟩ := low_small hj
  rw [cost_eq]
  rcases sign_is hv p i with e | e | e <;> rcases sign_is hv q j with e' | e' | e' <;> rw [e, e'] <;> simp only [a1, a2, a3, b1, b2, b3, one_iff] <;> rw [if_neg (by omega), if_neg (by omega)]
theorem cost_place {k : Nat} (hk : k < 6) (hv p q : List Nat) : cost (sign hv p k) (sign hv q k) = if ((97 + k) ∈ p ↔ (97 + k) ∈ q) then 0 else if (97 + k) ∈ hv then 2 else 1 := by
  obtain ⟨a1, a2, a3⟩ := low_small hk
  rw [cost_eq]
  unfold sign
  by_cases hp : (97 + k) ∈ p <;> by_cases hq : (97 + k) ∈ q <;> by_cases hh : (97 + k) ∈ hv <;> simp [hp, hq, hh, a1, a2, a3, one_iff] <;> omega
theorem wordOf_getD {hv p : List Nat} {M k : Nat} (h : k < M) : (wordOf hv p M).getD k 0 = sign hv p k := by
  simp [wordOf, List.getD_eq_getElem?_getD, h]
theorem words_apart (hv p q : List Nat) {M : Nat} (hM : M ≤ 6) : Apart (wordOf hv p M) (wordOf hv q M) := by
  intro i j hij hi hj
  rw [wordOf_length] at hi hj
  rw [wordOf_getD hi, wordOf_getD hj]
  exact cost_apart (by omega) (by omega) (fun e => hij e.symm) hv q p
/-- the weight of the limbs on just one of two paths -/
def part (hv p q : List Nat) (k : Nat) : Int := if ((97 + k) ∈ p ↔ (97 + k) ∈ q) then 0 else if (97 + k) ∈ hv then 2 else 1
noncomputable def way (M : Nat) (hv p q : List Nat) : Int := Sm (part hv p q) M
theorem way_symm (M : Nat) (hv p q : List Nat) : way M hv p q = way M hv q p := Sm_congr fun i _ => by
  unfold part
  by_cases hp : (97 + i) ∈ p <;> by_cases hq : (97 + i) ∈ q <;> simp [hp, hq]
theorem way_words (M : Nat) (hM : M ≤ 6) (hv p q : List Nat) : Sm (cAt (wordOf hv p M) (wordOf hv q M)) (wordOf hv p M).length = way M hv p q := by
  rw [wordOf_length, way_symm]
  exact Sm_congr fun i hi => by
    unfold cAt
    rw [wordOf_getD hi, wordOf_getD hi, cost_place (by omega)]
    rfl
/-- the key of a pair -/
def key (p q : List Nat) : List Nat := p ++ [32] ++ q
theorem key_inj {p q p' q' : List Nat} (h : 32 ∉ p) (h' : 32 ∉ p') (e : key p q = key p' q') : p = p' ∧ q = q' := by
  unfold key at e
  rw [List.append_assoc, List.append_assoc] at e
  induction p generalizing p' with
  | nil =>
    cases p' with
    | nil => exact ⟨rfl, by simpa using e⟩
    | cons a r => simp at e; exact absurd (by simp [e.1]) h'
  | cons a r ih =>
    cases p' with
    | nil => simp at e; exact absurd (by simp [e.1]) h
    | cons b r' =>
      simp only [List.cons_append, List.cons.injEq] at e
      obtain ⟨rfl, e⟩ := e
      simp only [List.mem_cons, not_or] at h h'
      obtain ⟨rfl, rfl⟩ := ih h.2 h'.2 e
      exact ⟨rfl, rfl⟩
/-- what is told is so -/
def Told (M : Nat) (hv : List Nat) (kvs : List (Str × Value)) : Prop := ∀ p q, 32 ∉ p → ∀ v, valueAt kvs (wd (key p q)) = some v → ∃ t, v = .int (way M hv p q) t
theorem Told.start (M : Nat) (hv : List Nat) : Told M hv [] := fun p q _ v e => by simp [valueAt] at e
theorem Told.more {M : Nat} {hv : List Nat} {kvs : List (Str × Value)} (T : Told M hv kvs) {p q : List Nat} (hp : 32 ∉ p) (t : Tok) : Told M hv (stored kvs (wd (key p q)) (.int (way M hv p q) t)) := by
  intro p' q' hp' v e
  rw [valueAt_stored] at e
  by_cases h : wd (key p' q') = wd (key p q)
  · obtain ⟨rfl, rfl⟩ := key_inj hp' hp (wd_inj.mp h)
    rw [if_pos rfl] at e
    cases e
    exact ⟨t, rfl⟩
  · rw [if_neg h] at e
    exact T p' q' hp' v e
-- T0
open_top hd for PySem.Challenge.rw_sw0026_01
-- MB
def KeepsBut (t : List Addr) (h h' : Heap) : Prop := ∀ b o, h.get? b = some o → b ∉ t → h'.get? b = some o
theorem KeepsBut.nil {h h' : Heap} (k : KeepsBut [] h h') : h.StaysIn h' := fun b o e => k b o e (fun q => nomatch q)
theorem stays_of {s g h' : Heap} {L : Addr} {m : Str → Option Value} (k : KeepsBut [] s g) (F : Fr g L h' m) : s.StaysIn h' := fun b o e => F.keep b o (k.nil b o e)
theorem keeps_of {t : List Addr} {s g h' : Heap} {L : Addr} {m : Str → Option Value} (k : KeepsBut t s g) (F : Fr g L h' m) : KeepsBut t s h' := fun b o e q => F.keep b o (k b o e q)
theorem KeepsBut.list {t : List Addr} {h h' : Heap} {l : Addr} {items : Array Value} (k : KeepsBut t h h') (x : h.IsList l items) (q : l ∉ t) : h'.IsList l items := x.at fun o e => k l o e q
theorem Fr.list {g h' : Heap} {L l : Addr} {m : Str → Option Value} {items : Array Value} (F : Fr g L h' m) (x : g.IsList l items) : h'.IsList l items := x.at fun o e => F.keep l o e
/-- a new object is no old one -/
theorem new_of {t : List Addr} {s g h' : Heap} {L a : Addr} {o : Obj} {news : List (Addr × Obj)} (k : KeepsBut t s g) (N : News g L h' news) (hm : (a, o) ∈ news) (q : a ∉ t) : s.get? a = none := by
  cases e : s.get? a with
  | none => rfl
  | some o' => have := (N _ hm).2.2; rw [k a o' e q] at this; cases this

theorem sy {m m' : Str → Option Value} {x : Str} {v : Value} (q : m' = m) (e : m x = some v) : (fun y => if y = x then some v else m' y) = m := funext fun y => by
  by_cases c : y = x
  · rw [if_pos c, c, e]
  · rw [if_neg c, q]
theorem frBy {g h : Heap} {L : Addr} {m m' : Str → Option Value} (F : Fr g L h m) (q : m' = m) : Fr g L h m' := q.symm ▸ F

theorem frTop {g h : Heap} {L : Addr} {x : Str} {v : Option Value} {m m' : Str → Option Value} (F : Fr g L h (fun y => if y = x then v else m y)) (q : m' = m) : Fr g L h (fun y => if y = x then v else m' y) := q.symm ▸ F
theorem iv {a b : Int} {t : Tok} (e : a = b) : some (Value.int a t) = some (Value.int b t) := by rw [e]

theorem use_eq {α : Type} {o o' : α} {x : Option α} {P : α → Prop} (e : x = some o) (q : x = some o') (h : P o') : P o := by rw [q] at e; cases e; exact h
def BindsO (s : Shared) (args : Args) (binds : List (Str × Value)) (o : Obj) : Prop := match o.data with | .func fd => BindsTo s fd args binds | _ => True

structure Okay (w : World) (p : Program) (loose : List Str) (mean : ExcName → Option Value) (mg mb : Str → Option Value) (b₀ : Heap) : Prop where
  X : (hd.heap_39 w.params).In b₀
  T : Top p loose mean mg mb b₀

theorem call_me {prog : Program} {w : World} {A : Around} {E : Value → Shared → Prop} {s : Shared} {b₀ : Heap} {K : Frag} {Q : Value → Shared → Prop}
    {name qual : Str} {params : Arguments} {body : List Stmt} {scope : Scope} {dV kV doc pm cdv ct oc : Value} {an od : Option Addr} {osl : Array (Option Value)} {f : Addr} {pos : List Value} {kw : List (Str × Value)} 
    (news : List (Addr × Obj)) (binds : List (Str × Value))
    (S : b₀.StaysIn s.heap) (X : K.In b₀) (hlim : b₀.NoLimit) 
    (ho : K.lookup f = some ⟨oc, od, .func (fnOf name qual params body scope dV kV doc pm an cdv ct), osl⟩) (hcd : codeIn K cdv qual = true) (hroom : A.depth < recursionLimit)
    (hbind : BindsTo s (fnOf name qual params body scope dV kV doc pm an cdv ct) ⟨pos, kw⟩ binds) (hloc : ∀ y ∈ binds, scope.names.lookup y.1 = some .local)
    (hcell : ∀ x ∈ scope.names, x.2 ≠ .cell)
    (hco : scope.isCoroutine = false) (hgen : scope.isGenerator = false) (hk : scope.kind = .function)
    (hn : ∀ p ∈ news, s.heap.get? p.1 = some p.2 ∧ b₀.get? p.1 = none)
    (h : ∀ g L' h₁, b₀.StaysIn g → KeepsBut (news.map (·.1)) s.heap g → g.StaysIn s.heap → s.heap.objs.size ≤ L' →
      Fr g L' h₁ (fun y => binds.reverse.lookup y) → News g L' h₁ news → (∀ p ∈ news, p.1 < L') →
      wpAny (model prog w) (A.deeper (envOf qual scope L' f cdv)) (execs body (envOf qual scope L' f cdv))
        (fun fl s' => Q (match fl with | .ret v => v | _ => .none) s') (fun _ _ => False)
        { s with heap := h₁, toks := s.toks + binds.length }) :
    wpAny (model prog w) A (call (.ref f) pos kw) Q E s := by
  refine wpAny_call ?_
  refine codeAny_call_def (fd := fnOf name qual params body scope dV kV doc pm an cdv ct) (body := body) (binds := binds) hroom ((X.keeps S) _ _ ho) rfl (hlim.keeps S) (codeRec_of (X.keeps S) hcd) rfl hbind hcell hloc (fun h₁ hns hk₁ => ?_) hco hgen hk
  have nm : ∀ b o, b₀.get? b = some o → b ∉ news.map (·.1) := fun b o e q => by
    obtain ⟨p, hp, rfl⟩ := List.mem_map.mp q
    rw [(hn p hp).2] at e; cases e
  refine wpAny_mono (h (hideAll s.heap (news.map (·.1))) s.heap.objs.size h₁ (fun b o e => hideAll_get _ (S b o e) (nm b o e))
    (fun b o e q => hideAll_get _ e q) (fun b o e => of_hideAll _ e) (Nat.le_refl _) 
    ⟨hns, fun b o e => hk₁ b o (of_hideAll _ e), Nat.le_of_eq (hideAll_size _ _)⟩
    (fun p hp => ⟨hk₁ _ _ (hn p hp).1, Nat.ne_of_lt (Heap.lt_size (hn p hp).1), hideAll_none _ (List.mem_map_of_mem hp)⟩) (fun p hp => Heap.lt_size (hn p hp).1)) (fun fl s' hq => hq) fun _ _ y => y.elim

section
variable {prog : Program} {w : World} {A : Around} {E : Value → Shared → Prop} {s : Shared} 

theorem get_list {l : Addr} {vs : List Value} {k : Int} {j : Nat} {u : Tok} {v : Value} {Q : Value → Shared → Prop} (hl : s.heap.IsList l vs.toArray)
    (hj : seqIndex? k vs.length = some j) (hx : vs[j]? = some v) (hlo : -(2 ^ 63) ≤ k) (hhi : k < 2 ^ 63) (h : Q v s) : wpAny (model prog w) A (getItem (.ref l) (.int k u)) Q E s := by
  by_cases h0 : 0 ≤ k
  · refine wpAny_getItem_list hl h0 hhi ?_ h
    have hn : k < vs.length := by
      unfold seqIndex? at hj
      rcases Int.lt_or_le k vs.length with q | q
      · exact q
      · simp at hj; omega
    rw [seqIndex_of h0 hn] at hj
    cases hj
    simpa using hx
  · have h1 : k < 0 := by omega
    have h2 : -(vs.length : Int) ≤ k := by
      unfold seqIndex? at hj
      rcases Int.lt_or_le k (-(vs.length : Int)) with q | q
      · simp at hj; omega
      · exact q
    rw [seqIndex_neg h1 h2] at hj
    cases hj
    exact wpAny_getItem_list_neg hl h1 (by simpa using h2) hlo (by simpa using hx) h
theorem item_list {value slice : Expr} {l : Addr} {vs : List Value} {k : Int} {j : Nat} {u : Tok} {v : Value} {Q : Value → Shared → Prop} (hl : s.heap.IsList l vs.toArray)
    (hj : seqIndex? k vs.length = some j) (hx : vs[j]? = some v) (hlo : -(2 ^ 63) ≤ k) (hhi : k < 2 ^ 63) (h : Q v s)
    (hs : subscripted slice false (.ref l) (.int k u) = operate [.ref l, .int k u] (getItem (.ref l) (.int k u)) := by with_unfolding_all rfl) :
    wpAny (model prog w) A (subscriptTail value slice (.ref l) (.int k u)) Q E s :=
  tail_any hl.typeIs slot_list_getitem.lookup (get_list hl hj hx hlo hhi h) hs
end

/-- a place where the ways meet -/
def Cut (h₀ : Heap) (L : Addr) (I : (Str → Option Value) → List (Addr × Obj) → Prop) (s₀ : Shared) (f : Flow) (s' : Shared) : Prop :=
  f = .next ∧ ∃ h' tk m' news', s' = { s₀ with heap := h', toks := tk } ∧ Fr h₀ L h' m' ∧ News h₀ L h' news' ∧ I m' news'
theorem Cut.mk {h₀ h' : Heap} {L : Addr} {I : (Str → Option Value) → List (Addr × Obj) → Prop} {s₀ : Shared} {tk : Nat} {m' : Str → Option Value} {news' : List (Addr × Obj)} (F : Fr h₀ L h' m') (N : News h₀ L h' news') (i : I m' news') :
    Cut h₀ L I s₀ .next { s₀ with heap := h', toks := tk } := ⟨rfl, h', tk, m', news', rfl, F, N, i⟩
/-- the end of a loop's turn -/
def Turn (h₀ : Heap) (L : Addr) (J : (Str → Option Value) → List (Addr × Obj) → Prop) (adr : List Addr) (I : Addr) (o : Obj) (s₁ : Shared) (Q : Flow → Shared → Prop) (f : Flow) (s₂ : Shared) : Prop :=
  match f with
  | .ret v => Q (.ret v) s₂
  | .brk => Q .next s₂
  | _ => ∃ h' tk m' nx, s₂ = { s₁ with heap := h', toks := tk } ∧ Fr h₀ L h' m' ∧ News h₀ L h' ((I, o) :: nx) ∧ nx.map (·.1) = adr ∧ J m' nx
theorem Turn.next {h₀ h' : Heap} {L I : Addr} {J : (Str → Option Value) → List (Addr × Obj) → Prop} {adr : List Addr} {o : Obj} {s₁ : Shared} {Q : Flow → Shared → Prop} {tk : Nat} {m' : Str → Option Value} {nx : List (Addr × Obj)}
    (F : Fr h₀ L h' m') (N : News h₀ L h' ((I, o) :: nx)) (ha : nx.map (·.1) = adr) (hJ : J m' nx) : Turn h₀ L J adr I o s₁ Q .next { s₁ with heap := h', toks := tk } := ⟨h', tk, m', nx, rfl, F, N, ha, hJ⟩

section
variable {prog : Program} {w : World} {A : Around} {E : Value → Shared → Prop} {s : Shared} {env : Env} {h₀ : Heap} {x : Str} {body : List Stmt} {Q : Flow → Shared → Prop}
theorem loop_mine {I : Addr} {fp : List Addr} {n : Nat} {P : Nat → Value → Prop} {St : Nat → Heap → Prop} {m₀ : Str → Option Value} {news : List (Addr × Obj)} (J : Nat → (Str → Option Value) → List (Addr × Obj) → Prop)
    (W : Walks prog w A I fp [I] n P St) (hLf : env.locals ∉ fp) (hfp : ∀ b ∈ fp, b = I ∨ ∃ o, h₀.get? b = some o) (hI : h₀.get? I = none) (hlt : ∀ p ∈ news, p.1 < I)
    (hSt : ∀ i h, St i h → ∃ o, h.get? I = some o)
    (hst : St 0 s.heap) (F : Fr h₀ env.locals s.heap m₀) (N : News h₀ env.locals s.heap news) (hj : J 0 m₀ news)
    (turn : ∀ i v m₁ news₁ h tk o, i < n → P i v → (∀ p ∈ news₁, p.1 < I) → news₁.map (·.1) = news.map (·.1) → J i m₁ news₁ → Fr h₀ env.locals h (fun y => if y = x then some v else m₁ y) → News h₀ env.locals h ((I, o) :: news₁) →
      wpAny (model prog w) A (execs body env) (Turn h₀ env.locals (J (i + 1)) (news.map (·.1)) I o { s with heap := h, toks := tk } Q) E { s with heap := h, toks := tk })
    (done : ∀ m₁ news₁ h tk, news₁.map (·.1) = news.map (·.1) → J n m₁ news₁ → Fr h₀ env.locals h m₁ → News h₀ env.locals h news₁ → Q .next { s with heap := h, toks := tk }) :
    LoopAtV prog w A h₀ env x body Q E (.ref I) s := by
  have hwr : ∀ b ∈ [I], h₀.get? b = none := fun b hb => by rw [List.mem_singleton.mp hb]; exact hI
  have lt_of : ∀ news₁ : List (Addr × Obj), news₁.map (·.1) = news.map (·.1) → ∀ p ∈ news₁, p.1 < I := fun news₁ e p hp => by
    have : p.1 ∈ news.map (·.1) := e ▸ List.mem_map_of_mem hp
    obtain ⟨q, hq, e2⟩ := List.mem_map.mp this
    rw [← e2]; exact hlt q hq
  have off : ∀ news₁ : List (Addr × Obj), news₁.map (·.1) = news.map (·.1) → ∀ p ∈ news₁, p.1 ∉ [I] := fun news₁ e p hp q => by
    have := lt_of news₁ e p hp
    rw [List.mem_singleton.mp q] at this
    exact Nat.lt_irrefl _ this
  let J' : Nat → (Str → Option Value) → List (Addr × Obj) → Prop := fun i m₁ news₁ => news₁.map (·.1) = news.map (·.1) ∧ J i m₁ news₁
  refine ⟨I, fp, [I], n, P, St, m₀, news, J', rfl, W, hLf, hwr, off news rfl, hst, F, N, ⟨rfl, hj⟩, ?_, ?_⟩
  · rintro i v m₁ news₁ s₁ own ⟨hh', tk', rfl⟩ hin hP ⟨hadr, hJ⟩ hoff hown hget hall hst₁ F₁ N₁
    obtain ⟨o, ho⟩ := hSt _ _ hst₁
    have hIin : (I, o) ∈ own := hall I (W.sub I (List.mem_singleton.mpr rfl)) hI o ho
    have hone : ∀ p ∈ own, p = (I, o) := fun p hp => by
      rcases hfp p.1 (hown p hp) with e | ⟨o', e⟩
      · have := hget p hp
        rw [e] at this
        have e2 : o = p.2 := Option.some.inj (ho.symm.trans this)
        rw [e2, ← e]
      · have := (N₁ p (List.mem_append_left _ hp)).2.2
        rw [e] at this; cases this
    have N₂ : News h₀ env.locals hh' ((I, o) :: news₁) := fun p hp => by
      rcases List.mem_cons.mp hp with rfl | hp
      · exact N₁ _ (List.mem_append_left _ hIin)
      · exact N₁ _ (List.mem_append_right _ hp)
    refine wpAny_mono (turn i v m₁ news₁ hh' tk' o hin hP (lt_of _ hadr) hadr hJ F₁ N₂) (fun f s₂ p => ?_) fun _ _ e => e
    have fin : (∃ h' tk m' nx, s₂ = { s with heap := h', toks := tk } ∧ Fr h₀ env.locals h' m' ∧ News h₀ env.locals h' ((I, o) :: nx) ∧ nx.map (·.1) = news.map (·.1) ∧ J (i + 1) m' nx) → LoopStepU h₀ env.locals [I] own (J' (i + 1)) { s with heap := hh', toks := tk' } .next s₂ := by
      rintro ⟨h', tk, m', nx, e, F', N', ha, hm⟩
      refine ⟨rfl, h', tk, m', nx, e, F', fun p hp => ?_, off nx ha, ha, hm⟩
      rcases List.mem_append.mp hp with q | q
      · rw [hone p q]; exact N' _ (.head _)
      · exact N' _ (.tail _ q)
    cases f with
    | ret v => exact .ret p
    | brk => exact .brk p
    | next => exact .next (fin p)
    | cont => exact .cont (fin p)
  · rintro h' tk m' news' F' N' _ ⟨ha, hJ⟩
    exact done m' news' h' tk ha hJ F' N'

theorem iter_range {r : Addr} {a₀ b₀ c : Int} {t₀ u₀ v₀ : Tok} {n : Nat} {m₀ : Str → Option Value} {news : List (Addr × Obj)}
    (J : Nat → (Str → Option Value) → List (Addr × Obj) → Prop)
    (hh : A.handled = none) (hr : IsRange s.heap r a₀ b₀ c t₀ u₀ v₀) (hsmall : Builtin.Range.small a₀ b₀ c = true) (hn : Builtin.Range.rangeSize a₀ b₀ c = (n : Int)) (F : Fr h₀ env.locals s.heap m₀) (N : News h₀ env.locals s.heap news) (hJ : J 0 m₀ news)
    (turn : ∀ i t m₁ news₁ h tk I o, i < n → (∀ p ∈ news₁, p.1 < I) → news₁.map (·.1) = news.map (·.1) → J i m₁ news₁ → Fr h₀ env.locals h (fun y => if y = x then some (.int (a₀ + (i : Nat) * c) t) else m₁ y) → News h₀ env.locals h ((I, o) :: news₁) →
      wpAny (model prog w) A (execs body env) (Turn h₀ env.locals (J (i + 1)) (news.map (·.1)) I o { s with heap := h, toks := tk } Q) E { s with heap := h, toks := tk })
    (done : ∀ m₁ news₁ h tk, news₁.map (·.1) = news.map (·.1) → J n m₁ news₁ → Fr h₀ env.locals h m₁ → News h₀ env.locals h news₁ → Q .next { s with heap := h, toks := tk }) :
    wpAny (model prog w) A (pyIter (.ref r)) (fun it s₂ => LoopAtV prog w A h₀ env x body Q E it s₂) E s := by
  refine wpAny_pyIter_range hr hsmall ?_
  have W := Walks.range (prog := prog) (w := w) hh s.heap.objs.size a₀ c n
  have NN : News h₀ env.locals (s.heap.push { cls := .type "range_iterator", dict := none, data := .fields #[rawInt a₀, rawInt (Builtin.Range.rangeSize a₀ b₀ c), rawInt c], slots := #[] }) news := fun p hp => ⟨Heap.get?_push_of_some _ (N p hp).1, (N p hp).2⟩
  refine loop_mine J W ?_ (fun b hb => .inl (List.mem_singleton.mp hb)) (next_is_new F) (fun p hp => Heap.lt_size (N p hp).1) (fun i h x => ⟨_, x⟩) (by show IsRangeIter _ _ _ _ _; rw [hn]; simpa using Heap.get?_push_size _ rfl) (F.push _) NN hJ ?_ done
  · intro hm
    exact absurd F.ns.lt ((List.mem_singleton.mp hm) ▸ Nat.lt_irrefl _)
  · rintro i v m₁ news₁ h tk o hi ⟨t, rfl⟩ hlt ha hJ' F' N'
    exact turn i t m₁ news₁ h tk _ o hi hlt ha hJ' F' N'

theorem iter_base {l : Addr} {vs : List Value} {m₀ : Str → Option Value} {news : List (Addr × Obj)}
    (J : Nat → (Str → Option Value) → List (Addr × Obj) → Prop)
    (hh : A.handled = none) (hl : h₀.IsList l vs.toArray) (F : Fr h₀ env.locals s.heap m₀) (N : News h₀ env.locals s.heap news) (hJ : J 0 m₀ news)
    (turn : ∀ i v m₁ news₁ h tk I o, vs[i]? = some v → (∀ p ∈ news₁, p.1 < I) → news₁.map (·.1) = news.map (·.1) → J i m₁ news₁ → Fr h₀ env.locals h (fun y => if y = x then some v else m₁ y) → News h₀ env.locals h ((I, o) :: news₁) →
      wpAny (model prog w) A (execs body env) (Turn h₀ env.locals (J (i + 1)) (news.map (·.1)) I o { s with heap := h, toks := tk } Q) E { s with heap := h, toks := tk })
    (done : ∀ m₁ news₁ h tk, news₁.map (·.1) = news.map (·.1) → J vs.length m₁ news₁ → Fr h₀ env.locals h m₁ → News h₀ env.locals h news₁ → Q .next { s with heap := h, toks := tk }) :
    wpAny (model prog w) A (pyIter (.ref l)) (fun it s₂ => LoopAtV prog w A h₀ env x body Q E it s₂) E s := by
  have hls : s.heap.IsList l vs.toArray := hl.at fun o e => F.keep l o e
  obtain ⟨ol, hol, _⟩ := id hl
  have hlt : l < h₀.objs.size := Heap.lt_size hol
  have hne : l ≠ s.heap.objs.size := Nat.ne_of_lt (Nat.lt_trans (Nat.lt_of_lt_of_le hlt F.above) F.ns.lt)
  refine wpAny_pyIter_list hls ?_
  have W := Walks.list (prog := prog) (w := w) hh s.heap.objs.size l hne vs.toArray
  have hlen : vs.toArray.size = vs.length := by simp
  rw [hlen] at W
  refine loop_mine J W ?_ (fun b hb => ?_) (next_is_new F) (fun p hp => Heap.lt_size (N p hp).1) (fun i h x => let ⟨o, e, _⟩ := x.1; ⟨o, e⟩)
    ⟨⟨_, Heap.get?_push_size _ rfl, rfl, rfl⟩, hls.at fun o e => Heap.get?_push_of_some _ e⟩ (F.push _) (fun p hp => ⟨Heap.get?_push_of_some _ (N p hp).1, (N p hp).2⟩) hJ ?_ done
  · intro hm
    rcases List.mem_cons.mp hm with e | hm
    · exact absurd F.ns.lt (e ▸ Nat.lt_irrefl _)
    · exact absurd (Nat.lt_of_lt_of_le hlt F.above) ((List.mem_singleton.mp hm) ▸ Nat.lt_irrefl _)
  · rcases List.mem_cons.mp hb with e | hm
    · exact .inl e
    · exact .inr ⟨ol, (List.mem_singleton.mp hm) ▸ hol⟩
  · rintro i v m₁ news₁ h tk o hi hv hlt ha hJ' F' N'
    exact turn i v m₁ news₁ h tk _ o (by simpa using hv) hlt ha hJ' F' N'
end

/-- a def's body and frame, as the written part has them -/
def fnAt (K : Frag) (f : Nat) : FuncData := match K.lookup f with
  | some ⟨_, _, .func fd, _⟩ => fd
  | _ => default
def bodyOf (K : Frag) (f : Nat) : List Stmt := match (fnAt K f).body with
  | .stmts b => b
  | _ => []
def envAt (K : Frag) (f : Nat) (L : Addr) : Env := envOf (fnAt K f).qualname (fnAt K f).scope L f (fnAt K f).code
theorem wp_id {α : Type} {M : Model} {A : Around} {t : Sem α} {Q : α → Shared → Prop} {E : Value → Shared → Prop} {s : Shared} (h : wpAny M A t Q E s) : wpAny M A t Q E s := h
theorem news_new {g h h2 : Heap} {L : Addr} {m : Str → Option Value} {o : Obj} (F : Fr g L h m) (e : h2.get? h.objs.size = some o) : News g L h2 [(h.objs.size, o)] := fun p hp => by
  cases List.mem_singleton.mp hp
  exact ⟨e, Nat.ne_of_gt F.ns.lt, next_is_new F⟩

section
variable {prog : Program} {w : World} {A : Around} {E : Value → Shared → Prop} {s : Shared} {h₀ : Heap} {L d : Addr} {m : Str → Option Value} {news : List (Addr × Obj)} {gg : Obj → List (Addr × Obj)} {o : Obj}
theorem set_in {x : Str} {t : Tok} {v : Value} {kvs : List (Str × Value)} {Q : Unit → Shared → Prop}
    (F : Fr h₀ L s.heap m) (N : News h₀ L s.heap news) (U : UpdF d o news gg) (hd : o.IsDictOf (strKind prog w) kvs) (hsz : kvs.length ≤ 1000)
    (h : ∀ h' o', Fr h₀ L h' m → News h₀ L h' (gg o') → o'.IsDictOf (strKind prog w) (stored kvs x v) → Q () { s with heap := h', toks := s.toks + 1 }) :
    wpAny (model prog w) A (setItem (.ref d) (.str x t) v) Q E s := by
  obtain ⟨pre, post, rfl, hg, a, b⟩ := U.split
  have hm := N (d, o) (List.mem_append_right _ (.head _))
  refine wpAny_setItem_pairs (hsz := Nat.le_trans hsz (by decide)) (strKind_is prog w x t) (Heap.dictOf_iff.mpr ⟨o, hm.1, hd⟩) fun h' hmm hs => ?_
  obtain ⟨o', ho', hd'⟩ := Heap.dictOf_iff.mp hmm
  exact h h' o' (F.change hs hm.2.1 hm.2.2) (hg o' ▸ N.setIn a b hs ho') hd'
theorem item_in {value slice : Expr} {x : Str} {t : Tok} {v : Value} {kvs : List (Str × Value)} {Q : Value → Shared → Prop} (ho : s.heap.get? d = some o) (hd : o.IsDictOf (strKind prog w) kvs) (hv : valueAt kvs x = some v)
    (h : Q v { s with toks := s.toks + 1 })
    (hs : subscripted slice false (.ref d) (.str x t) = operate [.ref d, .str x t] (getItem (.ref d) (.str x t)) := by with_unfolding_all rfl) :
    wpAny (model prog w) A (subscriptTail value slice (.ref d) (.str x t)) Q E s :=
  have hm := (Heap.dictOf_iff.mpr ⟨o, ho, hd⟩).mapOf
  tail_any hm.typeIs slot_dict_getitem.lookup (wpAny_getItem_of (strKind_is prog w x t) hm hv h) hs
theorem notin_in {x : Str} {t : Tok} {kvs : List (Str × Value)} {Q : Value → Shared → Prop} (lo : (d == sysModules) = false) (ho : s.heap.get? d = some o) (hd : o.IsDictOf (strKind prog w) kvs)
    (h : Q (.bool (!(valueAt kvs x).isSome)) { s with toks := s.toks + 1 }) : wpAny (model prog w) A (compareOp .NotIn (.str x t) (.ref d)) Q E s :=
  wpAny_notIn_of (strKind_is prog w x t) lo (Heap.dictOf_iff.mpr ⟨o, ho, hd⟩).mapOf h
end

/-- a call of a def whose names live in cells -/
theorem call_mc {prog : Program} {w : World} {A : Around} {E : Value → Shared → Prop} {s : Shared} {b₀ : Heap} {K : Frag} {Q : Value → Shared → Prop}
    {name qual : Str} {params : Arguments} {body : List Stmt} {scope : Scope} {dV kV doc pm cdv ct oc : Value} {an od : Option Addr} {osl : Array (Option Value)} {f : Addr} {pos : List Value} {kw : List (Str × Value)} 
    (news : List (Addr × Obj)) (binds : List (Str × Value))
    (S : b₀.StaysIn s.heap) (X : K.In b₀) (hlim : b₀.NoLimit) 
    (ho : K.lookup f = some ⟨oc, od, .func (fnOf name qual params body scope dV kV doc pm an cdv ct), osl⟩) (hcd : codeIn K cdv qual = true) (hroom : A.depth < recursionLimit)
    (hbind : BindsTo s (fnOf name qual params body scope dV kV doc pm an cdv ct) ⟨pos, kw⟩ binds)
    (hkind : (binds.all fun y => scope.names.lookup y.1 == some .local || scope.names.lookup y.1 == some .cell) = true)
    (hnd : ((cellsFrom 0 scope.names []).map (·.1)).Nodup)
    (hco : scope.isCoroutine = false) (hgen : scope.isGenerator = false) (hk : scope.kind = .function)
    (hn : ∀ p ∈ news, s.heap.get? p.1 = some p.2 ∧ b₀.get? p.1 = none)
    (h : ∀ g L' h₁ tk cells, b₀.StaysIn g → KeepsBut (news.map (·.1)) s.heap g → g.StaysIn s.heap → s.heap.objs.size ≤ L' →
      Fr g L' h₁ (bindL (envOfC qual scope L' f cdv).kindOf binds fun _ => none) → News g L' h₁ (cells ++ news) →
      CellsAre (bindC (envOfC qual scope L' f cdv).kindOf binds fun _ => none) (cellsFrom (L' + 1) scope.names []) cells → (∀ p ∈ news, p.1 < L') →
      wpAny (model prog w) (A.deeper (envOfC qual scope L' f cdv)) (execs body (envOfC qual scope L' f cdv))
        (fun fl s' => Q (match fl with | .ret v => v | _ => .none) s') (fun _ _ => False)
        { s with heap := h₁, toks := tk }) :
    wpAny (model prog w) A (call (.ref f) pos kw) Q E s := by
  refine wpAny_call ?_
  refine codeAny_call_function (fd := fnOf name qual params body scope dV kV doc pm an cdv ct) hroom ((X.keeps S) _ _ ho) rfl hco hgen rfl (codeRec_of (X.keeps S) hcd) (hbind _ _ _ _ ?_)
  refine wpAny_newFunctionEnv_cells hk (kindsX hkind _) fun env' he s' x => ?_
  subst he
  refine ⟨(hlim.keeps S).keeps x.toInCall.keep, codeAny_func ?_⟩
  obtain ⟨h₁, tk, rfl, _⟩ := x.done
  have hk₁ := x.toInCall.keep
  obtain ⟨cells, NC, Y⟩ := Cl.news (h₀ := s.heap) (Nat.le_refl _) fun n c hm => ⟨x.cell n c (lookup_of_mem_nodup (cellsFrom_names scope.names 0 (s.heap.objs.size + 1) [] [] rfl ▸ hnd) hm), x.above n c hm⟩
  have nm : ∀ b o, b₀.get? b = some o → b ∉ news.map (·.1) := fun b o e q => by
    obtain ⟨p, hp, rfl⟩ := List.mem_map.mp q
    rw [(hn p hp).2] at e; cases e
  refine wpAny_mono (h (hideAll s.heap (news.map (·.1))) s.heap.objs.size h₁ tk cells (fun b o e => hideAll_get _ (S b o e) (nm b o e))
    (fun b o e q => hideAll_get _ e q) (fun b o e => of_hideAll _ e) (Nat.le_refl _) 
    ⟨x.toInCall.ns, fun b o e => hk₁ b o (of_hideAll _ e), Nat.le_of_eq (hideAll_size _ _)⟩ (fun p hp => ?_) Y (fun p hp => Heap.lt_size (hn p hp).1)) (fun fl s' hq => hq) fun _ _ y => y.elim
  rcases List.mem_append.mp hp with hp | hp
  · refine ⟨(NC p hp).1, (NC p hp).2.1, ?_⟩
    cases q : (hideAll s.heap (news.map (·.1))).get? p.1 with
    | none => rfl
    | some o => have := of_hideAll _ q; rw [(NC p hp).2.2] at this; cases this
  · exact ⟨hk₁ _ _ (hn p hp).1, Nat.ne_of_lt (Heap.lt_size (hn p hp).1), hideAll_none _ (List.mem_map_of_mem hp)⟩
-- M1
example : PySem.Challenge.rw_sw0026_01.Holds → hd.heap_39 = hd.heap_39 := by
  k_fill
  intro _
  rfl
local macro_rules | `(tactic| walk_at "eval Name") => `(tactic| (
  (with_reducible show wpAny _ _ (eval (Expr.Name _ _) (envOf _ _ _ _ _)) _ _ _);
  k_dflt (first
  | (refine' ld ?F ?hv ?_ ?hk ?hl ?hd; (case hk => exact rfl); (case hl => kernel_rfl!); (case F => k_asm); (case hv => exact rfl); (case hd => decide +kernel))
  | (refine' name_K ?F ?X ?T ?e ?_ ?hk ?hx ?hd; (case hk => exact rfl); (case hx => kernel_rfl!); (case F => k_asm); (case X => k_asm); (case T => k_asm); (case e => k_dflt k_is); (case hd => decide +kernel))
  | (refine' name_B ?F ?X ?T ?e ?hv ?hn ?_ ?hk ?hx ?hd; (case hk => exact rfl); (case hx => kernel_rfl!); (case F => k_asm); (case X => k_asm); (case T => k_asm); (case e => k_dflt k_is); (case hv => boot_by_name); (case hn => decide +kernel); (case hd => decide +kernel)))))
local macro_rules | `(tactic| walk_at "enter") => `(tactic| (
  (case k6 => k_dflt k_is); (case k7 => k_dflt k_is); (case k8 => (dsimp only; omega)); (try (case k9 => exact BindsTo.of_eq rfl)); (case c5 => decide); (case kB => exact locs rfl); (case c2 => exact rfl); (case c3 => exact rfl); (case c4 => exact rfl)))
local macro_rules | `(tactic| walk_at "stop") => `(tactic| first
  | (with_reducible show wpAny _ _ (PySem.call (Value.ref _) _ _) _ _ _)
  | (with_reducible show wpAny _ _ (PySem.exec (PySem.Stmt.While _ _ _ _) _) _ _ _)
  | (with_reducible show wpAny _ _ (PySem.exec (PySem.Stmt.For _ _ _ _ _) _) _ _ _)
  | (with_reducible show wpAny _ _ (PySem.call (Value.type "list") _ _) _ _ _)
  | (with_reducible show wpAny _ _ (PySem.pyIter (Value.ref _)) _ _ _)
  | (with_reducible show wpAny _ _ (PySem.setItem (Value.ref _) _ _) _ _ _)
  | (with_reducible show wpAny _ _ (PySem.newList _) _ _ _)
  | (with_reducible show wpAny _ _ (PySem.eval (PySem.Expr.Dict _ _ _) _) _ _ _)
  | (with_reducible show wpAny _ _ (PySem.compareOp PySem.CmpOp.NotIn _ (Value.ref _)) _ _ _)
  | (with_reducible show wpAny _ _ (PySem.call (Value.builtin "list.append") _ _) _ _ _)
  | (with_reducible show wpAny _ _ (PySem.compareOp PySem.CmpOp.NotEq (Value.ref _) (Value.ref _)) _ _ _)
  | (with_reducible show wpAny _ _ (PySem.exec (PySem.Stmt.Assign _ (PySem.Expr.ListComp _ _ _ _) _) _) _ _ _)
  | (with_reducible show wpAny _ _ (subscriptTail _ _ (Value.ref _) _) _ _ _))
local macro_rules | `(tactic| walk_at "go") => `(tactic| repeat' (first | (k_unfold; (try dsimp only)) | ((fail_if_success (walk_at "stop")); (first | walk1 | (dsimp only; walk1)) <;> (try dsimp only))))
local macro_rules | `(tactic| walk_at "go2") => `(tactic| repeat' (first | (k_unfold; (try dsimp only)) | ((fail_if_success (walk_at "stop")); (fail_if_success (with_reducible show wpAny _ _ (PySem.exec (PySem.Stmt.If _ _ _ _) _) _ _ _)); (first | walk1 | (dsimp only; walk1)) <;> (try dsimp only))))
local macro_rules | `(tactic| walk_at "go3") => `(tactic| repeat' (first | (k_unfold; (try dsimp only)) | ((fail_if_success (walk_at "stop")); (fail_if_success (with_reducible show wpAny _ _ (PySem.execs (PySem.Stmt.If _ _ _ _ :: _) _) _ _ _)); (first | walk1 | (dsimp only; walk1)) <;> (try dsimp only))))
local macro_rules | `(tactic| walk_at "gof") => `(tactic| repeat' (first | (k_unfold; (try dsimp only)) | ((fail_if_success (with_reducible show wpAny _ _ (PySem.binaryOp Operator.FloorDiv (Value.int _ _) (Value.int _ _)) _ _ _)); (fail_if_success (walk_at "stop")); (first | walk1 | (dsimp only; walk1)) <;> (try dsimp only))))

section
variable {prog : Program} {w : World} {A : Around} {E : Value → Shared → Prop} {s : Shared} {b₀ : Heap} {Q : Value → Shared → Prop} {p : Program} {loose : List Str} {mean : ExcName → Option Value} {mg mb : Str → Option Value}

theorem delL_of {vs : List Value} {j : Nat} (h : j < vs.length) : ki_delL vs j = some (vs.eraseIdx j) := by
  induction vs generalizing j with
  | nil => simp at h
  | cons v r ih =>
    cases j with
    | zero => rfl
    | succ j => unfold ki_delL; rw [ih (by simpa using h)]; rfl
-- enters a def that has no default: the goal is call_me's

theorem add_spec {a b : Int} {ta tb : Tok} (G : Okay w p loose mean mg mb b₀) (S : b₀.StaysIn s.heap) (hh : A.handled = none) (hd : A.depth + 1 < recursionLimit) (hu : A.units + 20 < cLine)
    (h : ∀ h' tk t, s.heap.StaysIn h' → Q (.int (a + b) t) { s with heap := h', toks := tk }) :
    wpAny (model prog w) A (call (.ref 39) [.int a ta, .int b tb]) Q E s := by
  obtain ⟨_, dp, fr, gd, un⟩ := A
  dsimp only at hh hd hu; subst hh
  refine' call_me [] [(Str.ofString "a", .int a ta), (Str.ofString "b", .int b tb)] S G.X G.T.nolimit ?k6 ?k7 ?k8 ?k9 ?kB ?c5 ?c2 ?c3 ?c4 ?hn ?_
  walk_at "enter"
  case hn => exact fun _ h => nomatch h
  intro g L' h₁ Sg Kg gS hL F' N' lt'
  have X' := G.X.keeps Sg
  have T' := G.T.keeps Sg
  walk_at "go"
  try dsimp only
  exact h _ _ _ (stays_of Kg (by assumption))

theorem sub_spec {a b : Int} {ta tb : Tok} (G : Okay w p loose mean mg mb b₀) (S : b₀.StaysIn s.heap) (hh : A.handled = none) (hd : A.depth + 1 < recursionLimit) (hu : A.units + 20 < cLine)
    (h : ∀ h' tk t, s.heap.StaysIn h' → Q (.int (a - b) t) { s with heap := h', toks := tk }) :
    wpAny (model prog w) A (call (.ref 60) [.int a ta, .int b tb]) Q E s := by
  obtain ⟨_, dp, fr, gd, un⟩ := A
  dsimp only at hh hd hu; subst hh
  refine' call_me [] [(Str.ofString "a", .int a ta), (Str.ofString "b", .int b tb)] S G.X G.T.nolimit ?k6 ?k7 ?k8 ?k9 ?kB ?c5 ?c2 ?c3 ?c4 ?hn ?_
  walk_at "enter"
  case hn => exact fun _ h => nomatch h
  intro g L' h₁ Sg Kg gS hL F' N' lt'
  have X' := G.X.keeps Sg
  have T' := G.T.keeps Sg
  walk_at "go"
  try dsimp only
  exact h _ _ _ (stays_of Kg (by assumption))

theorem mod_spec {a b : Int} {ta tb : Tok} (G : Okay w p loose mean mg mb b₀) (S : b₀.StaysIn s.heap) (hh : A.handled = none) (hd : A.depth + 1 < recursionLimit) (hu : A.units + 20 < cLine) (hb : 0 < b)
    (h : ∀ h' tk t, s.heap.StaysIn h' → Q (.int (a.fmod b) t) { s with heap := h', toks := tk }) :
    wpAny (model prog w) A (call (.ref 53) [.int a ta, .int b tb]) Q E s := by
  obtain ⟨_, dp, fr, gd, un⟩ := A
  dsimp only at hh hd hu; subst hh
  refine' call_me [] [(Str.ofString "a", .int a ta), (Str.ofString "b", .int b tb)] S G.X G.T.nolimit ?k6 ?k7 ?k8 ?k9 ?kB ?c5 ?c2 ?c3 ?c4 ?hn ?_
  walk_at "enter"
  case hn => exact fun _ h => nomatch h
  intro g L' h₁ Sg Kg gS hL F' N' lt'
  have X' := G.X.keeps Sg
  have T' := G.T.keeps Sg
  walk_at "go"
  try dsimp only
  exact h _ _ _ (stays_of Kg (by assumption))

theorem floordiv_spec {a : Int} {ta tb : Tok} (G : Okay w p loose mean mg mb b₀) (S : b₀.StaysIn s.heap) (hh : A.handled = none) (hd : A.depth + 1 < recursionLimit) (hu : A.units + 20 < cLine)
    (h : ∀ h' tk t, s.heap.StaysIn h' → Q (.int (a.fdiv 2) t) { s with heap := h', toks := tk }) :
    wpAny (model prog w) A (call (.ref 46) [.int a ta, .int 2 tb]) Q E s := by
  obtain ⟨_, dp, fr, gd, un⟩ := A
  dsimp only at hh hd hu; subst hh
  refine' call_me [] [(Str.ofString "a", .int a ta), (Str.ofString "b", .int 2 tb)] S G.X G.T.nolimit ?k6 ?k7 ?k8 ?k9 ?kB ?c5 ?c2 ?c3 ?c4 ?hn ?_
  walk_at "enter"
  case hn => exact fun _ h => nomatch h
  intro g L' h₁ Sg Kg gS hL F' N' lt'
  have X' := G.X.keeps Sg
  have T' := G.T.keeps Sg
  walk_at "go"
  try dsimp only
  exact h _ _ _ (stays_of Kg (by assumption))

theorem getitem_spec {l : Addr} {vs : List Value} {k : Int} {u : Tok} {j : Nat} {v : Value} (G : Okay w p loose mean mg mb b₀) (S : b₀.StaysIn s.heap) (hh : A.handled = none) (hd : A.depth + 1 < recursionLimit) (hu : A.units + 20 < cLine)
    (hl : s.heap.IsList l vs.toArray) (hj : seqIndex? k vs.length = some j) (hx : vs[j]? = some v) (hlo : -(2 ^ 63) ≤ k) (hhi : k < 2 ^ 63)
    (h : ∀ h' tk, s.heap.StaysIn h' → Q v { s with heap := h', toks := tk }) :
    wpAny (model prog w) A (call (.ref 74) [.ref l, .int k u]) Q E s := by
  obtain ⟨_, dp, fr, gd, un⟩ := A
  dsimp only at hh hd hu; subst hh
  refine' call_me [] [(Str.ofString "a", .ref l), (Str.ofString "b", .int k u)] S G.X G.T.nolimit ?k6 ?k7 ?k8 ?k9 ?kB ?c5 ?c2 ?c3 ?c4 ?hn ?_
  walk_at "enter"
  case hn => exact fun _ h => nomatch h
  intro g L' h₁ Sg Kg gS hL F' N' lt'
  have X' := G.X.keeps Sg
  have T' := G.T.keeps Sg
  have hl' := Fr.list F' (Kg.list hl (fun q => nomatch q))
  walk_at "go"
  refine item_list hl' hj hx hlo hhi ?_
  walk_at "go"
  try dsimp only
  exact h _ _ (stays_of Kg (by assumption))

theorem delitem_spec {l : Addr} {vs : List Value} {n : Nat} {k : Int} {u : Tok} {j : Nat} (G : Okay w p loose mean mg mb b₀) (S : b₀.StaysIn s.heap) (hh : A.handled = none) (hd : A.depth + 1 < recursionLimit) (hu : A.units + 20 < cLine)
    (hl : s.heap.get? l = some (listOf vs.toArray n)) (hb : b₀.get? l = none) (hj : seqIndex? k vs.length = some j) (hlt : j < vs.length) (h0 : 0 ≤ k) (hhi : k < 2 ^ 63) (hz : vs.length ≤ 1000)
    (h : ∀ h' tk, KeepsBut [l] s.heap h' → h'.get? l = some (listOf (vs.eraseIdx j).toArray (n + 1)) → Q .none { s with heap := h', toks := tk }) :
    wpAny (model prog w) A (call (.ref 67) [.ref l, .int k u]) Q E s := by
  obtain ⟨_, dp, fr, gd, un⟩ := A
  dsimp only at hh hd hu; subst hh
  refine' call_me [(l, listOf vs.toArray n)] [(Str.ofString "a", .ref l), (Str.ofString "b", .int k u)] S G.X G.T.nolimit ?k6 ?k7 ?k8 ?k9 ?kB ?c5 ?c2 ?c3 ?c4 ?hn ?_
  walk_at "enter"
  case hn => intro p hp; cases List.mem_singleton.mp hp; exact ⟨hl, hb⟩
  intro g L' h₁ Sg Kg gS hL F' N' lt'
  have X' := G.X.keeps Sg
  have T' := G.T.keeps Sg
  walk_at "go"
  refine' ki_del (q := vs.eraseIdx j) F' N' ?_ (k := j) ?_ ?_ (Upd.head (fun p hp => nomatch hp)) ?_ ?_
  · exact fitsIndex_of h0 hhi
  · simpa using hj
  · exact delL_of hlt
  · simp; exact Nat.le_trans hz (by decide)
  · intro h' F' N'
    walk_at "go"
    try dsimp only
    exact h _ _ (keeps_of Kg F') (N' _ (.head _)).1
end
-- M2
section
variable {prog : Program} {w : World} {A : Around} {E : Value → Shared → Prop} {s : Shared} {b₀ : Heap} {Q : Value → Shared → Prop} {p : Program} {loose : List Str} {mean : ExcName → Option Value} {mg mb : Str → Option Value}

abbrev sl (a b : Str) : Prop := a.cps.toList < b.cps.toList
/-- the place that bisect_left tells -/
structure Place (xs : List Str) (x : Str) (r : Nat) : Prop where
  le : r ≤ xs.length
  before : ∀ i (h : i < xs.length), i < r → sl xs[i] x
  behind : ∀ i (h : i < xs.length), r ≤ i → ¬ sl xs[i] x
/-- what lies ahead of a lesser one is less -/
abbrev Mono (xs : List Str) (x : Str) : Prop := ∀ i j (hi : i < xs.length) (hj : j < xs.length), i ≤ j → sl xs[j] x → sl xs[i] x

theorem bisect_gen {pos : List Value} {t0 : Tok} {l : Addr} {vs : List Value} {xs : List Str} {x : Str} {tx : Tok} (G : Okay w p loose mean mg mb b₀) (S : b₀.StaysIn s.heap) (hh : A.handled = none) (hd : A.depth + 1 < recursionLimit) (hu : A.units + 20 < cLine)
    (hl : s.heap.IsList l vs.toArray) (hx : StrsAre vs xs) (hz : xs.length ≤ 1000) (ho : Mono xs x)
    (hb : ∀ oc od osl fd, (Mine.hd.heap_39 w.params).lookup 32 = some ⟨oc, od, .func fd, osl⟩ → BindsTo s fd ⟨pos, []⟩ [(Str.ofString "a", .ref l), (Str.ofString "x", .str x tx), (Str.ofString "lo", .int 0 t0), (Str.ofString "hi", .none), (Str.ofString "key", .none)])
    (h : ∀ h' tk t (r : Nat), s.heap.StaysIn h' → Place xs x r → Q (.int r t) { s with heap := h', toks := tk }) :
    wpAny (model prog w) A (call (.ref 32) pos) Q E s := by
  obtain ⟨_, dp, fr, gd, un⟩ := A
  dsimp only at hh hd hu; subst hh
  refine' call_me [] [(Str.ofString "a", .ref l), (Str.ofString "x", .str x tx), (Str.ofString "lo", .int 0 t0), (Str.ofString "hi", .none), (Str.ofString "key", .none)] S G.X G.T.nolimit ?k6 ?k7 ?k8 ?k9 ?kB ?c5 ?c2 ?c3 ?c4 ?hn ?_
  walk_at "enter"
  case k9 => exact hb _ _ _ _ (by k_dflt k_is)
  case hn => exact fun _ h => nomatch h
  intro g L' h₁ Sg Kg gS hL F' N' lt'
  have X' := G.X.keeps Sg
  have T' := G.T.keeps Sg
  have hl' := Fr.list F' (Kg.list hl (fun q => nomatch q))
  walk_at "go"
  rename Fr _ _ _ _ => F1
  rename News _ _ _ _ => N1
  rename StrsAre _ _ => hx
  refine While_inv (fun n m₁ news₁ => news₁ = [] ∧ ∃ (lo hi : Nat) (t u : Tok), n = hi - lo ∧ lo ≤ hi ∧ hi ≤ xs.length ∧ (∀ i (h : i < xs.length), i < lo → sl xs[i] x) ∧ (∀ i (h : i < xs.length), hi ≤ i → ¬ sl xs[i] x) ∧ m₁ (Str.ofString "a") = some (.ref l) ∧ m₁ (Str.ofString "x") = some (.str x tx) ∧ m₁ (Str.ofString "lo") = some (.int lo t) ∧ m₁ (Str.ofString "hi") = some (.int hi u)) (n₀ := xs.length) F1 N1 ⟨rfl, 0, xs.length, _, _, rfl, Nat.zero_le _, Nat.le_refl _, (fun _ _ q => absurd q (Nat.not_lt_zero _)), (fun _ q r => absurd q (Nat.not_lt.mpr r)), rfl, rfl, rfl, rfl⟩ ?_
  rintro n m₁ _ h₂ tk₂ F2 N2 ⟨rfl, lo, hi, t, u, rfl, h1, h2, hb, hf, e1, e2, e3, e4⟩
  have hl2 := Fr.list F2 (Kg.list hl (fun q => nomatch q))
  replace F2 := frBy F2 (sy (sy (sy (sy rfl e4) e3) e2) e1)
  clear F1 N1
  dsimp only
  walk_at "go"
  · -- a turn
    with_reducible rename ((lo : Int) < hi) => hc
    rename Fr _ _ _ _ => F3
    rename News _ _ _ _ => N3
    have hl3 := Fr.list F3 (Kg.list hl (fun q => nomatch q))
    obtain ⟨mid, em⟩ : ∃ mid : Nat, ((lo : Int) + hi).fdiv 2 = mid := ⟨(lo + hi) / 2, by rw [Int.fdiv_eq_ediv_of_nonneg _ (by decide)]; omega⟩
    have hm1 : lo ≤ mid := by rw [Int.fdiv_eq_ediv_of_nonneg _ (by decide)] at em; omega
    have hm2 : mid < hi := by rw [Int.fdiv_eq_ediv_of_nonneg _ (by decide)] at em; omega
    have hlen := hx.length
    obtain ⟨tm, hi'⟩ := hx.get mid xs[mid] (by simp)
    rw [em]
    refine item_list hl3 (seqIndex_of (by omega) (by omega)) (by simpa using hi') (by omega) (by omega) ?_
    try dsimp only
    walk_at "go"
    · with_reducible rename (xs[mid].cps.toList < x.cps.toList) => hm
      rename Fr _ _ _ _ => F5
      rename News _ _ _ _ => N5
      exact WhileStep.intro F5 N5 (n' := hi - (mid + 1)) (by omega) ⟨rfl, mid + 1, hi, _, _, rfl, by omega, h2, fun i hi' q => ho i mid hi' (by omega) (by omega) hm, hf, rfl, rfl, iv (by omega), rfl⟩
    · with_reducible rename (¬ xs[mid].cps.toList < x.cps.toList) => hm
      rename Fr _ _ _ _ => F5
      rename News _ _ _ _ => N5
      exact WhileStep.intro F5 N5 (n' := mid - lo) (by omega) ⟨rfl, lo, mid, _, _, rfl, by omega, by omega, hb, fun i hi' q r => hm (ho mid i (by omega) hi' q r), rfl, rfl, rfl, iv em⟩
  · -- the end
    with_reducible rename (¬ (lo : Int) < hi) => hc
    have e : lo = hi := by omega
    subst e
    exact h _ _ _ lo (stays_of Kg (by assumption)) ⟨h2, hb, hf⟩

theorem bisect2_spec {l : Addr} {vs : List Value} {xs : List Str} {x : Str} {tx : Tok} (G : Okay w p loose mean mg mb b₀) (S : b₀.StaysIn s.heap) (hh : A.handled = none) (hd : A.depth + 1 < recursionLimit) (hu : A.units + 20 < cLine)
    (hl : s.heap.IsList l vs.toArray) (hx : StrsAre vs xs) (hz : xs.length ≤ 1000) (ho : Mono xs x)
    (h : ∀ h' tk t (r : Nat), s.heap.StaysIn h' → Place xs x r → Q (.int r t) { s with heap := h', toks := tk }) :
    wpAny (model prog w) A (call (.ref 32) [.ref l, .str x tx]) Q E s := by
  refine bisect_gen (t0 := 202) (tx := tx) G S hh hd hu hl hx hz ho (fun oc od osl fd e => ?_) h
  refine' use_eq (P := BindsO s _ _) e ?q ?c
  case q => k_dflt k_is
  exact kp_binds (G.X.keeps S) (fun _ => by with_unfolding_all rfl)
theorem bisect4_spec {l : Addr} {vs : List Value} {xs : List Str} {x : Str} {tx t0 : Tok} (G : Okay w p loose mean mg mb b₀) (S : b₀.StaysIn s.heap) (hh : A.handled = none) (hd : A.depth + 1 < recursionLimit) (hu : A.units + 20 < cLine)
    (hl : s.heap.IsList l vs.toArray) (hx : StrsAre vs xs) (hz : xs.length ≤ 1000) (ho : Mono xs x)
    (h : ∀ h' tk t (r : Nat), s.heap.StaysIn h' → Place xs x r → Q (.int r t) { s with heap := h', toks := tk }) :
    wpAny (model prog w) A (call (.ref 32) [.ref l, .str x tx, .int 0 t0, .none]) Q E s := by
  refine bisect_gen (t0 := t0) (tx := tx) G S hh hd hu hl hx hz ho (fun oc od osl fd e => ?_) h
  refine' use_eq (P := BindsO s _ _) e ?q ?c
  case q => k_dflt k_is
  exact kp_binds (G.X.keeps S) (fun _ => by with_unfolding_all rfl)

theorem insort_spec {l : Addr} {vs : List Value} {n : Nat} {xs : List Str} {x : Str} {tx : Tok} (G : Okay w p loose mean mg mb b₀) (S : b₀.StaysIn s.heap) (hh : A.handled = none) (hd : A.depth + 2 < recursionLimit) (hu : A.units + 40 < cLine)
    (hl : s.heap.get? l = some (listOf vs.toArray n)) (hb : b₀.get? l = none) (hx : StrsAre vs xs) (hz : xs.length ≤ 1000) (ho : Mono xs x)
    (h : ∀ h' tk (r : Nat), Place xs x r → KeepsBut [l] s.heap h' → h'.get? l = some (listOf (vs.take r ++ .str x tx :: vs.drop r).toArray (n + 1)) → Q .none { s with heap := h', toks := tk }) :
    wpAny (model prog w) A (call (.ref 23) [.ref l, .str x tx]) Q E s := by
  obtain ⟨_, dp, fr, gd, un⟩ := A
  dsimp only at hh hd hu; subst hh
  refine' call_me [(l, listOf vs.toArray n)] [(Str.ofString "a", .ref l), (Str.ofString "x", .str x tx), (Str.ofString "lo", .int 0 189), (Str.ofString "hi", .none), (Str.ofString "key", .none)] S G.X G.T.nolimit ?k6 ?k7 ?k8 ?k9 ?kB ?c5 ?c2 ?c3 ?c4 ?hn ?_
  walk_at "enter"
  case k9 => exact kp_binds (G.X.keeps S) (fun _ => by with_unfolding_all rfl)
  case hn => intro p hp; cases List.mem_singleton.mp hp; exact ⟨hl, hb⟩
  intro g L' h₁ Sg Kg gS hL F' N' lt'
  have X' := G.X.keeps Sg
  have T' := G.T.keeps Sg
  walk_at "go"
  rename Fr _ _ _ _ => F1
  rename News _ _ _ _ => N1
  refine bisect4_spec G (fun b o e => F1.keep b o (Sg b o e)) rfl (by show dp + 1 + 1 < _; omega) (by show un + 3 + 20 < _; omega) ⟨_, (N1 _ (.head _)).1, rfl, _, rfl⟩ hx hz ho ?_
  intro h2 tk2 t2 r K2 hP
  dsimp only
  replace F1 := Fr.keeps F1 K2
  replace N1 := News.grown N1 K2
  walk_at "go"
  rename Fr _ _ _ _ => F3
  rename News _ _ _ _ => N3
  have hlen := hx.length
  have hr := hP.le
  refine kl_insert (l := vs.take r ++ .str x tx :: vs.drop r) F3 N3 (fitsIndex_of (by omega) (by omega)) ?_ (Upd.head (fun p hp => nomatch hp)) ?_ ?_
  · unfold kl_ins
    have e : (if (r : Int) < 0 then ((r : Int) + (vs.toArray.toList.length : Int)).toNat else min (r : Int).toNat vs.toArray.toList.length) = r := by
      rw [if_neg (by omega)]; simp; omega
    rw [e]
  · show vs.toArray.toList.length ≤ sizeLine
    exact Nat.le_trans (by simp; omega : _ ≤ 1000) (by decide)
  · intro h4 F4 N4
    walk_at "go"
    exact h _ _ r hP (keeps_of Kg F4) (N4 _ (.head _)).1
end
-- M3
section
variable {prog : Program} {w : World} {A : Around} {E : Value → Shared → Prop} {s : Shared} {b₀ : Heap} {Q : Value → Shared → Prop} {p : Program} {loose : List Str} {mean : ExcName → Option Value} {mg mb : Str → Option Value}

theorem cost_spec {x y : Str} {tx ty : Tok} (G : Okay w p loose mean mg mb b₀) (S : b₀.StaysIn s.heap) (hh : A.handled = none) (hd : A.depth + 1 < recursionLimit) (hu : A.units + 20 < cLine)
    (hx : x.length ≤ 1000) (hy : y.length ≤ 1000)
    (h : ∀ h' tk t, s.heap.StaysIn h' → Q (.int (costOf x y) t) { s with heap := h', toks := tk }) :
    wpAny (model prog w) A (call (.ref 81) [.str x tx, .str y ty]) Q E s := by
  obtain ⟨_, dp, fr, gd, un⟩ := A
  dsimp only at hh hd hu; subst hh
  refine' call_me [] [(Str.ofString "ch_a", .str x tx), (Str.ofString "ch_b", .str y ty)] S G.X G.T.nolimit ?k6 ?k7 ?k8 ?k9 ?kB ?c5 ?c2 ?c3 ?c4 ?hn ?_
  walk_at "enter"
  case hn => exact fun _ h => nomatch h
  intro g L' h₁ Sg Kg gS hL F' N' lt'
  have X' := G.X.keeps Sg
  have T' := G.T.keeps Sg
  walk_at "go"
  · with_reducible rename ((x == y) = true) => e1
    have e : costOf x y = 0 := by unfold costOf; rw [e1]; rfl
    rw [e] at h
    exact h _ _ _ (stays_of Kg (by assumption))
  · with_reducible rename ((x == y) = false) => e1
    with_reducible rename ((Txt.lower x == Txt.lower y) = true) => e2
    have e : costOf x y = 1 := by unfold costOf; rw [e1, e2]; rfl
    rw [e] at h
    exact h _ _ _ (stays_of Kg (by assumption))
  · with_reducible rename ((x == y) = false) => e1
    with_reducible rename ((Txt.lower x == Txt.lower y) = false) => e2
    have e : costOf x y = 2 := by unfold costOf; rw [e1, e2]; rfl
    rw [e] at h
    exact h _ _ _ (stays_of Kg (by assumption))
end
-- M5
section
variable {prog : Program} {w : World} {A : Around} {E : Value → Shared → Prop} {s : Shared} {b₀ : Heap} {Q : Value → Shared → Prop} {p : Program} {loose : List Str} {mean : ExcName → Option Value} {mg mb : Str → Option Value}

theorem lev_tail {m₀ : Str → Option Value} {g : Heap} {L : Addr} {la lb : List Nat} {ta tb tc : Tok} (G : Okay w p loose mean mg mb b₀) (Sg : b₀.StaysIn g) (hh : A.handled = none) (hd : A.depth + 1 < recursionLimit) (hu : A.units + 20 < cLine)
    (F : Fr g L s.heap m₀) (h6 : la.length ≤ 6) (h1 : 1 ≤ la.length) (hab : la.length = lb.length) (hap : Apart la lb)
    (ea : m₀ (Str.ofString "a") = some (.str (wd la) ta)) (eb : m₀ (Str.ofString "b") = some (.str (wd lb) tb)) (ec : m₀ (Str.ofString "max_cost") = some (.int 12 tc))
    (h : ∀ h' tk t m', Fr g L h' m' → Q (.int (Sm (cAt la lb) la.length) t) { s with heap := h', toks := tk }) :
    wpAny (model prog w) A (execs ((bodyOf (Mine.hd.heap_39 w.params) 88).drop 9) (envAt (Mine.hd.heap_39 w.params) 88 L)) (fun f s' => Q (match f with | .ret v => v | _ => .none) s') (fun _ _ => False) s := by
  obtain ⟨_, dp, fr, gd, un⟩ := A
  dsimp only at hh hd hu; subst hh
  conv => 
    arg 3
    congr
    · arg 2; whnf
    · unfold envAt
      congr
      · change Str.ofString "_levenshtein_distance"
      · whnf
      · skip
      · skip
      · whnf
  simp only [List.drop_succ_cons, List.drop_zero]
  have X' := G.X.keeps Sg
  have T' := G.T.keeps Sg
  replace F := frBy F (sy (sy (sy rfl ec) eb) ea)
  have N : News g L s.heap [] := fun _ h => nomatch h
  have wa : (wd la).length = la.length := wd_length _
  have wb : (wd lb).length = lb.length := wd_length _
  clear ea eb ec
  refine wp_id ?_
  k_fold
  walk_at "go"
  · -- both words have signs
    rename IsRange _ _ _ _ _ _ _ _ => hR
    rename Fr _ _ _ _ => F1
    generalize hc : cAt la lb = c at *
    have hcr : ∀ k, 0 ≤ c k ∧ c k ≤ 2 := by rw [← hc]; exact cAt_range la lb
    rw [wa] at hR
    have hsz := range_size2 la.length
    refine call_list_range rfl hR (range_small2 h6) hsz (Nat.le_trans h6 (by decide)) ?_
    intro h2 tk2 acc c2 K2 hS hacc
    obtain ⟨vs, rfl⟩ : ∃ vs : List Value, acc = vs.toArray := ⟨acc.toList, by simp⟩
    have hI : IntsAre vs (rowAt c la.length 0 0) := row_start c la.length (by simpa using hacc.1) (fun i v q => hacc.2 i v (by simpa using q))
    have N1 := news_new F1 hS
    replace F1 := Fr.keeps F1 K2
    clear hS K2 hacc hR hsz
    dsimp only at N1 ⊢
    generalize (Heap.objs _).size = r at N1 ⊢
    walk_at "go"
    rename Fr _ _ _ _ => F2
    refine For_invVF F2 rfl rfl ?_
    walk_at "go"
    rename IsRange _ _ _ _ _ _ _ _ => hR
    rename Fr _ _ _ _ => F3
    rename News _ _ _ _ => N3
    rw [wb, ← hab] at hR
    refine iter_range (n := la.length) (fun i m' nw => ∃ (vs : List Value) (n : Nat) (t1 t2 t3 t4 : Tok), nw = [(r, listOf vs.toArray n)] ∧ IntsAre vs (rowAt c la.length i 0) ∧ m' (Str.ofString "a") = some (.str (wd la) t1) ∧ m' (Str.ofString "b") = some (.str (wd lb) t2) ∧ m' (Str.ofString "max_cost") = some (.int 12 t3) ∧ m' (Str.ofString "row") = some (.ref r) ∧ m' (Str.ofString "result") = some (.int (if i = 0 then 0 else Dst c i la.length) t4)) rfl hR (range_small01 (by omega)) (range_size01 _) F3 N3 ⟨vs, c2, _, _, _, _, rfl, hI, rfl, rfl, rfl, rfl, rfl⟩ ?_ ?_
    · clear F3 N3 hR hI
      rintro i t m₁ _ h3 tk3 I o hi hlt hadr ⟨vs, n, t1, t2, t3, t4, rfl, hI, e1, e2, e3, e4, e5⟩ F4 N4
      simp only [Int.zero_add, Int.mul_one] at F4
      replace F4 := frTop F4 (sy (sy (sy (sy (sy rfl e5) e4) e3) e2) e1)
      clear e1 e2 e3 e4 e5
      have hIr : @LT.lt Nat _ r I := hlt _ (.head _)
      have hib : i < lb.length := by omega
      walk_at "go"
      rename Fr _ _ _ _ => F5
      have hbch := item_getD (l := lb) hib
      rw [hbch] at F5
      refine For_invVF F5 rfl rfl ?_
      walk_at "go"
      rename IsRange _ _ _ _ _ _ _ _ => hR2
      rename Fr _ _ _ _ => F6
      rename News _ _ _ _ => N6
      rw [wa] at hR2
      have eD0 := Dst_zero c i
      refine iter_range (n := la.length) (fun j m' nw => ∃ (vs : List Value) (n : Nat) (t1 t2 t3 t4 t5 t6 t7 t8 : Tok) (mn : Int), nw = [(I, o), (r, listOf vs.toArray n)] ∧ IntsAre vs (rowAt c la.length i j) ∧ (∀ t, t < j → mn ≤ Dst c (i + 1) (t + 1)) ∧ m' (Str.ofString "a") = some (.str (wd la) t1) ∧ m' (Str.ofString "b") = some (.str (wd lb) t2) ∧ m' (Str.ofString "max_cost") = some (.int 12 t3) ∧ m' (Str.ofString "row") = some (.ref r) ∧ m' (Str.ofString "bchar") = some (.str (one (lb.getD i 0)) t4) ∧ m' (Str.ofString "distance") = some (.int (Dst c i j) t5) ∧ m' (Str.ofString "result") = some (.int (if j = 0 then 2 * (i : Int) else Dst c (i + 1) j) t6) ∧ m' (Str.ofString "minimum") = some (.int mn t7)) rfl hR2 (range_small01 (by omega)) (range_size01 _) F6 N6 ⟨vs, n, _, _, _, _, _, _, _, 0, _, rfl, hI, (fun t q => absurd q (Nat.not_lt_zero t)), rfl, rfl, rfl, rfl, rfl, iv eD0.symm, iv (by rw [if_pos rfl]; omega), rfl⟩ ?_ ?_
      · clear F6 N6 hR2 hI eD0
        rintro j tj m₂ _ h4 tk4 I2 o2 hj hlt2 hadr2 ⟨vs2, n2, t1, t2, t3, t4, t5, t6, t7, t8, mn, rfl, hI, hmn, e1, e2, e3, e4, e5, e6, e7, e8⟩ F7 N7
        simp only [Int.zero_add, Int.mul_one] at F7
        replace F7 := frTop F7 (sy (sy (sy (sy (sy (sy (sy (sy rfl e8) e7) e6) e5) e4) e3) e2) e1)
        clear e1 e2 e3 e4 e5 e6 e7 e8
        have hja := item_getD (l := la) hj
        have hI2r : @LT.lt Nat _ I I2 := hlt2 _ (.head _)
        generalize hr0 : (if j = 0 then 2 * (i : Int) else Dst c (i + 1) j) = r0 at F7
        generalize hD0 : Dst c i j = D0 at F7
        walk_at "go"
        rw [hja]
        rename Fr _ _ _ _ => F8
        rename News _ _ _ _ => N8
        refine cost_spec G (fun b o e => F8.keep b o (Sg b o e)) rfl (by show dp + 1 < _; omega) (by show un + 20 < _; omega) (by show (1 : Nat) ≤ 1000; decide) (by show (1 : Nat) ≤ 1000; decide) ?_
        intro h5 tk5 tc5 K5
        have hK : costOf (one (lb.getD i 0)) (one (la.getD j 0)) = if i = j then c i else 2 := by
          by_cases q : i = j
          · subst q; rw [if_pos rfl, ← hc]; rfl
          · rw [if_neg q]; exact hap j i (by omega) hj hib
        generalize costOf (one (lb.getD i 0)) (one (la.getD j 0)) = K at hK ⊢
        dsimp only
        replace F8 := Fr.keeps F8 K5
        replace N8 := News.grown N8 K5
        walk_at "go"
        rename Fr _ _ _ _ => F9
        rename News _ _ _ _ => N9
        have hlv := hI.length
        rw [rowAt_length] at hlv
        obtain ⟨t9, hgj⟩ := hI.get j _ (rowAt_get c hj)
        have hcell := Dst_cell hcr i j K r0 hK hr0.symm
        rw [hD0] at hcell
        generalize Dst c i (j + 1) = D1 at hgj hcell
        refine item_list ⟨_, (N9 _ (by simp : (r, listOf vs2.toArray n2) ∈ _)).1, rfl, _, rfl⟩ (seqIndex_of (by omega) (by omega)) (by simpa using hgj) (by omega) (by omega) ?_
        walk_at "go"
        rename Fr _ _ _ _ => F10
        rename News _ _ _ _ => N10
        rw [← cell_if] at hcell
        rw [hcell] at F10 ⊢
        refine ki_set F10 N10 (q := vs2.set j (.int (Dst c (i + 1) (j + 1)) _)) (by omega) (by omega) (setL_of (by simp; omega)) (Upd.tail (neN (by dsimp only; omega)) (Upd.tail (neN (by dsimp only; omega)) (Upd.head (fun p hp => nomatch hp)))) ?_
        intro h6' F11 N11
        have hI' := fun t => IntsAre.set hI j (Dst c (i + 1) (j + 1)) t
        simp only [rowAt_set] at hI'
        walk_at "go"
        · rename Fr _ _ _ _ => F12
          rename News _ _ _ _ => N12
          with_reducible rename (Dst c (i + 1) (j + 1) < mn) => hlt3
          exact Turn.next F12 N12 rfl ⟨_, n2, _, _, _, _, _, _, _, 0, _, rfl, hI' _, fun t q => by
            rcases Nat.lt_succ_iff_lt_or_eq.mp q with r | r
            · exact Int.le_of_lt (Int.lt_of_lt_of_le hlt3 (hmn t r))
            · subst r; exact Int.le_refl _, rfl, rfl, rfl, rfl, rfl, rfl, iv (by rw [if_neg (Nat.succ_ne_zero j)]), rfl⟩
        · rename Fr _ _ _ _ => F12
          rename News _ _ _ _ => N12
          with_reducible rename (¬ Dst c (i + 1) (j + 1) < mn) => hlt3
          exact Turn.next F12 N12 rfl ⟨_, n2, _, _, _, _, _, _, _, 0, _, rfl, hI' _, fun t q => by
            rcases Nat.lt_succ_iff_lt_or_eq.mp q with r | r
            · exact hmn t r
            · subst r; exact Int.not_lt.mp hlt3, rfl, rfl, rfl, rfl, rfl, rfl, iv (by rw [if_neg (Nat.succ_ne_zero j)]), rfl⟩
      · clear F6 N6 hR2 hI eD0
        rintro m₂ _ h4 tk4 hadr2 ⟨vs2, n2, t1, t2, t3, t4, t5, t6, t7, t8, mn, rfl, hI, hmn, e1, e2, e3, e4, e5, e6, e7, e8⟩ F7 N7
        replace F7 := frBy F7 (sy (sy (sy (sy (sy (sy (sy (sy rfl e8) e7) e6) e5) e4) e3) e2) e1)
        clear e1 e2 e3 e4 e5 e6 e7 e8
        rw [rowAt_next] at hI
        have hS := Sm_range hcr (i + 1)
        have hmn' := hmn i hi
        rw [Dst_diag] at hmn'
        have hmn12 : mn ≤ 12 := by omega
        rw [if_neg (by omega : ¬ la.length = 0)] at F7
        walk_at "go"
        rename Fr _ _ _ _ => F12
        rename News _ _ _ _ => N12
        exact Turn.next F12 N12 rfl ⟨vs2, n2, _, _, _, _, rfl, hI, rfl, rfl, rfl, rfl, iv (by rw [if_neg (Nat.succ_ne_zero i)])⟩
    · clear F3 N3 hR hI
      rintro m₁ _ h3 tk3 hadr ⟨vs, n, t1, t2, t3, t4, rfl, hI, e1, e2, e3, e4, e5⟩ F4 N4
      rw [if_neg (by omega : ¬ la.length = 0), Dst_diag] at e5
      replace F4 := frBy F4 (sy (sy (sy (sy (sy rfl e5) e4) e3) e2) e1)
      walk_at "go"
      exact h _ _ _ _ (by assumption)
  · exfalso; omega
  · exfalso; omega
end
-- M4
section
variable {prog : Program} {w : World} {A : Around} {E : Value → Shared → Prop} {s : Shared} {b₀ : Heap} {Q : Value → Shared → Prop} {p : Program} {loose : List Str} {mean : ExcName → Option Value} {mg mb : Str → Option Value}

theorem slice_none {value slice : Expr} {x : Str} {t : Tok} {h₀ : Heap} {L : Addr} {m : Str → Option Value} {news : List (Addr × Obj)} (hF : Fr h₀ L s.heap m) (hN : News h₀ L s.heap news) (hsz : x.length ≤ sizeLine) (h : ∀ h' t' k, Fr h₀ L h' m → News h₀ L h' news → Q (.str x t') { s with heap := h', toks := k })
    (hs : subscripted slice false (.str x t) (.ref s.heap.objs.size) = operate [.ref s.heap.objs.size, .str x t] (getItem (.str x t) (.ref s.heap.objs.size)) := by with_unfolding_all rfl)
    (ht : ∀ r, letTemporaryGo value (.str x t) r = pure () := by intro _; with_unfolding_all rfl) :
    wpAny (model prog w) A (subscriptTail value slice (.str x t) (.ref s.heap.objs.size)) Q E { s with heap := s.heap.push { cls := .type "slice", data := .fields #[.none, .none, .none] } } :=
  slice_strN_nn hF hN (fun h' t' k a b => by rw [slice_all]; exact h h' t' k a b) hs ht hsz
local macro_rules | `(tactic| walk_at "subscriptTail Name Slice str ref") => `(tactic| ((with_reducible show wpAny _ _ (subscriptTail _ _ (Value.str _ _) (Value.ref _)) _ _ (Shared.mk (Heap.push _ (Obj.mk _ _ (Data.fields #[Value.none, Value.none, Value.none]) _)) _ _ _ _)); (with_reducible rename Fr _ _ _ _ => F'); (with_reducible rename News _ _ _ _ => N'); (refine slice_none (s := ⟨_, _, _, _, _⟩) F' N' ?hsz ?_); (case hsz => exact Nat.le_trans (by omega : _ ≤ 1000) (by decide)); intro _ _ _ _ _))

theorem lev_spec {la lb : List Nat} {ta tb tc : Tok} (G : Okay w p loose mean mg mb b₀) (S : b₀.StaysIn s.heap) (hh : A.handled = none) (hd : A.depth + 2 < recursionLimit) (hu : A.units + 40 < cLine)
    (h6 : la.length ≤ 6) (hab : la.length = lb.length) (hap : Apart la lb)
    (h : ∀ h' tk t, s.heap.StaysIn h' → Q (.int (Sm (cAt la lb) la.length) t) { s with heap := h', toks := tk }) :
    wpAny (model prog w) A (call (.ref 88) [.str (wd la) ta, .str (wd lb) tb, .int 12 tc]) Q E s := by
  obtain ⟨_, dp, fr, gd, un⟩ := A
  dsimp only at hh hd hu; subst hh
  refine' call_me [] [(Str.ofString "a", .str (wd la) ta), (Str.ofString "b", .str (wd lb) tb), (Str.ofString "max_cost", .int 12 tc)] S G.X G.T.nolimit ?k6 ?k7 ?k8 ?k9 ?kB ?c5 ?c2 ?c3 ?c4 ?hn ?_
  walk_at "enter"
  case hn => exact fun _ h => nomatch h
  intro g L' h₁ Sg Kg gS hL F' N' lt'
  have X' := G.X.keeps Sg
  have T' := G.T.keeps Sg
  have la6 : (wd la).length ≤ 6 := by rw [wd_length]; exact h6
  have lb6 : (wd lb).length ≤ 6 := by rw [wd_length, ← hab]; exact h6
  walk_at "go"
  · with_reducible rename ((wd la == wd lb) = true) => e1
    have e : la = lb := by have := eq_of_beq e1; simpa [wd] using this
    subst e
    have e : Sm (cAt la la) la.length = 0 := Sm_zero fun i _ => cost_self _
    rw [e] at h
    exact h _ _ _ (stays_of Kg (by assumption))
  · with_reducible rename ((wd la == wd lb) = false) => e1
    have hne := wd_ne e1
    clear e1
    rename Fr _ _ _ _ => F1
    rename News _ _ _ _ => N1
    refine wpAny_mono (Q := Cut g L' (fun m' news' => news' = [] ∧ ∃ (k : Nat) (t : Tok), k < la.length ∧ (∀ i, i < k → la.getD i 0 = lb.getD i 0) ∧ la.getD k 0 ≠ lb.getD k 0 ∧ m' (Str.ofString "a") = some (.str (wd la) ta) ∧ m' (Str.ofString "b") = some (.str (wd lb) tb) ∧ m' (Str.ofString "max_cost") = some (.int 12 tc) ∧ m' (Str.ofString "pre") = some (.int k t)) s) ?_ ?_ (fun _ _ e => e)
    · -- the first loop
      refine While_inv (fun n m₁ news₁ => news₁ = [] ∧ ∃ (k : Nat) (t : Tok), n = la.length - k ∧ k ≤ la.length ∧ (∀ i, i < k → la.getD i 0 = lb.getD i 0) ∧ m₁ (Str.ofString "a") = some (.str (wd la) ta) ∧ m₁ (Str.ofString "b") = some (.str (wd lb) tb) ∧ m₁ (Str.ofString "max_cost") = some (.int 12 tc) ∧ m₁ (Str.ofString "pre") = some (.int k t)) (n₀ := la.length) F1 N1 ⟨rfl, 0, _, rfl, Nat.zero_le _, (fun i q => absurd q (Nat.not_lt_zero i)), rfl, rfl, rfl, rfl⟩ ?_
      rintro n m₁ _ h₂ tk₂ F2 N2 ⟨rfl, k, t, rfl, h1, hk, e1, e2, e3, e4⟩
      replace F2 := frBy F2 (sy (sy (sy (sy rfl e4) e3) e2) e1)
      clear F1 N1
      have hkl : k < la.length := by
        rcases Nat.lt_or_ge k la.length with q | q
        · exact q
        · exfalso; apply hne
          apply List.ext_getElem hab
          intro i i1 i2
          have := hk i (by omega)
          simpa [List.getD_eq_getElem?_getD, i1, i2] using this
      have wa : (wd la).length = la.length := wd_length _
      have wb : (wd lb).length = lb.length := wd_length _
      dsimp only
      walk_at "go"
      · with_reducible rename ((Txt.item _ _ == Txt.item _ _) = true) => e
        rw [items_eq hkl hab] at e
        rename Fr _ _ _ _ => F5
        rename News _ _ _ _ => N5
        refine WhileStep.intro F5 N5 (n' := la.length - (k + 1)) (by omega) ⟨rfl, k + 1, _, rfl, by omega, fun i q => ?_, rfl, rfl, rfl, rfl⟩
        rcases Nat.lt_succ_iff_lt_or_eq.mp q with r | r
        · exact hk i r
        · rw [r]; exact of_decide_eq_true e
      · with_reducible rename ((Txt.item _ _ == Txt.item _ _) = false) => e
        rw [items_eq hkl hab] at e
        rename Fr _ _ _ _ => F5
        rename News _ _ _ _ => N5
        exact Cut.mk F5 N5 ⟨rfl, k, _, hkl, hk, of_decide_eq_false e, rfl, rfl, rfl, rfl⟩
      · exfalso; omega
      · exfalso; omega
    · rintro f s' ⟨rfl, h₂, tk₂, m₁, news₁, rfl, F2, N2, rfl, k, t, hkl, hk, hkn, e1, e2, e3, e4⟩
      replace F2 := frBy F2 (sy (sy (sy (sy rfl e4) e3) e2) e1)
      clear F1 N1 e1 e2 e3 e4
      dsimp only
      walk_at "go"
      rename Fr _ _ _ _ => F5
      rename News _ _ _ _ => N5
      have sa := slice_from (l := la) (k := k) (by omega)
      have sb := slice_from (l := lb) (k := k) (by omega)
      rw [sa, sb] at F5
      have hLA : (la.drop k).length = la.length - k := List.length_drop
      have hAB : (la.drop k).length = (lb.drop k).length := by rw [List.length_drop, List.length_drop, hab]
      have hA0 : (la.drop k).getD 0 0 ≠ (lb.drop k).getD 0 0 := by simpa [List.getD_eq_getElem?_getD] using hkn
      have hApt := hap.drop k
      have hSm : ∀ m, m ≤ la.length - k → (∀ i, m ≤ i → i < (la.drop k).length → (la.drop k).getD i 0 = (lb.drop k).getD i 0) → Sm (cAt ((la.drop k).take m) ((lb.drop k).take m)) m = Sm (cAt la lb) la.length := fun m hm hq =>
        Sm_strip hab (by omega) hm hk fun i h1 h2 => by
          have := hq (i - k) (by omega) (by rw [hLA]; omega)
          simpa [List.getD_eq_getElem?_getD, show k + (i - k) = i by omega] using this
      clear sa sb hk hkn
      generalize hAe : la.drop k = A at *
      generalize hBe : lb.drop k = B at *
      have wa : (wd A).length = A.length := wd_length _
      have wb : (wd B).length = B.length := wd_length _
      have hApos : 0 < A.length := by omega
      have hA6 : A.length ≤ 6 := by omega
      refine wpAny_mono (Q := Cut g L' (fun m' news' => news' = [] ∧ ∃ (q : Nat) (t t1 t2 : Tok), q < A.length ∧ (∀ i, A.length - q ≤ i → i < A.length → A.getD i 0 = B.getD i 0) ∧ m' (Str.ofString "a") = some (.str (wd A) t1) ∧ m' (Str.ofString "b") = some (.str (wd B) t2) ∧ m' (Str.ofString "max_cost") = some (.int 12 tc) ∧ m' (Str.ofString "post") = some (.int (-(q : Int)) t)) s) ?_ ?_ (fun _ _ e => e)
      · refine While_inv (fun n m₁ news₁ => news₁ = [] ∧ ∃ (q : Nat) (t t1 t2 : Tok), n = A.length - q ∧ q < A.length ∧ (∀ i, A.length - q ≤ i → i < A.length → A.getD i 0 = B.getD i 0) ∧ m₁ (Str.ofString "a") = some (.str (wd A) t1) ∧ m₁ (Str.ofString "b") = some (.str (wd B) t2) ∧ m₁ (Str.ofString "max_cost") = some (.int 12 tc) ∧ m₁ (Str.ofString "post") = some (.int (-(q : Int)) t)) (n₀ := A.length) F5 N5 ⟨rfl, 0, _, _, _, rfl, hApos, (fun i q r => absurd r (by omega)), rfl, rfl, rfl, rfl⟩ ?_
        rintro n m₁ _ h₂ tk₂ F2 N2 ⟨rfl, q, t, t1, t2, rfl, hq, hall, e1, e2, e3, e4⟩
        replace F2 := frBy F2 (sy (sy (sy (sy rfl e4) e3) e2) e1)
        clear F5 N5 e1 e2 e3 e4
        rcases Nat.eq_zero_or_pos q with h0 | h0
        · subst h0
          dsimp only
          walk_at "go"
          · with_reducible rename ((Txt.item _ _ == Txt.item _ _) = true) => e
            have e' := items_back (la := A) (lb := B) hq hAB
            rw [e'] at e
            rename Fr _ _ _ _ => F5
            rename News _ _ _ _ => N5
            have e := of_decide_eq_true e
            have hA1 : A.length ≠ 1 := fun q => hA0 (by rw [q] at e; exact e)
            exact WhileStep.intro F5 N5 (n' := A.length - 1) (by omega) ⟨rfl, 1, _, _, _, rfl, by omega, fun i q r => by
              have : i = A.length - 1 - 0 := by omega
              rw [this]; exact e, rfl, rfl, rfl, iv (by omega)⟩
          · with_reducible rename ((Txt.item _ _ == Txt.item _ _) = false) => e
            rename Fr _ _ _ _ => F5
            rename News _ _ _ _ => N5
            exact Cut.mk F5 N5 ⟨rfl, 0, _, _, _, hq, hall, rfl, rfl, rfl, rfl⟩
          · exfalso; omega
          · exfalso; omega
        · have ca := slice_cut (l := A) h0 (by omega)
          have cb := slice_cut (l := B) h0 (by omega)
          have na : (wd (A.take (A.length - q))).length = A.length - q := by rw [wd_length, List.length_take]; omega
          have nb : (wd (B.take (B.length - q))).length = A.length - q := by rw [wd_length, List.length_take]; omega
          dsimp only
          walk_at "go"
          · with_reducible rename ((Txt.item _ _ == Txt.item _ _) = true) => e
            rw [items_back (la := A) (lb := B) hq hAB] at e
            rename Fr _ _ _ _ => F5
            rename News _ _ _ _ => N5
            have e := of_decide_eq_true e
            have hAq : A.length ≠ q + 1 := fun r => hA0 (by rw [r, show q + 1 - 1 - q = 0 by omega] at e; exact e)
            exact WhileStep.intro F5 N5 (n' := A.length - (q + 1)) (by omega) ⟨rfl, q + 1, _, _, _, rfl, by omega, fun i r1 r2 => by
              rcases Nat.lt_or_ge i (A.length - q) with r | r
              · have : i = A.length - 1 - q := by omega
                rw [this]; exact e
              · exact hall i r r2, rfl, rfl, rfl, iv (by omega)⟩
          · with_reducible rename ((Txt.item _ _ == Txt.item _ _) = false) => e
            rename Fr _ _ _ _ => F5
            rename News _ _ _ _ => N5
            exact Cut.mk F5 N5 ⟨rfl, q, _, _, _, hq, hall, rfl, rfl, rfl, rfl⟩
          all_goals (exfalso; first | omega | (with_reducible rename (((Txt.slice (wd B) none _).length : Int) = 0) => z; rw [cb, nb] at z; omega) | (with_reducible rename (((Txt.slice (wd A) none _).length : Int) = 0) => z; rw [ca, na] at z; omega))
      · rintro f s' ⟨rfl, h₂, tk₂, m₁, news₁, rfl, F2, N2, rfl, q, t, t1, t2, hq, hall, e1, e2, e3, e4⟩
        replace F2 := frBy F2 (sy (sy (sy (sy rfl e4) e3) e2) e1)
        clear e1 e2 e3 e4
        have hS := hSm (A.length - q) (by omega) hall
        clear hall hSm
        dsimp only
        walk1
        refine wpAny_mono (Q := Cut g L' (fun m' nw => nw = [] ∧ ∃ (t t1 t2 : Tok), m' (Str.ofString "a") = some (.str (wd (A.take (A.length - q))) t1) ∧ m' (Str.ofString "b") = some (.str (wd B) t2) ∧ m' (Str.ofString "max_cost") = some (.int 12 tc) ∧ m' (Str.ofString "post") = some (.int (-(q : Int)) t)) s) ?_ ?_ (fun _ _ e => e)
        · rcases Nat.eq_zero_or_pos q with h0 | h0
          · subst h0
            walk_at "go"
            · rename Fr _ _ _ _ => F5
              rename News _ _ _ _ => N5
              exact Cut.mk F5 N5 ⟨rfl, _, _, _, by rw [Nat.sub_zero, List.take_length]; rfl, rfl, rfl, rfl⟩
          · have ca := slice_cut (l := A) h0 (by omega)
            walk_at "go"
            · rename Fr _ _ _ _ => F5
              rename News _ _ _ _ => N5
              rw [ca] at F5
              exact Cut.mk F5 N5 ⟨rfl, _, _, _, rfl, rfl, rfl, rfl⟩
            all_goals (exfalso; omega)
        rintro f s' ⟨rfl, h₂, tk₂, m₁, news₁, rfl, F2, N2, rfl, t, t1, t2, e1, e2, e3, e4⟩
        replace F2 := frBy F2 (sy (sy (sy (sy rfl e4) e3) e2) e1)
        clear e1 e2 e3 e4
        dsimp only
        walk1
        refine wpAny_mono (Q := Cut g L' (fun m' nw => nw = [] ∧ ∃ (t1 t2 : Tok), m' (Str.ofString "a") = some (.str (wd (A.take (A.length - q))) t1) ∧ m' (Str.ofString "b") = some (.str (wd (B.take (A.length - q))) t2) ∧ m' (Str.ofString "max_cost") = some (.int 12 tc)) s) ?_ ?_ (fun _ _ e => e)
        · rcases Nat.eq_zero_or_pos q with h0 | h0
          · subst h0
            walk_at "go"
            · rename Fr _ _ _ _ => F5
              rename News _ _ _ _ => N5
              exact Cut.mk F5 N5 ⟨rfl, _, _, rfl, by rw [Nat.sub_zero, hAB, List.take_length]; rfl, rfl⟩
          · have cb := slice_cut (l := B) h0 (by omega)
            walk_at "go"
            · rename Fr _ _ _ _ => F5
              rename News _ _ _ _ => N5
              rw [cb, ← hAB] at F5
              exact Cut.mk F5 N5 ⟨rfl, _, _, rfl, rfl, rfl⟩
            all_goals (exfalso; omega)
        rintro f s' ⟨rfl, h₂, tk₂, m₁, news₁, rfl, F2, N2, rfl, t1, t2, e1, e2, e3⟩
        have lA : (A.take (A.length - q)).length = A.length - q := by rw [List.length_take]; omega
        have lB : (B.take (A.length - q)).length = A.length - q := by rw [List.length_take]; omega
        refine lev_tail G Sg rfl (by show dp + 1 + 1 < _; omega) (by show un + 3 + 20 < _; omega) F2 (by omega) (by omega) (by omega) (hApt.take _) e1 e2 e3 ?_
        intro h' tk t m' F'
        dsimp only
        rw [lA, hS]
        exact h _ _ _ (stays_of Kg F')
end
-- M6
section
variable {prog : Program} {w : World} {A : Around} {E : Value → Shared → Prop} {s : Shared} {b₀ : Heap} {Q : Value → Shared → Prop} {p : Program} {loose : List Str} {mean : ExcName → Option Value} {mg mb : Str → Option Value}

theorem tree_spec {l : Addr} {us : List Value} {ns : List Int} {N : Nat} {tN : Tok} (G : Okay w p loose mean mg mb b₀) (S : b₀.StaysIn s.heap) (hh : A.handled = none) (hd : A.depth + 1 < recursionLimit) (hu : A.units + 20 < cLine)
    (hl : s.heap.IsList l us.toArray) (hI : IntsAre us ns) (hz : ns.length ≤ 63) (hN : N = 6 ∨ N = 7)
    (h : ∀ h' tk T P (ps : List (List Nat)) (hv : List Nat) (vs : List Value) (n : Nat) (t : Tok) (o : Obj), s.heap.StaysIn h' → s.heap.get? T = none → s.heap.get? P = none → T ≠ P → IsTree N ps → hv.length ≤ 6 → StrsAre vs (ps.map wd) →
      h'.get? P = some (listOf vs.toArray n) → o.cls = .type "tuple" → o.data = .seq #[.ref P, .str (wd hv) t] 0 → h'.get? T = some o → Q (.ref T) { s with heap := h', toks := tk }) :
    wpAny (model prog w) A (call (.ref 95) [.ref l, .int N tN]) Q E s := by
  obtain ⟨_, dp, fr, gd, un⟩ := A
  dsimp only at hh hd hu; subst hh
  refine' call_me [] [(Str.ofString "script", .ref l), (Str.ofString "size", .int N tN)] S G.X G.T.nolimit ?k6 ?k7 ?k8 ?k9 ?kB ?c5 ?c2 ?c3 ?c4 ?hn ?_
  walk_at "enter"
  case hn => exact fun _ h => nomatch h
  intro g L' h₁ Sg Kg gS hL F' N' lt'
  have X' := G.X.keeps Sg
  have T' := G.T.keeps Sg
  have hlg := Kg.list hl (fun q => nomatch q)
  have hN' : True → N = 6 ∨ N = 7 := fun _ => hN
  clear hN
  walk_at "gof"
  refine newList_K (by k_asm) (by k_asm) ?_
  intro D h2 F2 N2 lD
  dsimp only
  obtain ⟨dvs, N2, hdi⟩ : ∃ dvs : List Value, News g L' h2 [(D, listOf dvs.toArray 0)] ∧ ∀ j, j < 6 → ∃ a t, dvs[j]? = some (Value.int a t) := ⟨[_, _, _, _, _, _], N2, fun j hj => by
    have : j = 0 ∨ j = 1 ∨ j = 2 ∨ j = 3 ∨ j = 4 ∨ j = 5 := by omega
    rcases this with rfl | rfl | rfl | rfl | rfl | rfl <;> exact ⟨_, _, rfl⟩⟩
  walk_at "gof"
  refine newList_K (by k_asm) (by k_asm) ?_
  intro P h3 F3 N3 lP
  replace lP : @LT.lt Nat _ D P := lP _ (.head _)
  dsimp only
  walk_at "gof"
  rename Fr _ _ _ _ => F4
  refine For_invVF F4 rfl rfl ?_
  walk_at "gof"
  rename IsRange _ _ _ _ _ _ _ _ => hR
  rename Fr _ _ _ _ => F5
  rename News _ _ _ _ => N5
  have hN := hN' trivial
  clear hN'
  obtain ⟨M, rfl⟩ : ∃ M, N = M + 1 := ⟨N - 1, by omega⟩
  have hM : M ≤ 6 := by omega
  refine iter_range (n := M) (fun i m' nw => ∃ (vs : List Value) (n : Nat) (ps : List (List Nat)) (hv : List Nat) (t1 : Tok), nw = [(P, listOf vs.toArray n), (D, listOf dvs.toArray 0)] ∧ StrsAre vs (ps.map wd) ∧ IsTree (i + 1) ps ∧ hv.length ≤ i ∧ m' (Str.ofString "script") = some (.ref l) ∧ m' (Str.ofString "drawn") = some (.ref D) ∧ m' (Str.ofString "paths") = some (.ref P) ∧ m' (Str.ofString "heavy") = some (.str (wd hv) t1)) rfl hR (range_small11 (by omega)) (range_size11 _) F5 N5 ⟨[_], 0, [[]], [], _, rfl, .cons _ _ .nil, IsTree.start, Nat.le_refl _, rfl, rfl, rfl, rfl⟩ ?_ ?_
  · clear hR F5 N5
    rintro i t m₁ _ h4 tk4 I o hi hlt hadr ⟨vs, n, ps, hv, t1, rfl, hS, hT, hvl, e1, e2, e3, e4⟩ F6 N6
    replace F6 : Fr g L' h4 _ := F6
    replace N6 : News g L' h4 _ := N6
    have ek : (1 : Int) + (i : Int) * 1 = ((i + 1 : Nat) : Int) := by omega
    rw [ek] at F6
    replace F6 := frTop F6 (sy (sy (sy (sy rfl e4) e3) e2) e1)
    clear e1 e2 e3 e4 ek
    have hIP : @LT.lt Nat _ P I := hlt _ (.head _)
    walk_at "gof"
    obtain ⟨a, ta, ea⟩ := hdi i (by omega)
    have hid : i < dvs.length := (List.getElem?_eq_some_iff.mp ea).1
    have eki : (((i + 1 : Nat) : Int) - 1).toNat = i := by omega
    rename News _ _ _ _ => N7
    refine item_list ⟨_, (N7 (D, listOf dvs.toArray 0) (by simp)).1, rfl, _, rfl⟩ (seqIndex_of (by omega) (by omega)) (by rw [eki]; exact ea) (by omega) (by omega) ?_
    walk_at "go2"
    rename Fr _ _ _ _ => F8
    rename News _ _ _ _ => N8
    refine wpAny_mono (Q := Cut g L' (fun m' nw => nw = [(I, o), (P, listOf vs.toArray n), (D, listOf dvs.toArray 0)] ∧ ∃ (x : Int) (t1 t2 t3 : Tok), m' (Str.ofString "script") = some (.ref l) ∧ m' (Str.ofString "drawn") = some (.ref D) ∧ m' (Str.ofString "paths") = some (.ref P) ∧ m' (Str.ofString "heavy") = some (.str (wd hv) t1) ∧ m' (Str.ofString "x") = some (.int x t2) ∧ m' (Str.ofString "k") = some (.int ((i + 1 : Nat) : Int) t3)) s) ?_ ?_ (fun _ _ e => e)
    · walk_at "gof"
      · with_reducible rename (((i + 1 : Nat) : Int) ≤ _) => hk
        obtain ⟨v, tv, ev⟩ : ∃ (v : Int) (tv : Tok), us[i]? = some (.int v tv) := by
          obtain ⟨t, e⟩ := hI.get i ns[i] (by simp)
          exact ⟨_, t, e⟩
        have hiu : i < us.length := (List.getElem?_eq_some_iff.mp ev).1
        rename Fr _ _ _ _ => F9
        refine item_list (Fr.list F9 hlg) (seqIndex_of (by omega) (by omega)) (by rw [eki]; exact ev) (by omega) (by omega) ?_
        walk_at "gof"
        rename Fr _ _ _ _ => F10
        rename News _ _ _ _ => N10
        exact Cut.mk F10 N10 ⟨rfl, _, _, _, _, rfl, rfl, rfl, rfl, rfl, rfl⟩
      · rename Fr _ _ _ _ => F10
        rename News _ _ _ _ => N10
        exact Cut.mk F10 N10 ⟨rfl, _, _, _, _, rfl, rfl, rfl, rfl, rfl, rfl⟩
    · clear F8 N8 ea hid eki
      rintro f s' ⟨rfl, h5, tk5, m₂, _, rfl, F9, N9, rfl, x, t1, t2, t3, e1, e2, e3, e4, e5, e6⟩
      replace F9 := frBy F9 (sy (sy (sy (sy (sy (sy rfl e6) e5) e4) e3) e2) e1)
      clear e1 e2 e3 e4 e5 e6
      have hlet : Txt.item (Str.ofString "abcdef") (((i + 1 : Nat) : Int) - 1) = wd [97 + i] := by
        rw [show ((i + 1 : Nat) : Int) - 1 = (i : Int) by omega]
        exact letter_at (by omega)
      have hkpos : (0 : Int) < ((i + 1 : Nat) : Int) := by omega
      dsimp only
      walk_at "gof"
      obtain ⟨y, hy, ey⟩ := fmod_at (x := x) (k := 5040) (by omega)
      have ey' : x.fmod 5040 = (y : Int) := ey
      obtain ⟨j, hj, ej⟩ := fmod_at (x := (y : Int)) (k := i + 1) (by omega)
      rename Fr _ _ _ _ => F10
      rename News _ _ _ _ => N10
      rw [ey', hlet] at F10
      rw [ey', ej]
      have hTl := hT.len
      obtain ⟨tp, ep⟩ := strs_get hS (j := j) (by omega)
      have hjv : j < vs.length := (List.getElem?_eq_some_iff.mp ep).1
      refine item_list ⟨_, (N10 (P, listOf vs.toArray n) (by simp)).1, rfl, _, rfl⟩ (seqIndex_of (by omega) (by omega)) (by rw [Int.toNat_natCast]; exact ep) (by omega) (by omega) ?_
      have hpl : (ps.getD j []).length ≤ 6 := Nat.le_trans (hT.short j _ (by simp [List.getD_eq_getElem?_getD, show j < ps.length by omega])) (by omega)
      have hpl' : (wd (ps.getD j [])).length ≤ 6 := by rw [wd_length]; exact hpl
      have h1l : (wd [97 + i]).length = 1 := wd_length _
      have hvl' : (wd hv).length ≤ 6 := by rw [wd_length]; omega
      walk_at "gof"
      rw [wd_append]
      rename Fr _ _ _ _ => F11
      rename News _ _ _ _ => N11
      have hvlen : vs.length = i + 1 := by rw [hS.length, List.length_map, hTl]
      refine append_K F11 N11 (Upd.tail (neN (by dsimp only; omega)) (Upd.head (fun p hp => by cases List.mem_singleton.mp hp; exact neN (by dsimp only; omega)))) ?_ (Nat.le_trans (by simp; omega : _ ≤ 1000) (by decide))
      intro h6 F12 N12
      have hS' := fun t => strs_push (t := t) hS (p := ps.getD j [] ++ [97 + i])
      simp only [List.push_toArray] at N12
      have hT' := hT.more (j := j) (by omega) hj
      rw [show 96 + (i + 1) = 97 + i by omega] at hT'
      walk_at "gof"
      refine floordiv_int (by omega) ?_ (Or.inl (PyProof.noPylong_small (by omega)))
      walk_at "gof"
      · rw [wd_append] at *
        rename Fr _ _ _ _ => F13
        rename News _ _ _ _ => N13
        exact Turn.next F13 N13 rfl ⟨_, _, _, hv ++ [97 + i], _, rfl, hS' _, hT', by rw [List.length_append, List.length_singleton]; omega, rfl, rfl, rfl, rfl⟩
      · rename Fr _ _ _ _ => F13
        rename News _ _ _ _ => N13
        exact Turn.next F13 N13 rfl ⟨_, _, _, hv, _, rfl, hS' _, hT', by omega, rfl, rfl, rfl, rfl⟩
  · clear hR F5 N5
    rintro m₁ _ h4 tk4 hadr ⟨vs, n, ps, hv, t1, rfl, hS, hT, hvl, e1, e2, e3, e4⟩ F6 N6
    replace F6 : Fr g L' h4 _ := F6
    replace N6 : News g L' h4 _ := N6
    replace F6 := frBy F6 (sy (sy (sy (sy rfl e4) e3) e2) e1)
    clear e1 e2 e3 e4
    walk_at "gof"
    rename News _ _ _ _ => N9
    rename Fr _ _ _ _ => F9
    have g1 := (N9 _ (.head _)).1
    have g2 := (N9 _ (.tail _ (.head _))).1
    exact h _ _ _ P ps hv vs n t1 _ (stays_of Kg F9) (new_of Kg N9 (.head _) (fun q => nomatch q)) (new_of Kg N9 (.tail _ (.head _)) (fun q => nomatch q)) (fun e => by
      dsimp only at g1 g2
      rw [e, g2] at g1
      have := congrArg (fun o : Option Obj => o.map (·.cls)) g1
      simp at this) hT (by omega) hS g2 rfl rfl g1
end
-- M7
section
variable {prog : Program} {w : World} {A : Around} {E : Value → Shared → Prop} {s : Shared} {b₀ : Heap} {Q : Value → Shared → Prop} {p : Program} {loose : List Str} {mean : ExcName → Option Value} {mg mb : Str → Option Value}

/-- what the dict of words says -/
def Words (M : Nat) (hv : List Nat) (ps : List (List Nat)) (n : Nat) (kvs : List (Str × Value)) : Prop := ∀ j, j < n → ∃ t, valueAt kvs (wd (ps.getD j [])) = some (.str (wd (wordOf hv (ps.getD j []) M)) t)

theorem words_spec {P : Addr} {vs : List Value} {ps : List (List Nat)} {hv : List Nat} {M N : Nat} {th tN : Tok} (G : Okay w p loose mean mg mb b₀) (S : b₀.StaysIn s.heap) (hh : A.handled = none) (hd : A.depth + 1 < recursionLimit) (hu : A.units + 20 < cLine)
    (hl : s.heap.IsList P vs.toArray) (hS : StrsAre vs (ps.map wd)) (hps : ps.length ≤ 7) (hpl : ∀ q ∈ ps, q.length ≤ 6) (hhv : hv.length ≤ 6) (hN : N = M + 1) (hM : M ≤ 6)
    (h : ∀ h' tk W (o : Obj) (kvs : List (Str × Value)), s.heap.StaysIn h' → s.heap.get? W = none → o.IsDictOf (strKind prog w) kvs → Words M hv ps ps.length kvs → h'.get? W = some o → Q (.ref W) { s with heap := h', toks := tk }) :
    wpAny (model prog w) A (call (.ref 102) [.ref P, .str (wd hv) th, .int N tN]) Q E s := by
  obtain ⟨_, dp, fr, gd, un⟩ := A
  dsimp only at hh hd hu; subst hh
  refine' call_me [] [(Str.ofString "paths", .ref P), (Str.ofString "heavy", .str (wd hv) th), (Str.ofString "size", .int N tN)] S G.X G.T.nolimit ?k6 ?k7 ?k8 ?k9 ?kB ?c5 ?c2 ?c3 ?c4 ?hn ?_
  walk_at "enter"
  case hn => exact fun _ h => nomatch h
  intro g L' h₁ Sg Kg gS hL F' N' lt'
  have X' := G.X.keeps Sg
  have T' := G.T.keeps Sg
  have hlg := Kg.list hl (fun q => nomatch q)
  have hNM : ((N : Int) - 1) = (M : Int) := by omega
  replace hM : True → M ≤ 6 := fun _ => hM
  clear hN
  walk_at "go"
  refine newDict_K (by k_asm) (by k_asm) T'.nolimit ?_
  intro W h2 ow F2 N2 _ low hdw _ _ _
  dsimp only
  walk_at "go"
  rename Fr _ _ _ _ => F3
  refine For_invVF F3 rfl rfl ?_
  walk_at "go"
  rename Fr _ _ _ _ => F4
  rename News _ _ _ _ => N4
  have hvl : vs.length = ps.length := by rw [hS.length, List.length_map]
  refine iter_base (fun i m' nw => ∃ (o : Obj) (kvs : List (Str × Value)), nw = [(W, o)] ∧ o.IsDictOf (strKind prog w) kvs ∧ kvs.length ≤ i ∧ Words M hv ps i kvs ∧ m' (Str.ofString "paths") = some (.ref P) ∧ m' (Str.ofString "heavy") = some (.str (wd hv) th) ∧ m' (Str.ofString "size") = some (.int N tN) ∧ m' (Str.ofString "words") = some (.ref W)) rfl hlg F4 N4 ⟨ow, [], rfl, hdw, Nat.le_refl _, (fun j q => absurd q (Nat.not_lt_zero j)), rfl, rfl, rfl, rfl⟩ ?_ ?_
  · clear F4 N4
    rintro i v m₁ _ h4 tk4 I o hiv hlt hadr ⟨ow, kvs, rfl, hdk, hkl, hW, e1, e2, e3, e4⟩ F6 N6
    replace F6 : Fr g L' h4 _ := F6
    replace N6 : News g L' h4 _ := N6
    have hil : i < ps.length := by rw [← hvl]; exact (List.getElem?_eq_some_iff.mp hiv).1
    obtain ⟨tp, ep⟩ := strs_get hS hil
    rw [ep] at hiv
    cases hiv
    replace F6 := frTop F6 (sy (sy (sy (sy rfl e4) e3) e2) e1)
    clear e1 e2 e3 e4
    have hIW : @LT.lt Nat _ W I := hlt _ (.head _)
    have hql : (wd (ps.getD i [])).length ≤ 6 := by
      rw [wd_length]
      exact hpl _ (by simp [List.getD_eq_getElem?_getD, hil])
    have hhl : (wd hv).length ≤ 6 := by rw [wd_length]; exact hhv
    generalize hq : ps.getD i [] = q at F6 hql
    walk_at "go"
    rename Fr _ _ _ _ => F7
    refine For_invVF F7 rfl rfl ?_
    walk_at "go"
    rename IsRange _ _ _ _ _ _ _ _ => hR
    rename Fr _ _ _ _ => F8
    rename News _ _ _ _ => N8
    rw [hNM] at hR
    have hM6 := hM trivial
    refine iter_range (n := M) (fun k m' nw => ∃ (t : Tok), nw = [(I, o), (W, ow)] ∧ m' (Str.ofString "paths") = some (.ref P) ∧ m' (Str.ofString "heavy") = some (.str (wd hv) th) ∧ m' (Str.ofString "size") = some (.int N tN) ∧ m' (Str.ofString "words") = some (.ref W) ∧ m' (Str.ofString "path") = some (.str (wd q) tp) ∧ m' (Str.ofString "word") = some (.str (wd (wordOf hv q k)) t)) rfl hR (range_small01 (by omega)) (range_size01 _) F8 N8 ⟨_, rfl, rfl, rfl, rfl, rfl, rfl, rfl⟩ ?_ ?_
    · clear F8 N8 hR
      rintro k tk m₂ _ h5 tk5 I2 o2 hk hlt2 hadr2 ⟨t, rfl, e1, e2, e3, e4, e5, e6⟩ F9 N9
      replace F9 : Fr g L' h5 _ := F9
      replace N9 : News g L' h5 _ := N9
      simp only [Int.zero_add, Int.mul_one] at F9
      replace F9 := frTop F9 (sy (sy (sy (sy (sy (sy rfl e6) e5) e4) e3) e2) e1)
      clear e1 e2 e3 e4 e5 e6
      have hI2 : @LT.lt Nat _ I I2 := hlt2 _ (.head _)
      have hlet := letter_at (i := k) (by omega)
      have hcap := capital_at (i := k) (by omega)
      have hfig := figure_at (i := k) (by omega)
      have hwl : (wd (wordOf hv q k)).length = k := by rw [wd_length, wordOf_length]
      have hsg := wordOf_succ hv q k
      walk_at "go2"
      rename Fr _ _ _ _ => F10
      rw [hlet] at F10
      have hl1 : (wd [97 + k]).length = 1 := wd_length _
      walk_at "go"
      · with_reducible rename ((Builtin.Str.occurrences _ _ _ _ _).isEmpty = true) => ho
        rw [occ_iff] at ho
        have hc : ¬ (97 + k) ∈ q := by simpa using ho
        have hs : sign hv q k = 97 + k := by unfold sign; rw [if_neg hc]
        rename Fr _ _ _ _ => F11
        rename News _ _ _ _ => N11
        rw [wd_append, ← hs, ← hsg] at F11
        exact Turn.next F11 N11 rfl ⟨_, rfl, rfl, rfl, rfl, rfl, rfl, rfl⟩
      · with_reducible rename ((Builtin.Str.occurrences (wd q) _ _ _ _).isEmpty = false) => ho
        with_reducible rename ((Builtin.Str.occurrences (wd hv) _ _ _ _).isEmpty = true) => ho2
        rw [occ_iff] at ho ho2
        have hc : (97 + k) ∈ q := by simpa using ho
        have hc2 : ¬ (97 + k) ∈ hv := by simpa using ho2
        have hs : sign hv q k = 65 + k := by unfold sign; rw [if_pos hc, if_neg hc2]
        rename Fr _ _ _ _ => F11
        rename News _ _ _ _ => N11
        rw [hcap, wd_append, ← hs, ← hsg] at F11
        exact Turn.next F11 N11 rfl ⟨_, rfl, rfl, rfl, rfl, rfl, rfl, rfl⟩
      · with_reducible rename ((Builtin.Str.occurrences (wd q) _ _ _ _).isEmpty = false) => ho
        with_reducible rename ((Builtin.Str.occurrences (wd hv) _ _ _ _).isEmpty = false) => ho2
        rw [occ_iff] at ho ho2
        have hc : (97 + k) ∈ q := by simpa using ho
        have hc2 : (97 + k) ∈ hv := by simpa using ho2
        have hs : sign hv q k = 49 + k := by unfold sign; rw [if_pos hc, if_pos hc2]
        rename Fr _ _ _ _ => F11
        rename News _ _ _ _ => N11
        rw [hfig, wd_append, ← hs, ← hsg] at F11
        exact Turn.next F11 N11 rfl ⟨_, rfl, rfl, rfl, rfl, rfl, rfl, rfl⟩
    · clear F8 N8 hR
      rintro m₂ _ h5 tk5 hadr2 ⟨t, rfl, e1, e2, e3, e4, e5, e6⟩ F9 N9
      replace F9 : Fr g L' h5 _ := F9
      replace N9 : News g L' h5 _ := N9
      replace F9 := frBy F9 (sy (sy (sy (sy (sy (sy rfl e6) e5) e4) e3) e2) e1)
      clear e1 e2 e3 e4 e5 e6
      walk_at "go"
      rename Fr _ _ _ _ => F10
      rename News _ _ _ _ => N10
      refine set_in F10 N10 (UpdF.tail (neN (by dsimp only; omega)) (UpdF.head (fun p hp => nomatch hp))) hdk (by omega) ?_
      intro h6 o6 F11 N11 hd6
      (try dsimp only at N11)
      walk_at "go"
      rename Fr _ _ _ _ => F12
      rename News _ _ _ _ => N12
      refine Turn.next F12 N12 rfl ⟨o6, _, rfl, hd6, Nat.le_trans (stored_length _ _ _) (by omega), fun j hj => ?_, rfl, rfl, rfl, rfl⟩
      rw [valueAt_stored]
      by_cases hjq : wd (ps.getD j []) = wd q
      · rw [if_pos hjq, wd_inj.mp hjq]
        exact ⟨_, rfl⟩
      · rw [if_neg hjq]
        refine hW j ?_
        rcases Nat.lt_succ_iff_lt_or_eq.mp hj with r | r
        · exact r
        · exact absurd (by rw [r, hq]) hjq
  · clear F4 N4
    rintro m₁ _ h4 tk4 hadr ⟨ow, kvs, rfl, hdk, hkl, hW, e1, e2, e3, e4⟩ F6 N6
    replace F6 : Fr g L' h4 _ := F6
    replace N6 : News g L' h4 _ := N6
    replace F6 := frBy F6 (sy (sy (sy (sy rfl e4) e3) e2) e1)
    rw [hvl] at hW
    walk_at "go"
    rename News _ _ _ _ => N9
    rename Fr _ _ _ _ => F9
    exact h _ _ W ow kvs (stays_of Kg F9) (new_of Kg N9 (.head _) (fun q => nomatch q)) hdk hW (N9 _ (.head _)).1
end
-- M8
section
variable {prog : Program} {w : World} {A : Around} {E : Value → Shared → Prop} {s : Shared} {b₀ : Heap} {Q : Value → Shared → Prop} {p : Program} {loose : List Str} {mean : ExcName → Option Value} {mg mb : Str → Option Value}

theorem way_core {p' q' : List Nat} {tp tq : Tok} {W T : Addr} {ow ot : Obj} {kw kt : List (Str × Value)} {M : Nat} {hv : List Nat} {wp wq : Tok} (G : Okay w p loose mean mg mb b₀) (S : b₀.StaysIn s.heap) (hh : A.handled = none) (hd : A.depth + 4 < recursionLimit) (hu : A.units + 60 < cLine)
    (hW : s.heap.get? W = some ow) (hdw : ow.IsDictOf (strKind prog w) kw) (vp : valueAt kw (wd p') = some (.str (wd (wordOf hv p' M)) wp)) (vq : valueAt kw (wd q') = some (.str (wd (wordOf hv q' M)) wq)) (hM : M ≤ 6)
    (hT : s.heap.get? T = some ot) (hb : b₀.get? T = none) (low : (T == sysModules) = false) (hdt : ot.IsDictOf (strKind prog w) kt) (hkl : kt.length ≤ 900) (htold : Told M hv kt) (hWT : W ≠ T)
    (hp : p'.length ≤ 6) (hq : q'.length ≤ 6) (hsp : 32 ∉ p') (hlt : ¬ q' < p')
    (h : ∀ h' tk t (o : Obj) (kt' : List (Str × Value)), KeepsBut [T] s.heap h' → h'.get? T = some o → o.IsDictOf (strKind prog w) kt' → Told M hv kt' → kt'.length ≤ kt.length + 1 → Q (.int (way M hv p' q') t) { s with heap := h', toks := tk }) :
    wpAny (model prog w) A (call (.ref 109) [.str (wd p') tp, .str (wd q') tq, .ref W, .ref T]) Q E s := by
  obtain ⟨_, dp, fr, gd, un⟩ := A
  dsimp only at hh hd hu; subst hh
  refine' call_me [(T, ot)] [(Str.ofString "one", .str (wd p') tp), (Str.ofString "other", .str (wd q') tq), (Str.ofString "words", .ref W), (Str.ofString "told", .ref T)] S G.X G.T.nolimit ?k6 ?k7 ?k8 ?k9 ?kB ?c5 ?c2 ?c3 ?c4 ?hn ?_
  walk_at "enter"
  case hn => intro p hp; cases List.mem_singleton.mp hp; exact ⟨hT, hb⟩
  intro g L' h₁ Sg Kg gS hL F' N' lt'
  have X' := G.X.keeps Sg
  have T' := G.T.keeps Sg
  have hWg : g.get? W = some ow := Kg W ow hW (by simpa using hWT)
  have lp : (wd p').length ≤ 6 := by rw [wd_length]; exact hp
  have lq : (wd q').length ≤ 6 := by rw [wd_length]; exact hq
  have hspc : Str.ofString " " = wd [32] := by decide +kernel
  walk_at "go"
  have hkey : wd p' ++ Str.ofString " " ++ wd q' = wd (key p' q') := by rw [hspc, wd_append, wd_append]; rfl
  rename Fr _ _ _ _ => F1
  rename News _ _ _ _ => N1
  rw [hkey] at F1 ⊢
  refine notin_in low (N1 _ (.head _)).1 hdt ?_
  cases hv1 : valueAt kt (wd (key p' q')) with
  | some v =>
    obtain ⟨t9, rfl⟩ := htold p' q' hsp v hv1
    simp only [Option.isSome_some, Bool.not_true]
    refine wp_id ?_
    walk_at "go"
    rename Fr _ _ _ _ => F2
    rename News _ _ _ _ => N2
    refine item_in (N2 _ (.head _)).1 hdt hv1 ?_
    walk_at "go"
    exact h _ _ _ ot kt (keeps_of Kg (by assumption)) (N2 _ (.head _)).1 hdt htold (by omega)
  | none =>
    simp only [Option.isSome_none, Bool.not_false]
    refine wp_id ?_
    walk_at "go"
    rename Fr _ _ _ _ => F2
    refine item_in (F2.keep _ _ hWg) hdw vp ?_
    dsimp only
    walk_at "go"
    rename Fr _ _ _ _ => F3
    refine item_in (F3.keep _ _ hWg) hdw vq ?_
    dsimp only
    walk_at "go"
    rename Fr _ _ _ _ => F4
    rename News _ _ _ _ => N4
    refine lev_spec G (fun b o e => F4.keep b o (Sg b o e)) rfl (by show dp + 1 + 2 < _; omega) (by show un + 3 + 40 < _; omega) (by rw [wordOf_length]; exact hM) (by rw [wordOf_length, wordOf_length]) (words_apart hv p' q' hM) ?_
    intro h5 tk5 t5 K5
    rw [way_words M hM]
    dsimp only
    replace F4 := Fr.keeps F4 K5
    replace N4 := News.grown N4 K5
    walk_at "go"
    rename Fr _ _ _ _ => F5
    rename News _ _ _ _ => N5
    refine set_in F5 N5 (UpdF.head (fun p hp => nomatch hp)) hdt (by omega) ?_
    intro h6 o6 F6 N6 hd6
    (try dsimp only at N6)
    walk_at "go"
    rename Fr _ _ _ _ => F7
    rename News _ _ _ _ => N7
    refine item_in (N7 _ (.head _)).1 hd6 (by rw [valueAt_stored, if_pos rfl]) ?_
    walk_at "go"
    exact h _ _ _ o6 _ (keeps_of Kg (by assumption)) (N7 _ (.head _)).1 hd6 (htold.more hsp _) (stored_length _ _ _)

theorem lt_asymm' {a b : List Nat} (h : a < b) : ¬ b < a := List.lt_asymm h

theorem way_spec {p' q' : List Nat} {tp tq : Tok} {W T : Addr} {ow ot : Obj} {kw kt : List (Str × Value)} {M : Nat} {hv : List Nat} {wp wq : Tok} (G : Okay w p loose mean mg mb b₀) (S : b₀.StaysIn s.heap) (hh : A.handled = none) (hd : A.depth + 5 < recursionLimit) (hu : A.units + 70 < cLine)
    (hW : s.heap.get? W = some ow) (hdw : ow.IsDictOf (strKind prog w) kw) (vp : valueAt kw (wd p') = some (.str (wd (wordOf hv p' M)) wp)) (vq : valueAt kw (wd q') = some (.str (wd (wordOf hv q' M)) wq)) (hM : M ≤ 6)
    (hT : s.heap.get? T = some ot) (hb : b₀.get? T = none) (low : (T == sysModules) = false) (hdt : ot.IsDictOf (strKind prog w) kt) (hkl : kt.length ≤ 900) (htold : Told M hv kt) (hWT : W ≠ T)
    (hp : p'.length ≤ 6) (hq : q'.length ≤ 6) (hsp : 32 ∉ p') (hsq : 32 ∉ q')
    (h : ∀ h' tk t (o : Obj) (kt' : List (Str × Value)), KeepsBut [T] s.heap h' → h'.get? T = some o → o.IsDictOf (strKind prog w) kt' → Told M hv kt' → kt'.length ≤ kt.length + 1 → Q (.int (way M hv p' q') t) { s with heap := h', toks := tk }) :
    wpAny (model prog w) A (call (.ref 109) [.str (wd p') tp, .str (wd q') tq, .ref W, .ref T]) Q E s := by
  by_cases hlt : q' < p'
  · obtain ⟨_, dp, fr, gd, un⟩ := A
    dsimp only at hh hd hu; subst hh
    refine' call_me [(T, ot)] [(Str.ofString "one", .str (wd p') tp), (Str.ofString "other", .str (wd q') tq), (Str.ofString "words", .ref W), (Str.ofString "told", .ref T)] S G.X G.T.nolimit ?k6 ?k7 ?k8 ?k9 ?kB ?c5 ?c2 ?c3 ?c4 ?hn ?_
    walk_at "enter"
    case hn => intro p hp; cases List.mem_singleton.mp hp; exact ⟨hT, hb⟩
    intro g L' h₁ Sg Kg gS hL F' N' lt'
    have X' := G.X.keeps Sg
    have T' := G.T.keeps Sg
    have hWg : g.get? W = some ow := Kg W ow hW (by simpa using hWT)
    walk_at "go"
    rename Fr _ _ _ _ => F1
    rename News _ _ _ _ => N1
    refine way_core G (fun b o e => F1.keep b o (Sg b o e)) rfl (by show dp + 1 + 4 < _; omega) (by show un + 3 + 60 < _; omega) (F1.keep _ _ hWg) hdw vq vp hM (N1 _ (.head _)).1 hb low hdt hkl htold hWT hq hp hsq (lt_asymm' hlt) ?_
    intro h' tk t o kt' K' hT' hd' ht' hl'
    rw [way_symm]
    dsimp only
    exact h h' tk t o kt' (fun b x e q => K' b x (F1.keep b x (Kg b x e q)) q) hT' hd' ht' hl'
  · exact way_core G S hh (by omega) (by omega) hW hdw vp vq hM hT hb low hdt hkl htold hWT hp hq hsp hlt h
end
-- M9
section
variable {prog : Program} {w : World} {A : Around} {E : Value → Shared → Prop} {s : Shared} {b₀ : Heap} {Q : Value → Shared → Prop} {p : Program} {loose : List Str} {mean : ExcName → Option Value} {mg mb : Str → Option Value}
section
variable {h₀ : Heap} {L : Addr} {m : Str → Option Value} {env : Env} {ct elt : Expr} {x : Str} {scope : Scope} {cl : List (Str × Addr)} {S : List (Addr × Obj) → Prop} {P : Nat → Value → Prop} {Fin : List Value → List (Addr × Obj) → Prop} {news : List (Addr × Obj)}
theorem end_mono {s₁ : Shared} {I C D : Addr} {oI oC oD : Obj} {r1 r2 : Value → List (Addr × Obj) → Prop} {y : Value} {s₂ : Shared} (h : LCg.CompEnd h₀ L m s₁ I oI C oC D oD S r1 y s₂) (k : ∀ nw, r1 y nw → r2 y nw) : LCg.CompEnd h₀ L m s₁ I oI C oC D oD S r2 y s₂ :=
  let ⟨h', tk, n', e, F, N, o, hs, r⟩ := h
  ⟨h', tk, n', e, F, N, o, hs, k _ r⟩
theorem turnsT {J : Nat → List Value → Prop} {n : Nat} (fin : ∀ ys, J n ys → Fin ys news)
    (turn : ∀ i ys v I oI C oC D m₂ h tk (E' : Value → Shared → Prop), i < n → J i ys → P i v → LCg.NsObj oC m₂ → m₂ x = some v → Fr h₀ L h m → News h₀ L h ((I, oI) :: (C, oC) :: (D, LCg.lst ys) :: news) → LCg.Off3 I C D news →
      wpAny (model prog w) A (isTrue ct (compEnvC scope cl C env) (eval ct (compEnvC scope cl C env))) (fun ok s' => if ok = true then
        wpAny (model prog w) A (eval elt (compEnvC scope cl C env)) (LCg.CompEnd h₀ L m { s with heap := h, toks := tk } I oI C oC D (LCg.lst ys) S (fun y nw => nw = news ∧ J (i + 1) (ys ++ [y]))) E' s'
        else LCg.CompEnd h₀ L m { s with heap := h, toks := tk } I oI C oC D (LCg.lst ys) S (fun _ nw => nw = news ∧ J (i + 1) ys) Value.none s') E' { s with heap := h, toks := tk }) :
    ∀ (k i : Nat) (ys : List Value), i + k = n → J i ys → LCt.CompRestT prog w A h₀ L m env ct elt x scope cl s S P Fin k i ys news
  | 0, i, ys, e, j => LCt.CompRestT.zero (fin ys (by rw [← e]; exact j))
  | k + 1, i, ys, e, j => LCt.CompRestT.succ fun v I oI C oC D m₂ h tk E' hP hC hx F N off _ =>
    wpAny_mono (turn i ys v I oI C oC D m₂ h tk E' (by omega) j hP hC hx F N off) (fun ok s' q => by
      cases ok with
      | true =>
        rw [if_pos rfl] at q ⊢
        refine wpAny_mono q (fun y s₂ q2 => end_mono q2 ?_) fun _ _ e => e
        rintro nw ⟨e2, j'⟩
        rw [e2]
        exact turnsT fin turn k (i + 1) _ (by omega) j'
      | false =>
        rw [if_neg Bool.false_ne_true] at q ⊢
        refine end_mono q ?_
        rintro nw ⟨e2, j'⟩
        rw [e2]
        exact turnsT fin turn k (i + 1) _ (by omega) j') fun _ _ e => e
theorem turnsU {J : Nat → List Value → Prop} {n : Nat} (fin : ∀ ys, J n ys → Fin ys news)
    (turn : ∀ i ys v I oI C oC D m₂ h tk (E' : Value → Shared → Prop), i < n → J i ys → P i v → LCg.NsObj oC m₂ → m₂ x = some v → Fr h₀ L h m → News h₀ L h ((I, oI) :: (C, oC) :: (D, LCg.lst ys) :: news) → LCg.Off3 I C D news →
      wpAny (model prog w) A (eval elt (compEnvC scope cl C env)) (LCg.CompEnd h₀ L m { s with heap := h, toks := tk } I oI C oC D (LCg.lst ys) S (fun y nw => nw = news ∧ J (i + 1) (ys ++ [y]))) E' { s with heap := h, toks := tk }) :
    ∀ (k i : Nat) (ys : List Value), i + k = n → J i ys → LCg.CompRest prog w A h₀ L m env elt x scope cl s S P Fin k i ys news
  | 0, i, ys, e, j => LCg.CompRest.zero (fin ys (by rw [← e]; exact j))
  | k + 1, i, ys, e, j => LCg.CompRest.succ fun v I oI C oC D m₂ h tk E' hP hC hx F N off _ =>
    wpAny_mono (turn i ys v I oI C oC D m₂ h tk E' (by omega) j hP hC hx F N off) (fun y s₂ q2 => by
        refine end_mono q2 ?_
        rintro nw ⟨e2, j'⟩
        rw [e2]
        exact turnsU fin turn k (i + 1) _ (by omega) j') fun _ _ e => e
end
def below (ps : List (List Nat)) (ns : List Int) (k : Nat) : Nat := (ns.filter fun n => decide (97 + k ∈ ps.getD n.toNat [])).length
def dueAt (hv : List Nat) (ps : List (List Nat)) (ns : List Int) (k : Nat) : Int := if 0 < below ps ns k ∧ below ps ns k < ns.length then (if 97 + k ∈ hv then 2 else 1) else 0

theorem getD_at {α : Type} {l : List α} {i : Nat} {d : α} (h : i < l.length) : l.getD i d = l[i] := by rw [List.getD_eq_getElem?_getD, List.getElem?_eq_getElem h]; rfl
theorem below_step (ps : List (List Nat)) (ns : List Int) (k i : Nat) (h : i < ns.length) : below ps (ns.take (i + 1)) k = below ps (ns.take i) k + if 97 + k ∈ ps.getD (ns.getD i 0).toNat [] then 1 else 0 := by
  unfold below
  rw [List.take_succ_eq_append_getElem h, List.filter_append, List.length_append, getD_at h]
  congr 1
  by_cases q : 97 + k ∈ ps.getD (ns[i]).toNat []
  · rw [if_pos q, List.filter_cons_of_pos (by simpa using q)]; rfl
  · rw [if_neg q, List.filter_cons_of_neg (by simpa using q)]; rfl

theorem due_spec {C P : Addr} {cs : List Value} {ns : List Int} {vs : List Value} {ps : List (List Nat)} {hv : List Nat} {M N : Nat} {th tN : Tok} (G : Okay w p loose mean mg mb b₀) (S : b₀.StaysIn s.heap) (hh : A.handled = none) (hd : A.depth + 3 < recursionLimit) (hu : A.units + 40 < cLine)
    (hc : s.heap.IsList C cs.toArray) (hns : IntsAre cs ns) (hcl : ns.length ≤ 7) (hin : ∀ n ∈ ns, 0 ≤ n ∧ n < ps.length)
    (hl : s.heap.IsList P vs.toArray) (hS : StrsAre vs (ps.map wd)) (hps : ps.length ≤ 7) (hpl : ∀ q ∈ ps, q.length ≤ 6) (hhv : hv.length ≤ 6) (hN : N = M + 1) (hM : M ≤ 6)
    (h : ∀ h' tk t, s.heap.StaysIn h' → Q (.int (Sm (dueAt hv ps ns) M) t) { s with heap := h', toks := tk }) :
    wpAny (model prog w) A (call (.ref 114) [.ref C, .ref P, .str (wd hv) th, .int N tN]) Q E s := by
  obtain ⟨_, dp, fr, gd, un⟩ := A
  dsimp only at hh hd hu; subst hh
  refine' call_mc [] [(Str.ofString "crowd", .ref C), (Str.ofString "paths", .ref P), (Str.ofString "heavy", .str (wd hv) th), (Str.ofString "size", .int N tN)] S G.X G.T.nolimit ?k6 ?k7 ?k8 ?k9 ?kB ?kD ?c2 ?c3 ?c4 ?hn ?_
  case k6 => k_dflt k_is
  case k7 => k_dflt k_is
  case k8 => dsimp only; omega
  case k9 => exact BindsTo.of_eq rfl
  case kB => exact rfl
  case kD => decide +kernel
  case c2 => exact rfl
  case c3 => exact rfl
  case c4 => exact rfl
  case hn => exact fun _ h => nomatch h
  intro g L' h₁ tk₁ cells Sg Kg gS hL F' N' Y lt'
  have X' := G.X.keeps Sg
  have T' := G.T.keeps Sg
  have hcg := Kg.list hc (fun q => nomatch q)
  have hlg := Kg.list hl (fun q => nomatch q)
  obtain ⟨oL, oP, ecells, hoL, hoP⟩ := CellsAre.two (show CellsAre _ [(Str.ofString "letter", L' + 2), (Str.ofString "paths", L' + 1)] cells from Y)
  subst ecells
  replace hoP : oP.data = .cell (some (.ref P)) := hoP
  replace N' : News g L' h₁ [(L' + 2, oL), (L' + 1, oP)] := N'
  replace F' : Fr g L' h₁ (fun y => if y = Str.ofString "size" then some (.int N tN) else if y = Str.ofString "heavy" then some (.str (wd hv) th) else if y = Str.ofString "crowd" then some (.ref C) else none) := F'
  clear Y
  have hNM : ((N : Int) - 1) = (M : Int) := by omega
  replace hM : True → M ≤ 6 := fun _ => hM
  clear hN
  walk_at "go"
  rename Fr _ _ _ _ => F3
  refine For_invVF F3 rfl rfl ?_
  walk_at "go"
  rename IsRange _ _ _ _ _ _ _ _ => hR
  rename Fr _ _ _ _ => F4
  rename News _ _ _ _ => N4
  rw [hNM] at hR
  have hM6 := hM trivial
  refine iter_range (n := M) (fun i m' nw => ∃ (o : Obj) (v0 : Option Value) (t : Tok), nw = [(L' + 2, o), (L' + 1, oP)] ∧ o.data = .cell v0 ∧ m' (Str.ofString "crowd") = some (.ref C) ∧ m' (Str.ofString "heavy") = some (.str (wd hv) th) ∧ m' (Str.ofString "size") = some (.int N tN) ∧ m' (Str.ofString "due") = some (.int (Sm (dueAt hv ps ns) i) t)) rfl hR (range_small01 (by omega)) (range_size01 _) F4 N4 ⟨oL, _, _, rfl, hoL, rfl, rfl, rfl, rfl⟩ ?_ ?_
  · clear F4 N4 hR
    rintro k tk m₁ _ h4 tk4 I o hk hlt hadr ⟨oL, v0, t, rfl, hoL, e1, e2, e3, e4⟩ F6 N6
    replace F6 : Fr g L' h4 _ := F6
    replace N6 : News g L' h4 _ := N6
    simp only [Int.zero_add, Int.mul_one] at F6
    replace F6 := frTop F6 (sy (sy (sy (sy rfl e4) e3) e2) e1)
    clear e1 e2 e3 e4
    have hI2 : @LT.lt Nat _ (L' + 2) I := hlt _ (.head _)
    have hlet := letter_at (i := k) (by omega)
    walk_at "go"
    (with_reducible rename (Obj.data _ = Data.cell (some (Value.str _ _))) => hdL)
    rw [hlet] at hdL
    refine LCt.Assign_ListComp_T (F₀ := by k_asm) rfl (by with_unfolding_all rfl) (by with_unfolding_all rfl) (by decide) (by rfl) (by decide) (by rfl) (by rfl) (by rfl) ?_
    walk_at "go"
    refine LCt.CompSrcT.base rfl (by k_asm) (by k_asm) hcg (by size_fits) ?_
    intro g'
    refine turnsT (J := fun i ys => ys.length = below ps (ns.take i) k) (n := cs.length) ?_ ?_ _ _ _ (by simp) rfl
    · intro ys hys
      unfold LCg.FinA
      intro D2 h6 tk6 F6 N6 o6
      simp only [LCg.Off1, and_true] at o6
      dsimp only
      rw [List.take_of_length_le (Nat.le_of_eq hns.length.symm)] at hys
      have hbl : ys.length ≤ ns.length := by rw [hys]; exact List.length_filter_le _ _
      have hll : h6.IsList D2 ys.toArray := ⟨_, (N6 (D2, LCg.lst ys) (.head _)).1, rfl, _, rfl⟩
      walk_at "go"
      refine len_list hll (by simp; omega) ?_
      rw [List.size_toArray, hys]
      walk_at "go"
      all_goals rename Fr _ _ _ _ => F7
      all_goals rename News _ _ _ _ => N7
      · rename _ = true => ho
        rename _ < (ns.length : Int) => hq2
        rename (0 : Int) < _ => hq1
        rw [occ_iff] at ho
        refine Turn.next F7 (fun p hp => N7 p (.tail _ hp)) rfl ⟨_, _, _, rfl, hdL, rfl, rfl, rfl, iv ?_⟩
        show _ = Sm (dueAt hv ps ns) k + dueAt hv ps ns k
        unfold dueAt
        rw [if_pos ⟨by omega, by omega⟩, if_neg (by simpa using ho)]
      · rename _ = false => ho
        rename _ < (ns.length : Int) => hq2
        rename (0 : Int) < _ => hq1
        rw [occ_iff] at ho
        refine Turn.next F7 (fun p hp => N7 p (.tail _ hp)) rfl ⟨_, _, _, rfl, hdL, rfl, rfl, rfl, iv ?_⟩
        show _ = Sm (dueAt hv ps ns) k + dueAt hv ps ns k
        unfold dueAt
        rw [if_pos ⟨by omega, by omega⟩, if_pos (by simpa using ho)]
      · rename ¬ (_ < (ns.length : Int)) => hq2
        refine Turn.next F7 (fun p hp => N7 p (.tail _ hp)) rfl ⟨_, _, _, rfl, hdL, rfl, rfl, rfl, iv ?_⟩
        show _ = Sm (dueAt hv ps ns) k + dueAt hv ps ns k
        unfold dueAt
        rw [if_neg (by omega), Int.add_zero]
      · rename ¬ ((0 : Int) < _) => hq1
        refine Turn.next F7 (fun p hp => N7 p (.tail _ hp)) rfl ⟨_, _, _, rfl, hdL, rfl, rfl, rfl, iv ?_⟩
        show _ = Sm (dueAt hv ps ns) k + dueAt hv ps ns k
        unfold dueAt
        rw [if_neg (by omega), Int.add_zero]
    · intro i ys v I2 oI2 C2 oC2 D2 m₂ h6 tk6 E6 hi hys hP hC2 hx2 F6 N6 off
      simp only [LCg.Off3, and_true] at off
      rw [List.getElem?_toArray] at hP
      obtain ⟨tv, rfl⟩ := hns.int_at i v hP
      have hin2 : i < ns.length := by rw [← hns.length]; exact hi
      have hmem : ns.getD i 0 ∈ ns := by rw [getD_at hin2]; exact List.getElem_mem _
      obtain ⟨n0, n1⟩ := hin _ hmem
      have hnl : (ns.getD i 0).toNat < ps.length := by omega
      obtain ⟨tp, ep⟩ := strs_get hS hnl
      have hvl : vs.length = ps.length := by have := hS.length; simpa using this
      have hbs := below_step ps ns k i hin2
      walk_at "go"
      refine item_list (Fr.list F6 hlg) (seqIndex_of (by omega) (by omega)) ep (by omega) (by omega) ?_
      walk_at "go"
      · rename (_ = true) => ho
        rw [occ_iff] at ho
        rw [hbs, if_neg (by simpa using ho), hys, Nat.add_zero]
      · rename (_ = false) => ho
        rw [occ_iff] at ho
        rw [hbs, if_pos (by simpa using ho), List.length_append, hys]; rfl
  · clear F4 N4
    rintro m₁ _ h4 tk4 hadr ⟨o, v0, t, rfl, ho, e1, e2, e3, e4⟩ F6 N6
    replace F6 : Fr g L' h4 _ := F6
    replace N6 : News g L' h4 _ := N6
    replace F6 := frBy F6 (sy (sy (sy (sy rfl e4) e3) e2) e1)
    walk_at "go"
    rename Fr _ _ _ _ => F9
    exact h _ _ _ (stays_of Kg F9)
end
-- M10
section
variable {prog : Program} {w : World} {A : Around} {E : Value → Shared → Prop} {s : Shared} {b₀ : Heap} {Q : Value → Shared → Prop} {p : Program} {loose : List Str} {mean : ExcName → Option Value} {mg mb : Str → Option Value}

theorem news_add {g h h' : Heap} {L P : Addr} {m : Str → Option Value} {o : Obj} {nw : List (Addr × Obj)} (F : Fr g L h m) (N : News g L h' nw) (hn : h.get? P = none) (hs : h'.get? P = some o) : News g L h' ((P, o) :: nw) := fun p hp => by
  rcases List.mem_cons.mp hp with rfl | hp
  · refine ⟨hs, fun e => ?_, ?_⟩
    · obtain ⟨o', es, ep, e', _⟩ := F.ns
      have e : P = L := e
      rw [e, e'] at hn; cases hn
    · show g.get? P = none
      cases q : g.get? P with
      | none => rfl
      | some o' => rw [F.keep _ _ q] at hn; cases hn
  · exact N p hp
/-- a call has changed one object of the ledger -/
theorem touch {g h h' : Heap} {L R : Addr} {m : Str → Option Value} {o o' : Obj} {nw : List (Addr × Obj)} {gg : Obj → List (Addr × Obj)} (F : Fr g L h m) (N : News g L h nw) (U : UpdF R o nw gg) (K : KeepsBut [R] h h') (e : h'.get? R = some o') : Fr g L h' m ∧ News g L h' (gg o') := by
  obtain ⟨pre, post, rfl, hg, a, b⟩ := U.split
  have hm := N (R, o) (List.mem_append_right _ (.head _))
  refine ⟨⟨F.ns.at' fun o e => K L o e (by simpa using Ne.symm hm.2.1), fun b o e => K b o (F.keep b o e) (fun q => ?_), F.above⟩, ?_⟩
  · rw [List.mem_singleton.mp q, hm.2.2] at e; cases e
  · rw [hg o']
    intro p hp
    rcases List.mem_append.mp hp with hp | hp
    · have z := N p (List.mem_append_left _ hp)
      exact ⟨K _ _ z.1 (by simpa using a p hp), z.2⟩
    · rcases List.mem_cons.mp hp with rfl | hp
      · exact ⟨e, hm.2⟩
      · have z := N p (List.mem_append_right _ (.tail _ hp))
        exact ⟨K _ _ z.1 (by simpa using b p hp), z.2⟩
theorem news_tl {g h : Heap} {L : Addr} {x : Addr × Obj} {nw : List (Addr × Obj)} (N : News g L h (x :: nw)) : News g L h nw := fun p hp => N p (.tail _ hp)
theorem news_lst {g h : Heap} {L R : Addr} {rv : List Value} {k : Nat} {nw : List (Addr × Obj)} (N : News g L h nw) (hm : (R, PySem.W.listOf rv.toArray k) ∈ nw) : h.IsList R rv.toArray := ⟨_, (N _ hm).1, rfl, _, rfl⟩
theorem execs_cons_cut {h₀ : Heap} {L : Addr} {st : Stmt} {r : List Stmt} {env : Env} {I : (Str → Option Value) → List (Addr × Obj) → Prop} {Q : Flow → Shared → Prop}
    (h1 : wpAny (model prog w) A (exec st env) (Cut h₀ L I s) E s)
    (h2 : ∀ h' tk m' nw, Fr h₀ L h' m' → News h₀ L h' nw → I m' nw → wpAny (model prog w) A (execs r env) Q E { s with heap := h', toks := tk }) :
    wpAny (model prog w) A (execs (st :: r) env) Q E s := by
  refine wpAny_execs_cons ?_
  refine wpAny_mono h1 (fun f s' hc => ?_) fun _ _ e => e
  obtain ⟨rfl, h', tk, m', nw, rfl, F, N, i⟩ := hc
  exact h2 h' tk m' nw F N i

theorem same_strs : ∀ ss : List Str, PySem.Spec.sameAll (ss.map PyData.str) (ss.map PyData.str) = true
  | [] => by simp [PySem.Spec.sameAll]
  | a :: r => by simp only [List.map_cons, PySem.Spec.sameAll, PySem.Spec.same, same_strs r]; simp
theorem carried_strs : ∀ {vs : List Value} {ss : List Str}, StrsAre vs ss → CarriedAll vs (ss.map PyData.str)
  | _, _, .nil => .nil
  | _, _, .cons _ t r => .cons (.str _ t) (carried_strs r)
theorem shaped_strs (ss : List Str) (h : ss.all PyData.strOk = true) : SeqAt.shaped (.list (ss.map PyData.str)) = true := by
  simp only [SeqAt.shaped, PyData.canLay0, PyData.depth, canLayAll_strs', depthAll_strs', h]
  decide
theorem ne_strs {a b : Addr} {xs ys : List Value} {ss : List Str} {Q : Value → Shared → Prop} (ha : s.heap.IsList a xs.toArray) (hb : s.heap.IsList b ys.toArray) (hi : StrsAre xs ss) (hj : StrsAre ys ss) (ok : ss.all PyData.strOk = true) (hu : A.units + 64 < cLine) (h : Q (.bool false) s) :
    wpAny (model prog w) A (compareOp .NotEq (.ref a) (.ref b)) Q E s :=
  ne_dataH_same (reads_newData ha (carried_strs hi)) (reads_newData hb (carried_strs hj)) (shaped_strs _ ok) (shaped_strs _ ok) hu (SeqAt.noMix_of_shape (.list .str) rfl _ _ (list_map_has fun _ => rfl) (list_map_has fun _ => rfl)) (by
    have e : PySem.Spec.same (.list (ss.map PyData.str)) (.list (ss.map PyData.str)) = true := by simp only [PySem.Spec.same]; exact same_strs ss
    rw [e]; exact h)

/-- the state of the law between two turns -/
structure Inv (ps : List (List Nat)) (hv : List Nat) (N : Nat) (rs : List (List Nat)) (ns : List Int) (len : Int) : Prop where
  sorted : rs.Pairwise (· < ·)
  perm : rs.Perm (ns.map fun n => ps.getD n.toNat [])
  nodup : ns.Nodup
  range : ∀ n ∈ ns, 0 ≤ n ∧ n < N
  due : len = Sm (dueAt hv ps ns) (N - 1)
theorem Inv.start (ps : List (List Nat)) (hv : List Nat) (N : Nat) : Inv ps hv N [] [] 0 := ⟨.nil, .nil, .nil, (fun _ h => nomatch h), (Sm_zero fun _ _ => rfl).symm⟩

theorem pigeon : ∀ (N : Nat) (l : List Int), l.Nodup → (∀ n ∈ l, 0 ≤ n ∧ n < N) → l.length ≤ N
  | 0, [], _, _ => Nat.le_refl _
  | 0, a :: l, _, h => by have := h a (.head _); omega
  | N + 1, l, hd, h => by
    by_cases c : (N : Int) ∈ l
    · have := pigeon N (l.erase (N : Int)) (hd.erase _) (fun n hn => by
        have hn := (hd.mem_erase_iff).mp hn
        have := h n hn.2
        have h2 := hn.1
        omega)
      rw [List.length_erase_of_mem c] at this
      omega
    · have := pigeon N l hd (fun n hn => by
        have h1 := h n hn
        have h2 : n ≠ (N : Int) := fun e => c (e ▸ hn)
        omega)
      omega
theorem inv_len {ps : List (List Nat)} {hv : List Nat} {N : Nat} {rs : List (List Nat)} {ns : List Int} {len : Int} (h : Inv ps hv N rs ns len) (hN : N ≤ 7) : ns.length ≤ 7 := Nat.le_trans (pigeon N ns h.nodup h.range) hN

structure LJ (prog : Program) (w : World) (C R TD FI W T P Lc l : Addr) (oF oW oT oP oc : Obj) (tN th : Tok) (ps : List (List Nat)) (hv : List Nat) (N i : Nat) (m' : Str → Option Value) (nw : List (Addr × Obj)) : Prop where
  all : ∃ (cvs rvs : List Value) (nc nr : Nat) (od : Obj) (kt : List (Str × Value)) (rs : List (List Nat)) (ns : List Int) (len : Int) (tl : Tok),
    nw = [(C, listOf cvs.toArray nc), (R, listOf rvs.toArray nr), (TD, od), (FI, oF), (W, oW), (T, oT), (P, oP), (Lc, oc)] ∧ IntsAre cvs ns ∧ StrsAre rvs (rs.map wd) ∧ od.IsDictOf (strKind prog w) kt ∧ kt.length ≤ 3 * i ∧ Told (N - 1) hv kt ∧ Inv ps hv N rs ns len ∧
    m' (Str.ofString "length") = some (.int len tl)
  script : m' (Str.ofString "script") = some (.ref l)
  size : m' (Str.ofString "size") = some (.int N tN)
  heavy : m' (Str.ofString "heavy") = some (.str (wd hv) th)
  words : m' (Str.ofString "words") = some (.ref W)
  first : m' (Str.ofString "first") = some (.ref FI)
  told : m' (Str.ofString "told") = some (.ref TD)
  row : m' (Str.ofString "row") = some (.ref R)
  crowd : m' (Str.ofString "crowd") = some (.ref C)

noncomputable def forBody : List Stmt → List Stmt
  | [] => []
  | .For _ _ b _ _ :: _ => b
  | _ :: r => forBody r

end
-- PX
-- the order of lists
theorem prefix_convex : ∀ {u x y z : List Nat}, u <+: x → u <+: z → x < y → y < z → u <+: y
  | [], _, _, _, _, _, _, _ => List.nil_prefix
  | c :: u, x, y, z, hx, hz, h1, h2 => by
    obtain ⟨x', rfl⟩ : ∃ x', x = c :: x' := by obtain ⟨t, e⟩ := hx; exact ⟨u ++ t, e.symm⟩
    obtain ⟨z', rfl⟩ : ∃ z', z = c :: z' := by obtain ⟨t, e⟩ := hz; exact ⟨u ++ t, e.symm⟩
    have hx' : u <+: x' := by obtain ⟨t, e⟩ := hx; exact ⟨t, by simpa using e⟩
    have hz' : u <+: z' := by obtain ⟨t, e⟩ := hz; exact ⟨t, by simpa using e⟩
    cases y with
    | nil => exact absurd h1 (List.not_lt_nil _)
    | cons d y =>
      rw [List.cons_lt_cons_iff] at h1 h2
      have hd : d = c := by rcases h1 with h | ⟨h, _⟩ <;> rcases h2 with h' | ⟨h', _⟩ <;> omega
      subst hd
      have k1 : x' < y := by rcases h1 with h | ⟨_, h⟩; exact absurd h (Nat.lt_irrefl _); exact h
      have k2 : y < z' := by rcases h2 with h | ⟨_, h⟩; exact absurd h (Nat.lt_irrefl _); exact h
      obtain ⟨t, e⟩ := prefix_convex hx' hz' k1 k2
      exact ⟨t, by rw [← e]; rfl⟩
theorem getD_in {α : Type} {l : List α} {i : Nat} {d : α} (h : i < l.length) : l.getD i d = l[i] := by rw [List.getD_eq_getElem?_getD, List.getElem?_eq_getElem h]; rfl
theorem lt_lin {a b : List Nat} : a < b ∨ a = b ∨ b < a := by
  by_cases h : a < b
  · exact .inl h
  · by_cases h' : b < a
    · exact .inr (.inr h')
    · exact .inr (.inl (List.le_antisymm (List.not_lt.mp h') (List.not_lt.mp h)))

-- the tree's paths
theorem IsTree.letter {N : Nat} {ps : List (List Nat)} (T : IsTree N ps) {k : Nat} : ∀ m, m < N → (97 + k) ∈ ps.getD m [] → ps.getD (k + 1) [] <+: ps.getD m [] := by
  intro m
  induction m using Nat.strongRecOn with
  | ind m ih =>
    intro hm hin
    by_cases h0 : m = 0
    · subst h0
      rw [List.getD_eq_getElem?_getD, T.top] at hin
      simp at hin
    · obtain ⟨j, hj, e⟩ := T.node m (by omega) hm
      have e' : ps.getD m [] = ps.getD j [] ++ [96 + m] := by rw [List.getD_eq_getElem?_getD, e]; rfl
      by_cases hmk : m = k + 1
      · subst hmk; exact List.prefix_refl _
      · rw [e'] at hin ⊢
        rcases List.mem_append.mp hin with h | h
        · exact List.IsPrefix.trans (ih j hj (by omega) h) (List.prefix_append _ _)
        · have := List.mem_singleton.mp h
          omega
theorem IsTree.own {N : Nat} {ps : List (List Nat)} (T : IsTree N ps) {k : Nat} (hk : k + 1 < N) : (97 + k) ∈ ps.getD (k + 1) [] := by
  obtain ⟨j, hj, e⟩ := T.node (k + 1) (by omega) hk
  rw [List.getD_eq_getElem?_getD, e]
  refine List.mem_append_right _ ?_
  rw [show 96 + (k + 1) = 97 + k by omega]
  exact .head _
theorem IsTree.convex {N : Nat} {ps : List (List Nat)} (T : IsTree N ps) {k : Nat} (hk : k + 1 < N) {x y z : List Nat} (hx : x ∈ ps) (hz : z ∈ ps) (h1 : x < y) (h2 : y < z) (sx : (97 + k) ∈ x) (sz : (97 + k) ∈ z) : (97 + k) ∈ y := by
  have pre : ∀ x ∈ ps, (97 + k) ∈ x → ps.getD (k + 1) [] <+: x := by
    intro x hx sx
    obtain ⟨m, hm⟩ := List.getElem?_of_mem hx
    have hl := (List.getElem?_eq_some_iff.mp hm).1
    rw [T.len] at hl
    have e : ps.getD m [] = x := by rw [List.getD_eq_getElem?_getD, hm]; rfl
    rw [← e] at sx ⊢
    exact T.letter m hl sx
  exact (prefix_convex (pre x hx sx) (pre z hz sz) h1 h2).subset (T.own hk)
theorem IsTree.inj {N : Nat} {ps : List (List Nat)} (T : IsTree N ps) {i j : Nat} (hi : i < N) (hj : j < N) (e : ps.getD i [] = ps.getD j []) : i = j := by
  have nd : ∀ m, 1 ≤ m → m < N → (ps.getD m []).getLast? = some (96 + m) := by
    intro m h1 h2
    obtain ⟨j, _, e⟩ := T.node m h1 h2
    rw [List.getD_eq_getElem?_getD, e]
    simp
  have n0 : (ps.getD 0 []).getLast? = none := by rw [List.getD_eq_getElem?_getD, T.top]; rfl
  by_cases ei : i = 0 <;> by_cases ej : j = 0
  · omega
  · subst ei
    have := nd j (by omega) hj
    rw [← e, n0] at this; cases this
  · subst ej
    have := nd i (by omega) hi
    rw [e, n0] at this; cases this
  · have a := nd i (by omega) hi
    have b := nd j (by omega) hj
    rw [e, b] at a
    have := Option.some.inj a
    omega
theorem IsTree.signs {N : Nat} {ps : List (List Nat)} (T : IsTree N ps) (hN : N ≤ 7) : ∀ m, m < N → ∀ c ∈ ps.getD m [], 97 ≤ c ∧ c ≤ 102 := by
  intro m
  induction m using Nat.strongRecOn with
  | ind m ih =>
    intro hm c hc
    by_cases h0 : m = 0
    · subst h0
      rw [List.getD_eq_getElem?_getD, T.top] at hc
      simp at hc
    · obtain ⟨j, hj, e⟩ := T.node m (by omega) hm
      rw [List.getD_eq_getElem?_getD, e] at hc
      rcases List.mem_append.mp hc with h | h
      · exact ih j hj (by omega) c h
      · have := List.mem_singleton.mp h
        omega

-- the row and the limbs
def cnt (rs : List (List Nat)) (k : Nat) : Nat := (rs.filter fun x => decide (97 + k ∈ x)).length
def dueR (hv : List Nat) (rs : List (List Nat)) (k : Nat) : Int := if 0 < cnt rs k ∧ cnt rs k < rs.length then (if 97 + k ∈ hv then 2 else 1) else 0
theorem cnt_perm {a b : List (List Nat)} (h : a.Perm b) (k : Nat) : cnt a k = cnt b k := (h.filter _).length_eq
theorem dueR_perm {hv : List Nat} {a b : List (List Nat)} (h : a.Perm b) (k : Nat) : dueR hv a k = dueR hv b k := by unfold dueR; rw [cnt_perm h, h.length_eq]
theorem cnt_cons (q : List Nat) (rs : List (List Nat)) (k : Nat) : cnt (q :: rs) k = cnt rs k + if 97 + k ∈ q then 1 else 0 := by
  unfold cnt
  by_cases h : 97 + k ∈ q
  · rw [List.filter_cons_of_pos (by simpa using h), if_pos h]; rfl
  · rw [List.filter_cons_of_neg (by simpa using h), if_neg h]; rfl
theorem cnt_le (rs : List (List Nat)) (k : Nat) : cnt rs k ≤ rs.length := List.length_filter_le _ _
theorem cnt_pos {rs : List (List Nat)} {k : Nat} {a : List Nat} (h : a ∈ rs) (s : 97 + k ∈ a) : 0 < cnt rs k := List.length_pos_of_mem (List.mem_filter.mpr ⟨h, by simpa using s⟩)
theorem cnt_lt {rs : List (List Nat)} {k : Nat} {a : List Nat} (h : a ∈ rs) (s : ¬ 97 + k ∈ a) : cnt rs k < rs.length := by
  rcases Nat.lt_or_ge (cnt rs k) rs.length with q | q
  · exact q
  · exfalso
    have e : rs.filter (fun x => decide (97 + k ∈ x)) = rs := List.filter_eq_self.mpr (by
      have := (List.filter_sublist (p := fun x => decide (97 + k ∈ x)) (l := rs)).eq_of_length_le q
      intro x hx
      rw [← this] at hx
      exact (List.mem_filter.mp hx).2)
    rw [← e] at h
    exact s (by simpa using (List.mem_filter.mp h).2)
theorem cnt_none {rs : List (List Nat)} {k : Nat} (h : ∀ x ∈ rs, ¬ 97 + k ∈ x) : cnt rs k = 0 := by
  unfold cnt
  rw [List.filter_eq_nil_iff.mpr (fun x hx => by simpa using h x hx)]; rfl
theorem cnt_all {rs : List (List Nat)} {k : Nat} (h : ∀ x ∈ rs, 97 + k ∈ x) : cnt rs k = rs.length := by
  unfold cnt
  rw [List.filter_eq_self.mpr (fun x hx => by simpa using h x hx)]

/-- the place of a path that the row has not -/
structure Gap (rs : List (List Nat)) (q : List Nat) (r : Nat) : Prop where
  sorted : rs.Pairwise (· < ·)
  le : r ≤ rs.length
  before : ∀ i (h : i < rs.length), i < r → rs[i] < q
  behind : ∀ i (h : i < rs.length), r ≤ i → q < rs[i]
def aheadI (n r : Nat) : Nat := if r = 0 then n - 1 else r - 1
def behindI (n r : Nat) : Nat := if r = n then 0 else r
noncomputable def grow (M : Nat) (hv : List Nat) (rs : List (List Nat)) (q : List Nat) (r : Nat) : Int :=
  if rs.length = 0 then 0 else (way M hv (rs.getD (aheadI rs.length r) []) q + way M hv q (rs.getD (behindI rs.length r) []) - way M hv (rs.getD (aheadI rs.length r) []) (rs.getD (behindI rs.length r) [])).fdiv 2
theorem sorted_at {rs : List (List Nat)} (h : rs.Pairwise (· < ·)) {i j : Nat} (hi : i < rs.length) (hj : j < rs.length) (hij : i < j) : rs[i] < rs[j] := List.pairwise_iff_getElem.mp h i j hi hj hij

/-- one limb -/
theorem limb {N : Nat} {ps rs : List (List Nat)} {hv q : List Nat} {r k : Nat} (T : IsTree N ps) (hk : k + 1 < N) (G : Gap rs q r) (hr : ∀ x ∈ rs, x ∈ ps) (hq : q ∈ ps) (h0 : rs.length ≠ 0) :
    part hv (rs.getD (aheadI rs.length r) []) q k + part hv q (rs.getD (behindI rs.length r) []) k - part hv (rs.getD (aheadI rs.length r) []) (rs.getD (behindI rs.length r) []) k = 2 * (dueR hv (q :: rs) k - dueR hv rs k) := by
  have hle := G.le
  have la : aheadI rs.length r < rs.length := by unfold aheadI; split <;> omega
  have lb : behindI rs.length r < rs.length := by unfold behindI; split <;> omega
  rw [getD_in la, getD_in lb]
  have ma : rs[aheadI rs.length r] ∈ rs := List.getElem_mem _
  have mb : rs[behindI rs.length r] ∈ rs := List.getElem_mem _
  generalize ea : rs[aheadI rs.length r] = a at *
  generalize eb : rs[behindI rs.length r] = b at *
  have hl : (q :: rs).length = rs.length + 1 := rfl
  have cc := cnt_cons q rs k
  have cl := cnt_le rs k
  have wt : ∃ w : Int, w = if 97 + k ∈ hv then 2 else 1 := ⟨_, rfl⟩
  obtain ⟨w, hw⟩ := wt
  unfold dueR part
  rw [← hw, hl]
  have cv : ∀ {x y z : List Nat}, x ∈ ps → z ∈ ps → x < y → y < z → 97 + k ∈ x → 97 + k ∈ z → 97 + k ∈ y := fun hx hz h1 h2 => T.convex hk hx hz h1 h2
  by_cases sa : 97 + k ∈ a <;> by_cases sb : 97 + k ∈ b <;> by_cases sq : 97 + k ∈ q
  · -- all on
    have := cnt_pos ma sa
    rw [if_pos sq] at cc
    simp only [sa, sb, sq, iff_self, iff_true, true_iff, iff_false, false_iff, not_true, not_false_iff, if_true, if_false]
    by_cases h : cnt rs k < rs.length
    · rw [if_pos ⟨by omega, by omega⟩, if_pos ⟨by omega, by omega⟩]; omega
    · rw [if_neg (by omega), if_neg (by omega)]; omega
  · -- q alone off: all of the row on
    rw [if_neg sq] at cc
    have all : ∀ x ∈ rs, 97 + k ∈ x := by
      intro x hx
      obtain ⟨i, hi, rfl⟩ := List.getElem_of_mem hx
      by_cases c : r = 0 ∨ r = rs.length
      · have e1 : aheadI rs.length r = rs.length - 1 := by unfold aheadI; split <;> omega
        have e2 : behindI rs.length r = 0 := by unfold behindI; split <;> omega
        simp only [e1] at ea
        simp only [e2] at eb
        by_cases i0 : i = 0
        · subst i0; rw [eb]; exact sb
        · by_cases i1 : i = rs.length - 1
          · subst i1; rw [ea]; exact sa
          · have p1 := sorted_at G.sorted (i := 0) (j := i) (by omega) hi (by omega)
            have p2 := sorted_at G.sorted (i := i) (j := rs.length - 1) hi (by omega) (by omega)
            rw [eb] at p1
            rw [ea] at p2
            exact cv (hr _ mb) (hr _ ma) p1 p2 sb sa
      · exfalso
        have e1 : aheadI rs.length r = r - 1 := by unfold aheadI; split <;> omega
        have e2 : behindI rs.length r = r := by unfold behindI; split <;> omega
        simp only [e1] at ea
        simp only [e2] at eb
        have p1 := G.before (r - 1) (by omega) (by omega)
        have p2 := G.behind r (by omega) (by omega)
        rw [ea] at p1
        rw [eb] at p2
        exact sq (cv (hr _ ma) (hr _ mb) p1 p2 sa sb)
    have := cnt_all all
    simp only [sa, sb, sq, iff_self, iff_true, true_iff, iff_false, false_iff, not_true, not_false_iff, if_true, if_false]
    rw [if_pos ⟨by omega, by omega⟩, if_neg (by omega)]
    omega
  · have c1 := cnt_pos ma sa
    have c2 := cnt_lt mb sb
    rw [if_pos sq] at cc
    simp only [sa, sb, sq, iff_self, iff_true, true_iff, iff_false, false_iff, not_true, not_false_iff, if_true, if_false]
    rw [if_pos ⟨by omega, by omega⟩, if_pos ⟨by omega, by omega⟩]
    omega
  · have c1 := cnt_pos ma sa
    have c2 := cnt_lt mb sb
    rw [if_neg sq] at cc
    simp only [sa, sb, sq, iff_self, iff_true, true_iff, iff_false, false_iff, not_true, not_false_iff, if_true, if_false]
    rw [if_pos ⟨by omega, by omega⟩, if_pos ⟨by omega, by omega⟩]
    omega
  · have c1 := cnt_pos mb sb
    have c2 := cnt_lt ma sa
    rw [if_pos sq] at cc
    simp only [sa, sb, sq, iff_self, iff_true, true_iff, iff_false, false_iff, not_true, not_false_iff, if_true, if_false]
    rw [if_pos ⟨by omega, by omega⟩, if_pos ⟨by omega, by omega⟩]
    omega
  · have c1 := cnt_pos mb sb
    have c2 := cnt_lt ma sa
    rw [if_neg sq] at cc
    simp only [sa, sb, sq, iff_self, iff_true, true_iff, iff_false, false_iff, not_true, not_false_iff, if_true, if_false]
    rw [if_pos ⟨by omega, by omega⟩, if_pos ⟨by omega, by omega⟩]
    omega
  · -- q alone on: none of the row on
    rw [if_pos sq] at cc
    have none : ∀ x ∈ rs, ¬ 97 + k ∈ x := by
      intro x hx sx
      obtain ⟨i, hi, rfl⟩ := List.getElem_of_mem hx
      by_cases c : i < r
      · have e1 : aheadI rs.length r = r - 1 := by unfold aheadI; split <;> omega
        simp only [e1] at ea
        by_cases i1 : i = r - 1
        · subst i1; rw [ea] at sx; exact sa sx
        · have p1 := sorted_at G.sorted (i := i) (j := r - 1) hi (by omega) (by omega)
          have p2 := G.before (r - 1) (by omega) (by omega)
          rw [ea] at p1 p2
          exact sa (cv (hr _ hx) hq p1 p2 sx sq)
      · have e2 : behindI rs.length r = r := by unfold behindI; split <;> omega
        simp only [e2] at eb
        by_cases i1 : i = r
        · subst i1; rw [eb] at sx; exact sb sx
        · have p1 := sorted_at G.sorted (i := r) (j := i) (by omega) hi (by omega)
          have p2 := G.behind r (by omega) (by omega)
          rw [eb] at p1 p2
          exact sb (cv hq (hr _ hx) p2 p1 sq sx)
    have := cnt_none none
    simp only [sa, sb, sq, iff_self, iff_true, true_iff, iff_false, false_iff, not_true, not_false_iff, if_true, if_false]
    rw [if_pos ⟨by omega, by omega⟩, if_neg (by omega)]
    omega
  · have := cnt_lt ma sa
    rw [if_neg sq] at cc
    simp only [sa, sb, sq, iff_self, iff_true, true_iff, iff_false, false_iff, not_true, not_false_iff, if_true, if_false]
    by_cases h : 0 < cnt rs k
    · rw [if_pos ⟨by omega, by omega⟩, if_pos ⟨by omega, by omega⟩]; omega
    · rw [if_neg (by omega), if_neg (by omega)]; omega

theorem Sm_lin {a b c d e : Nat → Int} : ∀ {M : Nat}, (∀ k, k < M → a k + b k - c k = 2 * (d k - e k)) → Sm a M + Sm b M - Sm c M = 2 * (Sm d M - Sm e M)
  | 0, _ => rfl
  | M + 1, h => by
    have ih := Sm_lin (M := M) fun k hk => h k (by omega)
    have := h M (by omega)
    show Sm a M + a M + (Sm b M + b M) - (Sm c M + c M) = 2 * (Sm d M + d M - (Sm e M + e M))
    omega
/-- what the deed adds -/
theorem grow_eq {N : Nat} {ps rs : List (List Nat)} {hv q : List Nat} {r : Nat} (T : IsTree N ps) (G : Gap rs q r) (hr : ∀ x ∈ rs, x ∈ ps) (hq : q ∈ ps) : grow (N - 1) hv rs q r = Sm (dueR hv (q :: rs)) (N - 1) - Sm (dueR hv rs) (N - 1) := by
  unfold grow
  by_cases h0 : rs.length = 0
  · rw [if_pos h0]
    have e := List.eq_nil_of_length_eq_zero h0
    subst e
    rw [Sm_zero (c := dueR hv [q]) (fun k _ => ?_), Sm_zero (c := dueR hv []) (fun k _ => ?_)]
    · rfl
    · unfold dueR; rw [if_neg]; intro h; have := h.2; simp at this
    · unfold dueR
      have := cnt_cons q [] k
      have z : cnt [] k = 0 := rfl
      rw [if_neg]
      intro h
      simp only [List.length_cons, List.length_nil] at h
      omega
  · rw [if_neg h0]
    have := Sm_lin (M := N - 1) fun k (hk : k < N - 1) => limb (hv := hv) (k := k) T (by omega) G hr hq h0
    unfold way
    rw [this, Int.fdiv_eq_ediv_of_nonneg _ (by decide)]
    show 2 * (Sm (dueR hv (q :: rs)) (N - 1) - Sm (dueR hv rs) (N - 1)) / 2 = _
    omega

-- the place in the row
theorem Gap.of {rs : List (List Nat)} {q : List Nat} {r : Nat} (s : rs.Pairwise (· < ·)) (le : r ≤ rs.length) (before : ∀ i (h : i < rs.length), i < r → rs[i] < q) (behind : ∀ i (h : i < rs.length), r ≤ i → ¬ rs[i] < q) (hn : q ∉ rs) : Gap rs q r :=
  ⟨s, le, before, fun i h hi => by
    rcases lt_lin (a := rs[i]) (b := q) with c | c | c
    · exact absurd c (behind i h hi)
    · exact absurd (c ▸ List.getElem_mem h) hn
    · exact c⟩
theorem at_place {rs : List (List Nat)} {q : List Nat} {r : Nat} (s : rs.Pairwise (· < ·)) (before : ∀ i (h : i < rs.length), i < r → rs[i] < q) (behind : ∀ i (h : i < rs.length), r ≤ i → ¬ rs[i] < q) (hn : q ∈ rs) : ∃ h : r < rs.length, rs[r] = q := by
  obtain ⟨i, hi, e⟩ := List.getElem_of_mem hn
  have h1 : r ≤ i := by
    rcases Nat.lt_or_ge i r with c | c
    · have := before i hi c
      rw [e] at this
      exact absurd this (List.lt_irrefl _)
    · exact c
  refine ⟨by omega, ?_⟩
  rcases Nat.lt_or_ge r i with c | c
  · have := sorted_at s (by omega) hi c
    rw [e] at this
    exact absurd this (behind r (by omega) (Nat.le_refl _))
  · have : r = i := by omega
    subst this; exact e
theorem Gap.erase {rs : List (List Nat)} {r : Nat} (s : rs.Pairwise (· < ·)) (h : r < rs.length) : Gap (rs.eraseIdx r) rs[r] r := by
  have hl : (rs.eraseIdx r).length = rs.length - 1 := List.length_eraseIdx_of_lt h
  refine ⟨s.sublist (List.eraseIdx_sublist _ _), by omega, fun i hi c => ?_, fun i hi c => ?_⟩
  · rw [List.getElem_eraseIdx_of_lt hi c]
    exact sorted_at s (by omega) h c
  · rw [List.getElem_eraseIdx_of_ge hi c]
    exact sorted_at s h (by omega) (by omega)
theorem eraseIdx_perm {α : Type} : ∀ {rs : List α} {r : Nat} (h : r < rs.length), (rs[r] :: rs.eraseIdx r).Perm rs
  | a :: rs, 0, _ => .refl _
  | a :: rs, r + 1, h => by
    have := eraseIdx_perm (rs := rs) (r := r) (by simpa using h)
    simp only [List.getElem_cons_succ, List.eraseIdx_cons_succ]
    exact (List.Perm.swap _ _ _).trans (this.cons a)
theorem Gap.insert {rs : List (List Nat)} {q : List Nat} {r : Nat} (G : Gap rs q r) : (rs.take r ++ q :: rs.drop r).Pairwise (· < ·) := by
  have hle := G.le
  rw [List.pairwise_append, List.pairwise_cons]
  have b1 : ∀ a ∈ rs.take r, a < q := fun a ha => by
    obtain ⟨i, hi, rfl⟩ := List.getElem_of_mem ha
    rw [List.getElem_take]
    rw [List.length_take] at hi
    exact G.before i (by omega) (by omega)
  have b2 : ∀ a ∈ rs.drop r, q < a := fun a ha => by
    obtain ⟨i, hi, rfl⟩ := List.getElem_of_mem ha
    rw [List.getElem_drop]
    rw [List.length_drop] at hi
    exact G.behind (r + i) (by omega) (by omega)
  refine ⟨G.sorted.sublist (List.take_sublist _ _), ⟨b2, G.sorted.sublist (List.drop_sublist _ _)⟩, fun a ha b hb => ?_⟩
  rcases List.mem_cons.mp hb with rfl | hb
  · exact b1 a ha
  · exact List.lt_trans (b1 a ha) (b2 b hb)
theorem insert_perm {α : Type} (rs : List α) (q : α) (r : Nat) : (rs.take r ++ q :: rs.drop r).Perm (q :: rs) := by
  refine List.perm_middle.trans ?_
  rw [List.take_append_drop]
theorem sorted_unique : ∀ {a b : List (List Nat)}, a.Perm b → a.Pairwise (· ≤ ·) → b.Pairwise (· < ·) → a = b
  | [], b, p, _, _ => by rw [List.nil_perm.mp p]
  | x :: a, [], p, _, _ => by cases List.perm_nil.mp p
  | x :: a, y :: b, p, ha, hb => by
    rw [List.pairwise_cons] at ha hb
    have hxy : x = y := by
      have mx : x ∈ y :: b := p.subset (.head _)
      have my : y ∈ x :: a := p.symm.subset (.head _)
      rcases List.mem_cons.mp mx with e | mx
      · exact e
      · rcases List.mem_cons.mp my with e | my
        · exact e.symm
        · have h1 := hb.1 x mx
          have h2 := ha.1 y my
          exact absurd h1 (List.not_lt.mpr h2)
    subst hxy
    rw [sorted_unique (List.perm_cons _ |>.mp p) ha.2 hb.2]
-- PY
theorem below_cnt (ps : List (List Nat)) (ns : List Int) (k : Nat) : below ps ns k = cnt (ns.map fun n => ps.getD n.toNat []) k := by
  unfold below cnt
  rw [List.filter_map, List.length_map]
  rfl
theorem dueAt_R {ps rs : List (List Nat)} {hv : List Nat} {ns : List Int} (h : rs.Perm (ns.map fun n => ps.getD n.toNat [])) (k : Nat) : dueAt hv ps ns k = dueR hv rs k := by
  unfold dueAt dueR
  rw [below_cnt, ← cnt_perm h, h.length_eq, List.length_map]
theorem Inv.due' {ps rs : List (List Nat)} {hv : List Nat} {N : Nat} {ns : List Int} {len : Int} (J : Inv ps hv N rs ns len) : len = Sm (dueR hv rs) (N - 1) := by
  rw [J.due]; exact Sm_congr fun k _ => dueAt_R J.perm k
theorem Inv.sub {ps rs : List (List Nat)} {hv : List Nat} {N : Nat} {ns : List Int} {len : Int} (T : IsTree N ps) (J : Inv ps hv N rs ns len) : ∀ x ∈ rs, x ∈ ps := fun x hx => by
  have := J.perm.subset hx
  obtain ⟨n, hn, rfl⟩ := List.mem_map.mp this
  have := J.range n hn
  have h : n.toNat < ps.length := by rw [T.len]; omega
  rw [getD_in h]
  exact List.getElem_mem _
theorem Inv.length_eq {ps rs : List (List Nat)} {hv : List Nat} {N : Nat} {ns : List Int} {len : Int} (J : Inv ps hv N rs ns len) : rs.length = ns.length := by rw [J.perm.length_eq, List.length_map]
theorem Inv.mono {ps rs : List (List Nat)} {hv : List Nat} {N : Nat} {ns : List Int} {len : Int} (J : Inv ps hv N rs ns len) (q : List Nat) : Mono (rs.map wd) (wd q) := by
  intro i j hi hj hij h
  rw [List.length_map] at hi hj
  rw [List.getElem_map] at h ⊢
  replace h : rs[j] < q := h
  show rs[i] < q
  by_cases e : i = j
  · subst e; exact h
  · exact List.lt_trans (sorted_at J.sorted hi hj (by omega)) h
theorem Place.plain {rs : List (List Nat)} {q : List Nat} {r : Nat} (P : Place (rs.map wd) (wd q) r) : r ≤ rs.length ∧ (∀ i (h : i < rs.length), i < r → rs[i] < q) ∧ (∀ i (h : i < rs.length), r ≤ i → ¬ rs[i] < q) := by
  refine ⟨by simpa using P.le, fun i h c => ?_, fun i h c => ?_⟩
  · have := P.before i (by simpa using h) c
    rw [List.getElem_map] at this; exact this
  · have := P.behind i (by simpa using h) c
    rw [List.getElem_map] at this; exact this
theorem tree_mem {N : Nat} {ps : List (List Nat)} (T : IsTree N ps) {j : Nat} (hj : j < N) : ps.getD j [] ∈ ps := by
  rw [getD_in (by rw [T.len]; exact hj)]; exact List.getElem_mem _
theorem Inv.in_iff {ps rs : List (List Nat)} {hv : List Nat} {N : Nat} {ns : List Int} {len : Int} (T : IsTree N ps) (J : Inv ps hv N rs ns len) {j : Nat} (hj : j < N) : ps.getD j [] ∈ rs ↔ (j : Int) ∈ ns := by
  constructor
  · intro h
    obtain ⟨n, hn, e⟩ := List.mem_map.mp (J.perm.subset h)
    have hr := J.range n hn
    have := T.inj (by omega) hj e
    have e2 : n = (j : Int) := by omega
    exact e2 ▸ hn
  · intro h
    refine J.perm.symm.subset (List.mem_map.mpr ⟨_, h, ?_⟩)
    rw [Int.toNat_natCast]
theorem Inv.goes {ps rs : List (List Nat)} {hv : List Nat} {N : Nat} {ns : List Int} {len : Int} (T : IsTree N ps) (J : Inv ps hv N rs ns len) {j r : Nat} (hj : j < N) (hin : (j : Int) ∈ ns) (P : Place (rs.map wd) (wd (ps.getD j [])) r) :
    r < rs.length ∧ (∀ x ∈ rs.eraseIdx r, x ∈ ps) ∧ Gap (rs.eraseIdx r) (ps.getD j []) r ∧ Inv ps hv N (rs.eraseIdx r) (ns.erase (j : Int)) (len - grow (N - 1) hv (rs.eraseIdx r) (ps.getD j []) r) := by
  obtain ⟨p1, p2, p3⟩ := P.plain
  obtain ⟨hr, e⟩ := at_place J.sorted p2 p3 ((J.in_iff T hj).mpr hin)
  have G : Gap (rs.eraseIdx r) (ps.getD j []) r := e ▸ Gap.erase J.sorted hr
  have hsub : ∀ x ∈ rs.eraseIdx r, x ∈ ps := fun x hx => J.sub T x (List.mem_of_mem_eraseIdx hx)
  have pm : (ps.getD j [] :: rs.eraseIdx r).Perm rs := e ▸ eraseIdx_perm hr
  have pn : ns.Perm ((j : Int) :: ns.erase (j : Int)) := List.perm_cons_erase hin
  have pr : (rs.eraseIdx r).Perm ((ns.erase (j : Int)).map fun n => ps.getD n.toNat []) := by
    have := pm.trans (J.perm.trans (pn.map _))
    rw [List.map_cons, Int.toNat_natCast] at this
    exact (List.perm_cons _).mp this
  refine ⟨hr, hsub, G, G.sorted, pr, J.nodup.erase _, fun n hn => J.range n (List.mem_of_mem_erase hn), ?_⟩
  rw [grow_eq T G hsub (tree_mem T hj), J.due']
  have e1 : Sm (dueR hv (ps.getD j [] :: rs.eraseIdx r)) (N - 1) = Sm (dueR hv rs) (N - 1) := Sm_congr fun k _ => dueR_perm pm k
  have e2 : Sm (dueAt hv ps (ns.erase (j : Int))) (N - 1) = Sm (dueR hv (rs.eraseIdx r)) (N - 1) := Sm_congr fun k _ => dueAt_R pr k
  omega
theorem Inv.comes {ps rs : List (List Nat)} {hv : List Nat} {N : Nat} {ns : List Int} {len : Int} (T : IsTree N ps) (J : Inv ps hv N rs ns len) {j r r' : Nat} (hj : j < N) (hin : ¬ (j : Int) ∈ ns) (P : Place (rs.map wd) (wd (ps.getD j [])) r) (P' : Place (rs.map wd) (wd (ps.getD j [])) r') :
    Gap rs (ps.getD j []) r ∧ Inv ps hv N (rs.take r' ++ ps.getD j [] :: rs.drop r') (ns ++ [(j : Int)]) (len + grow (N - 1) hv rs (ps.getD j []) r) := by
  obtain ⟨p1, p2, p3⟩ := P.plain
  obtain ⟨q1, q2, q3⟩ := P'.plain
  have hn : ps.getD j [] ∉ rs := fun h => hin ((J.in_iff T hj).mp h)
  have G : Gap rs (ps.getD j []) r := Gap.of J.sorted p1 p2 p3 hn
  have G' : Gap rs (ps.getD j []) r' := Gap.of J.sorted q1 q2 q3 hn
  have pm : (rs.take r' ++ ps.getD j [] :: rs.drop r').Perm (ps.getD j [] :: rs) := insert_perm _ _ _
  have pr : (rs.take r' ++ ps.getD j [] :: rs.drop r').Perm ((ns ++ [(j : Int)]).map fun n => ps.getD n.toNat []) := by
    refine pm.trans ((J.perm.cons _).trans ?_)
    rw [List.map_append]
    exact List.perm_append_comm (l₁ := [ps.getD j []])
  refine ⟨G, G'.insert, pr, ?_, ?_, ?_⟩
  · rw [List.nodup_append]
    refine ⟨J.nodup, by simp, fun a ha b hb => ?_⟩
    rw [List.mem_singleton.mp hb]
    exact fun e => hin (e ▸ ha)
  · intro n hn
    rcases List.mem_append.mp hn with h | h
    · exact J.range n h
    · rw [List.mem_singleton.mp h]; omega
  · rw [grow_eq T G (J.sub T) (tree_mem T hj), J.due']
    have e1 : Sm (dueAt hv ps (ns ++ [(j : Int)])) (N - 1) = Sm (dueR hv (ps.getD j [] :: rs)) (N - 1) := Sm_congr fun k _ => (dueAt_R pr k).trans (dueR_perm pm k)
    omega
theorem rising_le : ∀ (ss : List (List Nat)) (p : List Nat), risingS (wd p) (ss.map wd) = true → (p :: ss).Pairwise (· ≤ ·)
  | [], p, _ => by simp
  | x :: r, p, h => by
    rw [List.map_cons] at h
    unfold risingS at h
    rw [Bool.and_eq_true, ltCps_eq] at h
    have h1 : p ≤ x := List.not_lt.mp (by have := h.1; simpa using this)
    have h2 := rising_le r x h.2
    rw [List.pairwise_cons]
    refine ⟨fun y hy => ?_, h2⟩
    rcases List.mem_cons.mp hy with rfl | hy
    · exact h1
    · exact List.le_trans h1 ((List.pairwise_cons.mp h2).1 y hy)
theorem sorted_row {ss' : List Str} {rs qs : List (List Nat)} (hp : ss'.Perm (qs.map wd)) (hs : sortedS ss' = true) (hq : rs.Perm qs) (hr : rs.Pairwise (· < ·)) : ss' = rs.map wd := by
  have e : ss' = (ss'.map fun x => x.cps.toList).map wd := by
    rw [List.map_map]
    exact (List.map_id _).symm
  have hp2 : (ss'.map fun x => x.cps.toList).Perm rs := by
    refine (hp.map _).trans ?_
    rw [List.map_map]
    refine (List.Perm.of_eq ?_).trans hq.symm
    exact List.map_id _
  generalize ss'.map (fun x => x.cps.toList) = X at e hp2
  subst e
  congr 1
  refine sorted_unique hp2 ?_ hr
  cases X with
  | nil => exact .nil
  | cons x r => exact rising_le r x hs
theorem row_ok {N : Nat} {ps rs : List (List Nat)} (T : IsTree N ps) (hN : N ≤ 7) (h : ∀ x ∈ rs, x ∈ ps) : (rs.map wd).all PyData.strOk = true := by
  rw [List.all_eq_true]
  intro x hx
  obtain ⟨q, hq, rfl⟩ := List.mem_map.mp hx
  obtain ⟨m, hm⟩ := List.getElem?_of_mem (h q hq)
  have hl := (List.getElem?_eq_some_iff.mp hm).1
  rw [T.len] at hl
  have e : ps.getD m [] = q := by rw [List.getD_eq_getElem?_getD, hm]; rfl
  have := T.signs hN m hl
  rw [e] at this
  unfold PyData.strOk
  simp
  intro c hc
  have := this c hc
  omega
-- MC
section
variable {prog : Program} {w : World} {A : Around} {E : Value → Shared → Prop} {s : Shared}
theorem ne_empty {a b : Addr} {xs : List Value} {ss : List Str} {Q : Value → Shared → Prop} (ha : s.heap.IsList a xs.toArray) (hb : s.heap.IsList b ([] : List Value).toArray) (hi : StrsAre xs ss) (ok : ss.all PyData.strOk = true) (hne : ss ≠ []) (hu : A.units + 64 < cLine) (h : Q (.bool true) s) :
    wpAny (model prog w) A (compareOp .NotEq (.ref a) (.ref b)) Q E s :=
  ne_dataH_same (reads_newData ha (carried_strs hi)) (reads_newData hb (carried_strs .nil)) (shaped_strs _ ok) (shaped_strs [] rfl) hu (SeqAt.noMix_of_shape (.list .str) rfl _ _ (list_map_has fun _ => rfl) (list_map_has fun _ => rfl)) (by
    cases ss with
    | nil => exact absurd rfl hne
    | cons a r =>
      have e : PySem.Spec.same (.list ((a :: r).map PyData.str)) (.list (([] : List Str).map PyData.str)) = false := by simp [PySem.Spec.same, PySem.Spec.sameAll]
      rw [e]; exact h)
theorem rem_at : ∀ {cvs : List Value} {ns : List Int} {k : Int}, IntsAre cvs ns → k ∈ ns → kf_ints cvs = true ∧ ∃ j q, kf_at k cvs = some j ∧ ki_delL cvs j = some q ∧ IntsAre q (ns.erase k)
  | _, _, _, .nil, h => nomatch h
  | _, _, k, .cons (vs := vs) (ns := ns) a t r, h => by
    have hi : ∀ {vs : List Value} {ns : List Int}, IntsAre vs ns → kf_ints vs = true := by
      intro vs ns x
      induction x with
      | nil => rfl
      | cons _ _ _ ih => exact ih
    refine ⟨hi (.cons a t r), ?_⟩
    by_cases e : a = k
    · subst e
      refine ⟨0, vs, ?_, rfl, ?_⟩
      · unfold kf_at
        rw [show isInt a (Value.int a t) = true by simp [isInt]]; rfl
      · rw [List.erase_cons_head]; exact r
    · have hm : k ∈ ns := by
        rcases List.mem_cons.mp h with q | q
        · exact absurd q.symm e
        · exact q
      obtain ⟨_, j, q, e1, e2, e3⟩ := rem_at r hm
      refine ⟨j + 1, .int a t :: q, ?_, ?_, ?_⟩
      · unfold kf_at
        rw [show isInt k (Value.int a t) = false by simp [isInt, e], e1]; rfl
      · unfold ki_delL; rw [e2]
      · rw [List.erase_cons_tail (by simpa using e)]; exact .cons _ _ e3
end

structure Mid (prog : Program) (w : World) (C R TD FI W T P Lc l : Addr) (oF oW oT oP oc : Obj) (tN th : Tok) (hv : List Nat) (N kl : Nat) (rs : List (List Nat)) (ns : List Int) (len : Int) (m' : Str → Option Value) (nw : List (Addr × Obj)) : Prop where
  all : ∃ (cvs rvs : List Value) (nc nr : Nat) (od : Obj) (kt : List (Str × Value)) (tl : Tok),
    nw = [(C, listOf cvs.toArray nc), (R, listOf rvs.toArray nr), (TD, od), (FI, oF), (W, oW), (T, oT), (P, oP), (Lc, oc)] ∧ IntsAre cvs ns ∧ StrsAre rvs (rs.map wd) ∧ od.IsDictOf (strKind prog w) kt ∧ kt.length ≤ kl ∧ Told (N - 1) hv kt ∧
    m' (Str.ofString "length") = some (.int len tl)
  script : m' (Str.ofString "script") = some (.ref l)
  size : m' (Str.ofString "size") = some (.int N tN)
  heavy : m' (Str.ofString "heavy") = some (.str (wd hv) th)
  words : m' (Str.ofString "words") = some (.ref W)
  first : m' (Str.ofString "first") = some (.ref FI)
  told : m' (Str.ofString "told") = some (.ref TD)
  row : m' (Str.ofString "row") = some (.ref R)
  crowd : m' (Str.ofString "crowd") = some (.ref C)
section
variable {I C R TD FI W T P Lc : Addr} {o oC oR od oF oW oT oP oc : Obj} (a1 : @LT.lt Nat _ C I) (a2 : @LT.lt Nat _ R C) (a3 : @LT.lt Nat _ TD R) (a4 : @LT.lt Nat _ FI TD) (a5 : @LT.lt Nat _ W FI) (a6 : @LT.lt Nat _ T FI) (a7 : @LT.lt Nat _ P FI) (a8 : @LT.lt Nat _ Lc FI)
include a1 a2 a3 a4 a5 a6 a7 a8
theorem off_T : ∀ p ∈ [(FI, oF), (W, oW), (T, oT), (P, oP), (Lc, oc)], p.1 ≠ TD := by
  intro p hp
  simp only [List.mem_cons, List.not_mem_nil, or_false] at hp
  rcases hp with rfl | rfl | rfl | rfl | rfl <;> exact neN (by dsimp only; omega)
theorem touchT {g h h' : Heap} {L : Addr} {m : Str → Option Value} {od' : Obj} (F : Fr g L h m) (N : News g L h [(I, o), (C, oC), (R, oR), (TD, od), (FI, oF), (W, oW), (T, oT), (P, oP), (Lc, oc)]) (K : KeepsBut [TD] h h') (e : h'.get? TD = some od') :
    Fr g L h' m ∧ News g L h' [(I, o), (C, oC), (R, oR), (TD, od'), (FI, oF), (W, oW), (T, oT), (P, oP), (Lc, oc)] :=
  touch F N (UpdF.tail (neN (by dsimp only; omega)) (UpdF.tail (neN (by dsimp only; omega)) (UpdF.tail (neN (by dsimp only; omega)) (UpdF.head (off_T a1 a2 a3 a4 a5 a6 a7 a8))))) K e
theorem off_R : ∀ p ∈ [(TD, od), (FI, oF), (W, oW), (T, oT), (P, oP), (Lc, oc)], p.1 ≠ R := by
  intro p hp
  simp only [List.mem_cons, List.not_mem_nil, or_false] at hp
  rcases hp with rfl | rfl | rfl | rfl | rfl | rfl <;> exact neN (by dsimp only; omega)
theorem touchR {g h h' : Heap} {L : Addr} {m : Str → Option Value} {oR' : Obj} (F : Fr g L h m) (N : News g L h [(I, o), (C, oC), (R, oR), (TD, od), (FI, oF), (W, oW), (T, oT), (P, oP), (Lc, oc)]) (K : KeepsBut [R] h h') (e : h'.get? R = some oR') :
    Fr g L h' m ∧ News g L h' [(I, o), (C, oC), (R, oR'), (TD, od), (FI, oF), (W, oW), (T, oT), (P, oP), (Lc, oc)] :=
  touch F N (UpdF.tail (neN (by dsimp only; omega)) (UpdF.tail (neN (by dsimp only; omega)) (UpdF.head (off_R a1 a2 a3 a4 a5 a6 a7 a8)))) K e
theorem off_C : ∀ p ∈ [(R, oR), (TD, od), (FI, oF), (W, oW), (T, oT), (P, oP), (Lc, oc)], p.1 ≠ C := by
  intro p hp
  simp only [List.mem_cons, List.not_mem_nil, or_false] at hp
  rcases hp with rfl | rfl | rfl | rfl | rfl | rfl | rfl <;> exact neN (by dsimp only; omega)
theorem updC {oC' : Obj} : Upd C oC oC' [(I, o), (C, oC), (R, oR), (TD, od), (FI, oF), (W, oW), (T, oT), (P, oP), (Lc, oc)] [(I, o), (C, oC'), (R, oR), (TD, od), (FI, oF), (W, oW), (T, oT), (P, oP), (Lc, oc)] :=
  Upd.tail (neN (by dsimp only; omega)) (Upd.head (off_C a1 a2 a3 a4 a5 a6 a7 a8))
end
theorem strs_take {vs : List Value} {ss : List Str} (h : StrsAre vs ss) : ∀ r : Nat, StrsAre (vs.take r) (ss.take r) := by
  induction h with
  | nil => intro r; cases r <;> exact .nil
  | cons a t _ ih =>
    intro r
    cases r with
    | zero => exact .nil
    | succ r => exact .cons _ _ (ih r)
theorem strs_drop {vs : List Value} {ss : List Str} (h : StrsAre vs ss) : ∀ r : Nat, StrsAre (vs.drop r) (ss.drop r) := by
  induction h with
  | nil => intro r; cases r <;> exact .nil
  | cons a t x ih =>
    intro r
    cases r with
    | zero => exact .cons _ _ x
    | succ r => exact ih r
theorem strs_erase {vs : List Value} {ss : List Str} (h : StrsAre vs ss) : ∀ r : Nat, StrsAre (vs.eraseIdx r) (ss.eraseIdx r) := by
  induction h with
  | nil => intro r; exact .nil
  | cons a t x ih =>
    intro r
    cases r with
    | zero => exact x
    | succ r => exact .cons _ _ (ih r)
theorem strs_insert {vs : List Value} {rs : List (List Nat)} {q : List Nat} {t : Tok} (h : StrsAre vs (rs.map wd)) (r : Nat) : StrsAre (vs.take r ++ .str (wd q) t :: vs.drop r) ((rs.take r ++ q :: rs.drop r).map wd) := by
  rw [List.map_append, List.map_cons, List.map_take, List.map_drop]
  exact StrsAre.append' (strs_take h r) (.cons _ _ (strs_drop h r))
theorem ints_push {vs : List Value} {ns : List Int} (h : IntsAre vs ns) (k : Int) (t : Tok) : IntsAre (vs ++ [.int k t]) (ns ++ [k]) := by
  induction h with
  | nil => exact .cons _ _ .nil
  | cons _ _ _ ih => exact .cons _ _ ih
theorem ahead_idx {n r : Nat} (h0 : n ≠ 0) (h : r ≤ n) : seqIndex? ((r : Int) - 1) n = some (aheadI n r) ∧ aheadI n r < n := by
  unfold aheadI
  by_cases e : r = 0
  · subst e
    rw [if_pos rfl, seqIndex_neg (by omega) (by omega)]
    exact ⟨by congr 1; omega, by omega⟩
  · rw [if_neg e, seqIndex_of (by omega) (by omega)]
    exact ⟨by congr 1; omega, by omega⟩
theorem behind_idx {n r : Nat} (h0 : n ≠ 0) (h : r ≤ n) : (r : Int).fmod (n : Int) = (behindI n r : Nat) ∧ behindI n r < n := by
  unfold behindI
  rw [Int.fmod_eq_emod_of_nonneg _ (by omega)]
  by_cases e : r = n
  · subst e; rw [if_pos rfl, Int.emod_self]; exact ⟨rfl, by omega⟩
  · rw [if_neg e, Int.emod_eq_of_lt (by omega) (by omega)]; exact ⟨rfl, by omega⟩
section
variable {N : Nat} {ps : List (List Nat)} (hT : IsTree N ps) {x : List Nat} (hx : x ∈ ps)
include hT hx
theorem tree_at : ∃ m, m < N ∧ ps.getD m [] = x := by
  obtain ⟨m, hm⟩ := List.getElem?_of_mem hx
  have hl := (List.getElem?_eq_some_iff.mp hm).1
  rw [hT.len] at hl
  exact ⟨m, hl, by rw [List.getD_eq_getElem?_getD, hm]; rfl⟩
theorem tree_word {hv : List Nat} {M : Nat} {kw : List (Str × Value)} (hW : Words M hv ps ps.length kw) : ∃ t, valueAt kw (wd x) = some (.str (wd (wordOf hv x M)) t) := by
  obtain ⟨m, hm, rfl⟩ := tree_at hT hx
  exact hW m (by rw [hT.len]; exact hm)
theorem tree_sp (hN : N ≤ 7) : 32 ∉ x := by
  obtain ⟨m, hm, rfl⟩ := tree_at hT hx
  intro h
  have := hT.signs hN m hm 32 h
  omega
theorem tree_len (hN : N ≤ 7) : x.length ≤ 6 := by
  obtain ⟨m, hm⟩ := List.getElem?_of_mem hx
  have hl := (List.getElem?_eq_some_iff.mp hm).1
  rw [hT.len] at hl
  have := hT.short m x hm
  omega
end
theorem Mid.lj {prog : Program} {w : World} {C R TD FI W T P Lc l : Addr} {oF oW oT oP oc : Obj} {tN th : Tok} {ps : List (List Nat)} {hv : List Nat} {N i : Nat} {rs : List (List Nat)} {ns : List Int} {len : Int} {m' : Str → Option Value} {nw : List (Addr × Obj)}
    (M : Mid prog w C R TD FI W T P Lc l oF oW oT oP oc tN th hv N (3 * i) rs ns len m' nw) (J : Inv ps hv N rs ns len) : LJ prog w C R TD FI W T P Lc l oF oW oT oP oc tN th ps hv N i m' nw :=
  let ⟨⟨cvs, rvs, nc, nr, od, kt, tl, e, a, b, c, d, f, k⟩, e1, e2, e3, e4, e5, e6, e7, e8⟩ := M
  ⟨⟨cvs, rvs, nc, nr, od, kt, rs, ns, len, tl, e, a, b, c, d, f, J, k⟩, e1, e2, e3, e4, e5, e6, e7, e8⟩
theorem Mid.of_lj {prog : Program} {w : World} {C R TD FI W T P Lc l : Addr} {oF oW oT oP oc : Obj} {tN th : Tok} {ps : List (List Nat)} {hv : List Nat} {N i : Nat} {m' : Str → Option Value} {nw : List (Addr × Obj)}
    (J : LJ prog w C R TD FI W T P Lc l oF oW oT oP oc tN th ps hv N i m' nw) : ∃ rs ns len, Inv ps hv N rs ns len ∧ Mid prog w C R TD FI W T P Lc l oF oW oT oP oc tN th hv N (3 * i) rs ns len m' nw :=
  let ⟨⟨cvs, rvs, nc, nr, od, kt, rs, ns, len, tl, e, a, b, c, d, f, J, k⟩, e1, e2, e3, e4, e5, e6, e7, e8⟩ := J
  ⟨rs, ns, len, J, ⟨cvs, rvs, nc, nr, od, kt, tl, e, a, b, c, d, f, k⟩, e1, e2, e3, e4, e5, e6, e7, e8⟩
-- ME
section
variable {prog : Program} {w : World} {A : Around} {E : Value → Shared → Prop} {s : Shared} {b₀ : Heap} {Q : Value → Shared → Prop} {p : Program} {loose : List Str} {mean : ExcName → Option Value} {mg mb : Str → Option Value}

theorem turn_end {g : Heap} {L' fa cd l I C R TD FI W T P Lc : Addr} {o oF oW oT oP oc : Obj} {us fvs vs : List Value} {xs : List Int} {nf n : Nat} {tN th : Tok} {ps : List (List Nat)} {hv : List Nat} {kw : List (Str × Value)} {N i : Nat} {m₁ : Str → Option Value} {nw : List (Addr × Obj)} {Q : Flow → Shared → Prop}
    (G : Okay w p loose mean mg mb g) (hh : A.handled = none) (hd : A.depth + 10 < recursionLimit) (hu : A.units + 200 < cLine)
    (hl : g.IsList l us.toArray) (hI : IntsAre us xs) (hz : xs.length ≤ 63) (hN : N = 6 ∨ N = 7) (hT : IsTree N ps) (hvl : hv.length ≤ 6)
    (eF : oF = listOf fvs.toArray nf) (hf : ∀ j, j < 9 → ∃ a t, fvs[j]? = some (Value.int a t)) (eP : oP = listOf vs.toArray n) (hS : StrsAre vs (ps.map wd)) (hdw : oW.IsDictOf (strKind prog w) kw) (hW : Words (N - 1) hv ps ps.length kw) (ec : oc.data = .cell (some (.ref P)))
    (low : (TD == sysModules) = false) (a1 : @LT.lt Nat _ C I) (a2 : @LT.lt Nat _ R C) (a3 : @LT.lt Nat _ TD R) (a4 : @LT.lt Nat _ FI TD) (a5 : @LT.lt Nat _ W FI) (a6 : @LT.lt Nat _ T FI) (a7 : @LT.lt Nat _ P FI) (a8 : @LT.lt Nat _ Lc FI)
    (F : Fr g L' s.heap m₁) (Nw : News g L' s.heap ((I, o) :: nw)) (hJ : LJ prog w C R TD FI W T P Lc l oF oW oT oP oc tN th ps hv N i m₁ nw)
    (eL : Lc = L' + 1)
    (h : ∀ h' tk m' nw', Fr g L' h' m' → News g L' h' ((I, o) :: nw') → nw'.map (·.1) = [C, R, TD, FI, W, T, P, Lc] → LJ prog w C R TD FI W T P Lc l oF oW oT oP oc tN th ps hv N i m' nw' → Q .next { s with heap := h', toks := tk }) :
    wpAny (model prog w) A (execs ((forBody (bodyOf (Mine.hd.heap_39 w.params) 119)).drop 8) (envOfC (fnAt (Mine.hd.heap_39 w.params) 119).qualname (fnAt (Mine.hd.heap_39 w.params) 119).scope L' fa (.ref cd))) Q (fun _ _ => False) s := by
  obtain ⟨_, dp, fr, gd, un⟩ := A
  dsimp only at hh hd hu; subst hh
  have X' := G.X
  have T' := G.T
  obtain ⟨⟨cvs, rvs, nc, nr, od, kt, rs, ns, len, tl, rfl, hC, hR, hod, hkt, htold, hinv, e9⟩, e1, e2, e3, e4, e5, e6, e7, e8⟩ := hJ
  replace F := frBy F (sy (sy (sy (sy (sy (sy (sy (sy (sy rfl e9) e8) e7) e6) e5) e4) e3) e2) e1)
  clear e1 e2 e3 e4 e5 e6 e7 e8 e9
  subst eF eP eL
  conv =>
    arg 3
    congr
    · whnf
    · congr
      · change Str.ofString "law"
      · whnf
      · skip
      · skip
      · skip
  refine wp_id ?_
  (try k_fold)
  have hN0 : (0 : Int) < (N : Int) := by omega
  have hN' : True → N = 6 ∨ N = 7 := fun _ => hN
  clear hN
  walk_at "go"
  have hvl2 : vs.length = N := by rw [hS.length, List.length_map, hT.len]
  have hnl : ns.length ≤ 7 := inv_len hinv (by have := hN' trivial; omega)
  refine LCg.CompSrc.ledger rfl (by k_asm) (by k_asm) (k := nc) (.tail _ (.head _)) (by rw [sizeLine_eq]; have := hC.length; simp; omega) ?_
  intro g'
  refine turnsU (J := fun i ys => StrsAre ys ((ns.take i).map fun n => wd (ps.getD n.toNat []))) (n := cvs.length) ?_ ?_ _ _ _ (by simp) .nil
  · intro ys hys
    unfold LCg.FinE
    intro D2 h6 tk6 F6 N6 o6
    simp only [LCg.Off1, and_true] at o6
    dsimp only
    rw [List.take_of_length_le (Nat.le_of_eq hC.length.symm)] at hys
    walk_at "go"
    refine sorted_N_str F6 N6 (news_lst N6 (.head _)) hys (by rw [hys.length, List.length_map]; omega) ?_
    intro h7 vs' ss' e F7 N7 hS' hp' hs'
    have hss : ss' = rs.map wd := sorted_row (hp'.trans (List.Perm.of_eq (by rw [List.map_map]; rfl))) hs' hinv.perm hinv.sorted
    rw [hss] at hS'
    clear hp' hs' hss hys N6 F6
    dsimp only at N7 ⊢
    generalize h6.objs.size + 1 = D3 at N7 ⊢
    walk_at "go"
    refine ne_strs (news_lst (k := nr) N7 (.tail _ (.tail _ (.tail _ (.tail _ (.head _)))))) (news_lst N7 (.head _)) hR hS' (row_ok hT (by have := hN' trivial; omega) (hinv.sub hT)) (by show un + 64 < _; omega) ?_
    replace N7 := news_tl (news_tl N7)
    (try dsimp only)
    walk_at "go"
    have hN9 := hN' trivial
    have hpl : ∀ q ∈ ps, q.length ≤ 6 := fun q hq => by
      obtain ⟨k, hk⟩ := List.getElem?_of_mem hq
      have := hT.short k q hk
      have hlt := (List.getElem?_eq_some_iff.mp hk).1
      rw [hT.len] at hlt
      omega
    refine due_spec (M := N - 1) G F7.keep rfl (by show dp + 3 < _; omega) (by show un + 40 < _; omega) (news_lst (k := nc) N7 (.tail _ (.head _))) hC hnl (fun n hn => by have := hinv.range n hn; rw [hT.len]; exact this) (news_lst (k := n) N7 (.tail _ (.tail _ (.tail _ (.tail _ (.tail _ (.tail _ (.tail _ (.head _))))))))) hS (by rw [hT.len]; omega) hpl hvl (by omega) (by omega) ?_
    intro h8 tk8 t8 K8
    rw [← hinv.due]
    replace F7 := F7.keeps K8
    replace N7 := N7.grown K8
    clear hN9
    dsimp only
    walk_at "go"
    all_goals first
      | (exact h _ _ _ _ F7 N7 rfl ⟨⟨cvs, rvs, nc, nr, od, kt, rs, ns, len, tl, rfl, hC, hR, hod, hkt, htold, hinv, rfl⟩, rfl, rfl, rfl, rfl, rfl, rfl, rfl, rfl⟩)
      | (exact absurd rfl (by assumption))
  · intro i ys v I2 oI2 C2 oC2 D2 m₂ h6 tk6 E6 hi hys hP hC2 hx2 F6 N6 off
    have off0 := off
    simp only [LCg.Off3, and_true] at off
    rw [List.getElem?_toArray] at hP
    obtain ⟨tv, rfl⟩ := hC.int_at i v hP
    have hin2 : i < ns.length := by rw [← hC.length]; exact hi
    have hmem : ns.getD i 0 ∈ ns := by rw [getD_at hin2]; exact List.getElem_mem _
    obtain ⟨n0, n1⟩ := hinv.range _ hmem
    have hnl : (ns.getD i 0).toNat < ps.length := by rw [hT.len]; omega
    obtain ⟨tp, ep⟩ := strs_get hS hnl
    walk_at "go"
    refine item_list (news_lst (k := n) N6 (.tail _ (.tail _ (.tail _ (.tail _ (.tail _ (.tail _ (.tail _ (.tail _ (.tail _ (.tail _ (.head _)))))))))))) (seqIndex_of (by omega) (by have := hN' trivial; omega)) ep (by omega) (by have := hN' trivial; omega) ?_
    have key : ∀ t, StrsAre (ys ++ [Value.str (wd (ps.getD (ns.getD i 0).toNat [])) t]) ((ns.take (i + 1)).map fun n => wd (ps.getD n.toNat [])) := fun t => by
      rw [List.take_succ_eq_append_getElem hin2, List.map_append, ← getD_at (d := 0) hin2]
      exact StrsAre.append' hys (.cons _ _ .nil)
    exact ⟨h6, tk6, _, rfl, F6, N6, off0, .inr ⟨_, .tail _ (.head _), rfl, _, rfl⟩, rfl, key _⟩
end
-- MF
section
variable {prog : Program} {w : World} {A : Around} {E : Value → Shared → Prop} {s : Shared} {b₀ : Heap} {Q : Value → Shared → Prop} {p : Program} {loose : List Str} {mean : ExcName → Option Value} {mg mb : Str → Option Value}

theorem turn_b {g : Heap} {L' fa cd l I C R TD FI W T P Lc : Addr} {o oF oW oT oP oc : Obj} {tN th tn tq tr : Tok} {ps : List (List Nat)} {hv : List Nat} {kw : List (Str × Value)} {N kl r j : Nat} {q : List Nat} {b : Bool} {rs : List (List Nat)} {ns : List Int} {len : Int} {m₁ : Str → Option Value} {nw : List (Addr × Obj)} {Q : Flow → Shared → Prop}
    (G : Okay w p loose mean mg mb g) (hh : A.handled = none) (hd : A.depth + 10 < recursionLimit) (hu : A.units + 200 < cLine)
    (hN : N = 6 ∨ N = 7) (hT : IsTree N ps) (hdw : oW.IsDictOf (strKind prog w) kw) (hW : Words (N - 1) hv ps ps.length kw)
    (low : (TD == sysModules) = false) (a1 : @LT.lt Nat _ C I) (a2 : @LT.lt Nat _ R C) (a3 : @LT.lt Nat _ TD R) (a4 : @LT.lt Nat _ FI TD) (a5 : @LT.lt Nat _ W FI) (a6 : @LT.lt Nat _ T FI) (a7 : @LT.lt Nat _ P FI) (a8 : @LT.lt Nat _ Lc FI)
    (hkl : kl ≤ 800) (hr : r ≤ rs.length) (hrs : ∀ x ∈ rs, x ∈ ps) (hq : q ∈ ps) (hrl : rs.length ≤ 7)
    (F : Fr g L' s.heap m₁) (Nw : News g L' s.heap ((I, o) :: nw)) (hM : Mid prog w C R TD FI W T P Lc l oF oW oT oP oc tN th hv N kl rs ns len m₁ nw)
    (n1 : m₁ (Str.ofString "node") = some (.int j tn)) (n2 : m₁ (Str.ofString "path") = some (.str (wd q) tq)) (n3 : m₁ (Str.ofString "place") = some (.int r tr)) (n4 : m₁ (Str.ofString "goes") = some (.bool b))
    (h : ∀ h' tk m' nw' tg, Fr g L' h' m' → News g L' h' ((I, o) :: nw') → Mid prog w C R TD FI W T P Lc l oF oW oT oP oc tN th hv N (kl + 3) rs ns len m' nw' →
      m' (Str.ofString "node") = some (.int j tn) → m' (Str.ofString "path") = some (.str (wd q) tq) → m' (Str.ofString "goes") = some (.bool b) → m' (Str.ofString "grown") = some (.int (grow (N - 1) hv rs q r) tg) →
      wpAny (model prog w) A (execs ((forBody (bodyOf (Mine.hd.heap_39 w.params) 119)).drop 7) (envOfC (fnAt (Mine.hd.heap_39 w.params) 119).qualname (fnAt (Mine.hd.heap_39 w.params) 119).scope L' fa (.ref cd))) Q (fun _ _ => False) { s with heap := h', toks := tk }) :
    wpAny (model prog w) A (execs ((forBody (bodyOf (Mine.hd.heap_39 w.params) 119)).drop 5) (envOfC (fnAt (Mine.hd.heap_39 w.params) 119).qualname (fnAt (Mine.hd.heap_39 w.params) 119).scope L' fa (.ref cd))) Q (fun _ _ => False) s := by
  obtain ⟨_, dp, fr, gd, un⟩ := A
  dsimp only at hh hd hu; subst hh
  have X' := G.X
  have T' := G.T
  obtain ⟨⟨cvs, rvs, nc, nr, od, kt, tl, rfl, hC, hR, hod, hkt, htold, e9⟩, e1, e2, e3, e4, e5, e6, e7, e8⟩ := hM
  replace F := frBy F (sy (sy (sy (sy (sy (sy (sy (sy (sy (sy (sy (sy (sy rfl n4) n3) n2) n1) e9) e8) e7) e6) e5) e4) e3) e2) e1)
  clear e1 e2 e3 e4 e5 e6 e7 e8 e9 n1 n2 n3 n4
  conv =>
    arg 3
    congr
    · whnf
    · congr
      · change Str.ofString "law"
      · whnf
      · skip
      · skip
      · skip
  refine wp_id ?_
  (try k_fold)
  have hN0 : (0 : Int) < (N : Int) := by omega
  have hN' : True → N = 6 ∨ N = 7 := fun _ => hN
  clear hN
  walk_at "go3"
  rename Fr _ _ _ _ => F1
  rename News _ _ _ _ => N1

  refine execs_cons_cut (h₀ := g) (L := L') (I := fun m' nw2 => ∃ nw', nw2 = (I, o) :: nw' ∧ Mid prog w C R TD FI W T P Lc l oF oW oT oP oc tN th hv N (kl + 3) rs ns len m' nw' ∧
      m' (Str.ofString "node") = some (.int j tn) ∧ m' (Str.ofString "path") = some (.str (wd q) tq) ∧ m' (Str.ofString "goes") = some (.bool b) ∧ ∃ tg, m' (Str.ofString "grown") = some (.int (grow (N - 1) hv rs q r) tg)) ?_ ?_
  · walk_at "go"
    refine newList_K F1 N1 ?_
    intro E1 h3 F3 N3 lE
    clear F1 N1
    dsimp only
    have hN9 := hN' trivial
    have hlen : rvs.length = rs.length := by rw [hR.length, List.length_map]
    have ok := row_ok hT (by omega) hrs
    have wR : ∀ {h : Heap} {rest : List (Addr × Obj)} {a b : Addr × Obj}, News g L' h (a :: b :: (R, listOf rvs.toArray nr) :: rest) → h.IsList R rvs.toArray := fun N => news_lst (k := nr) N (.tail _ (.tail _ (.head _)))
    by_cases h0 : rs.length = 0
    · have e0 := List.eq_nil_of_length_eq_zero h0
      have e1 : rvs = [] := List.eq_nil_of_length_eq_zero (by omega)
      subst e0 e1
      refine ne_strs (news_lst (k := nr) N3 (.tail _ (.tail _ (.tail _ (.head _))))) (news_lst N3 (.head _)) hR .nil ok (by show un + 64 < _; omega) ?_
      replace N3 := news_tl N3
      (try dsimp only)
      clear hN9
      walk_at "go"
      refine Cut.mk F3 N3 ⟨_, rfl, ⟨⟨cvs, [], nc, nr, od, kt, tl, rfl, hC, hR, hod, by omega, htold, rfl⟩, rfl, rfl, rfl, rfl, rfl, rfl, rfl, rfl⟩, rfl, rfl, rfl, ⟨_, iv ?_⟩⟩
      exact (if_pos h0).symm
    · obtain ⟨i1, i2⟩ := ahead_idx h0 hr
      obtain ⟨j1, j2⟩ := behind_idx h0 hr
      obtain ⟨ta, ea⟩ := strs_get hR i2
      obtain ⟨tb, eb⟩ := strs_get hR j2
      have ma : rs.getD (aheadI rs.length r) [] ∈ ps := by rw [getD_in i2]; exact hrs _ (List.getElem_mem _)
      have mb : rs.getD (behindI rs.length r) [] ∈ ps := by rw [getD_in j2]; exact hrs _ (List.getElem_mem _)
      obtain ⟨wa, va⟩ := tree_word hT ma hW
      obtain ⟨wb, vb⟩ := tree_word hT mb hW
      obtain ⟨wq, vq⟩ := tree_word hT hq hW
      have la := tree_len hT ma (by omega)
      have lb := tree_len hT mb (by omega)
      have lq := tree_len hT hq (by omega)
      have sa := tree_sp hT ma (by omega)
      have sb := tree_sp hT mb (by omega)
      have sq := tree_sp hT hq (by omega)
      have hgr : grow (N - 1) hv rs q r = (way (N - 1) hv (rs.getD (aheadI rs.length r) []) q + way (N - 1) hv q (rs.getD (behindI rs.length r) []) - way (N - 1) hv (rs.getD (aheadI rs.length r) []) (rs.getD (behindI rs.length r) [])).fdiv 2 := by unfold grow; rw [if_neg h0]
      rw [hgr]
      clear hgr
      have hj2 : (behindI rs.length r : Int) < rvs.length := by omega
      generalize rs.getD (aheadI rs.length r) [] = pa at *
      generalize rs.getD (behindI rs.length r) [] = pb at *
      rw [← hlen] at i1 j1 ea eb hj2
      refine ne_empty (news_lst (k := nr) N3 (.tail _ (.tail _ (.tail _ (.head _))))) (news_lst N3 (.head _)) hR ok (fun e => h0 (by simpa using e)) (by show un + 64 < _; omega) ?_
      replace N3 := news_tl N3
      (try dsimp only)
      have hN7 : True → N - 1 ≤ 6 := fun _ => by omega
      clear hN9
      walk_at "go"
      refine sub_spec G F3.keep rfl (by show dp + 1 < _; omega) (by show un + 20 < _; omega) ?_
      intro h4 tk4 t4 K4
      replace F3 := F3.keeps K4
      replace N3 := N3.grown K4
      clear K4
      dsimp only
      walk_at "go"
      refine getitem_spec (vs := rvs) G F3.keep rfl (by show dp + 1 < _; omega) (by show un + 20 < _; omega) (wR N3) i1 ea (by omega) (by omega) ?_
      intro h5 tk5 K5
      replace F3 := F3.keeps K5
      replace N3 := N3.grown K5
      clear K5
      dsimp only
      walk_at "go"
      rename Fr _ _ _ _ => F4
      rename News _ _ _ _ => N4
      refine len_list (wR N4) (by simp; omega) ?_
      rw [List.size_toArray]
      walk_at "go"
      refine mod_spec G F4.keep rfl (by show dp + 1 < _; omega) (by show un + 20 < _; omega) (by omega) ?_
      intro h6 tk6 t6 K6
      rw [j1]
      replace F4 := F4.keeps K6
      replace N4 := N4.grown K6
      clear K6
      dsimp only
      walk_at "go"
      refine getitem_spec (vs := rvs) G F4.keep rfl (by show dp + 1 < _; omega) (by show un + 20 < _; omega) (wR N4) (seqIndex_of (by omega) hj2) (by rw [Int.toNat_natCast]; exact eb) (by omega) (by omega) ?_
      intro h7 tk7 K7
      replace F4 := F4.keeps K7
      replace N4 := N4.grown K7
      clear K7
      dsimp only
      walk_at "go"
      rename Fr _ _ _ _ => F5
      rename News _ _ _ _ => N5
      have neWT : W ≠ TD := neN (by omega)
      refine way_spec (M := N - 1) G F5.keep rfl (by show dp + 5 < _; omega) (by show un + 70 < _; omega) (N5 (W, oW) (.tail _ (.tail _ (.tail _ (.tail _ (.tail _ (.head _))))))).1 hdw va vq (hN7 trivial) (N5 (TD, od) (.tail _ (.tail _ (.tail _ (.head _))))).1 (N5 (TD, od) (.tail _ (.tail _ (.tail _ (.head _))))).2.2 low hod (by omega) htold neWT la lq sa sq ?_
      intro h8 tk8 t8 od8 kt8 K8 g8 hd8 ht8 hl8
      obtain ⟨F6, N6⟩ := touchT a1 a2 a3 a4 a5 a6 a7 a8 F5 N5 K8 g8
      clear F5 N5 K8 g8
      dsimp only
      walk_at "go"
      refine way_spec (M := N - 1) G F6.keep rfl (by show dp + 5 < _; omega) (by show un + 70 < _; omega) (N6 (W, oW) (.tail _ (.tail _ (.tail _ (.tail _ (.tail _ (.head _))))))).1 hdw vq vb (hN7 trivial) (N6 (TD, od8) (.tail _ (.tail _ (.tail _ (.head _))))).1 (N6 (TD, od8) (.tail _ (.tail _ (.tail _ (.head _))))).2.2 low hd8 (by omega) ht8 neWT lq lb sq sb ?_
      intro h9 tk9 t9 od9 kt9 K9 g9 hd9 ht9 hl9
      obtain ⟨F7, N7⟩ := touchT a1 a2 a3 a4 a5 a6 a7 a8 F6 N6 K9 g9
      clear F6 N6 K9 g9
      dsimp only
      walk_at "go"
      refine add_spec G F7.keep rfl (by show dp + 1 < _; omega) (by show un + 20 < _; omega) ?_
      intro h10 tk10 t10 K10
      replace F7 := F7.keeps K10
      replace N7 := N7.grown K10
      clear K10
      dsimp only
      walk_at "go"
      rename Fr _ _ _ _ => F8
      rename News _ _ _ _ => N8
      refine way_spec (M := N - 1) G F8.keep rfl (by show dp + 5 < _; omega) (by show un + 70 < _; omega) (N8 (W, oW) (.tail _ (.tail _ (.tail _ (.tail _ (.tail _ (.head _))))))).1 hdw va vb (hN7 trivial) (N8 (TD, od9) (.tail _ (.tail _ (.tail _ (.head _))))).1 (N8 (TD, od9) (.tail _ (.tail _ (.tail _ (.head _))))).2.2 low hd9 (by omega) ht9 neWT la lb sa sb ?_
      intro h11 tk11 t11 od11 kt11 K11 g11 hd11 ht11 hl11
      obtain ⟨F9, N9⟩ := touchT a1 a2 a3 a4 a5 a6 a7 a8 F8 N8 K11 g11
      clear F8 N8 K11 g11
      dsimp only
      walk_at "go"
      refine sub_spec G F9.keep rfl (by show dp + 1 < _; omega) (by show un + 20 < _; omega) ?_
      intro h12 tk12 t12 K12
      replace F9 := F9.keeps K12
      replace N9 := N9.grown K12
      clear K12
      dsimp only
      walk_at "go"
      refine floordiv_spec G F9.keep rfl (by show dp + 1 < _; omega) (by show un + 20 < _; omega) ?_
      intro h13 tk13 t13 K13
      replace F9 := F9.keeps K13
      replace N9 := N9.grown K13
      clear K13
      dsimp only
      walk_at "go"
      rename Fr _ _ _ _ => F10
      rename News _ _ _ _ => N10
      refine Cut.mk F10 N10 ⟨_, rfl, ⟨⟨cvs, rvs, nc, nr, od11, kt11, tl, rfl, hC, hR, hd11, by omega, ht11, rfl⟩, rfl, rfl, rfl, rfl, rfl, rfl, rfl, rfl⟩, rfl, rfl, rfl, ⟨_, rfl⟩⟩
  · rintro h2 tk2 m2 _ F2 N2 ⟨nw', rfl, M2, k1, k2, k3, tg, k4⟩
    exact h _ _ _ _ tg F2 N2 M2 k1 k2 k3 k4
end
-- MG
section
variable {prog : Program} {w : World} {A : Around} {E : Value → Shared → Prop} {s : Shared} {b₀ : Heap} {Q : Value → Shared → Prop} {p : Program} {loose : List Str} {mean : ExcName → Option Value} {mg mb : Str → Option Value}

theorem turn_c {g : Heap} {L' fa cd l I C R TD FI W T P Lc : Addr} {o oF oW oT oP oc : Obj} {tN th tn tq tg : Tok} {us fvs vs : List Value} {xs : List Int} {nf n : Nat} {ps : List (List Nat)} {hv : List Nat} {kw : List (Str × Value)} {N i j : Nat} {q : List Nat} {b : Bool} {rs : List (List Nat)} {ns : List Int} {len gr : Int} {m₁ : Str → Option Value} {nw : List (Addr × Obj)} {Q : Flow → Shared → Prop}
    (G : Okay w p loose mean mg mb g) (hh : A.handled = none) (hd : A.depth + 10 < recursionLimit) (hu : A.units + 200 < cLine)
    (hl : g.IsList l us.toArray) (hI : IntsAre us xs) (hz : xs.length ≤ 63) (hN : N = 6 ∨ N = 7) (hT : IsTree N ps) (hvl : hv.length ≤ 6)
    (eF : oF = listOf fvs.toArray nf) (hf : ∀ j, j < 9 → ∃ a t, fvs[j]? = some (Value.int a t)) (eP : oP = listOf vs.toArray n) (hS : StrsAre vs (ps.map wd)) (hdw : oW.IsDictOf (strKind prog w) kw) (hW : Words (N - 1) hv ps ps.length kw) (ec : oc.data = .cell (some (.ref P)))
    (low : (TD == sysModules) = false) (a1 : @LT.lt Nat _ C I) (a2 : @LT.lt Nat _ R C) (a3 : @LT.lt Nat _ TD R) (a4 : @LT.lt Nat _ FI TD) (a5 : @LT.lt Nat _ W FI) (a6 : @LT.lt Nat _ T FI) (a7 : @LT.lt Nat _ P FI) (a8 : @LT.lt Nat _ Lc FI)
    (hrl : rs.length ≤ 7) (hnl : ns.length ≤ 7)
    (hcase : (b = true ∧ (j : Int) ∈ ns ∧ Inv ps hv N rs (ns.erase (j : Int)) (len - gr)) ∨ (b = false ∧ Mono (rs.map wd) (wd q) ∧ ∀ r', Place (rs.map wd) (wd q) r' → Inv ps hv N (rs.take r' ++ q :: rs.drop r') (ns ++ [(j : Int)]) (len + gr)))
    (F : Fr g L' s.heap m₁) (Nw : News g L' s.heap ((I, o) :: nw)) (hM : Mid prog w C R TD FI W T P Lc l oF oW oT oP oc tN th hv N (3 * (i + 1)) rs ns len m₁ nw)
    (n1 : m₁ (Str.ofString "node") = some (.int j tn)) (n2 : m₁ (Str.ofString "path") = some (.str (wd q) tq)) (n3 : m₁ (Str.ofString "goes") = some (.bool b)) (n4 : m₁ (Str.ofString "grown") = some (.int gr tg))
    (eL : Lc = L' + 1)
    (h : ∀ h' tk m' nw', Fr g L' h' m' → News g L' h' ((I, o) :: nw') → nw'.map (·.1) = [C, R, TD, FI, W, T, P, Lc] → LJ prog w C R TD FI W T P Lc l oF oW oT oP oc tN th ps hv N (i + 1) m' nw' → Q .next { s with heap := h', toks := tk }) :
    wpAny (model prog w) A (execs ((forBody (bodyOf (Mine.hd.heap_39 w.params) 119)).drop 7) (envOfC (fnAt (Mine.hd.heap_39 w.params) 119).qualname (fnAt (Mine.hd.heap_39 w.params) 119).scope L' fa (.ref cd))) Q (fun _ _ => False) s := by
  obtain ⟨_, dp, fr, gd, un⟩ := A
  dsimp only at hh hd hu; subst hh
  have X' := G.X
  have T' := G.T
  obtain ⟨⟨cvs, rvs, nc, nr, od, kt, tl, rfl, hC, hR, hod, hkt, htold, e9⟩, e1, e2, e3, e4, e5, e6, e7, e8⟩ := hM
  replace F := frBy F (sy (sy (sy (sy (sy (sy (sy (sy (sy (sy (sy (sy (sy rfl n4) n3) n2) n1) e9) e8) e7) e6) e5) e4) e3) e2) e1)
  clear e1 e2 e3 e4 e5 e6 e7 e8 e9 n1 n2 n3 n4
  conv =>
    arg 3
    congr
    · whnf
    · congr
      · change Str.ofString "law"
      · whnf
      · skip
      · skip
      · skip
  refine wp_id ?_
  (try k_fold)
  have hcl := hC.length
  have hrvl : rvs.length = rs.length := by rw [hR.length, List.length_map]
  refine execs_cons_cut (h₀ := g) (L := L') (I := fun m' nw2 => ∃ nw', nw2 = (I, o) :: nw' ∧ LJ prog w C R TD FI W T P Lc l oF oW oT oP oc tN th ps hv N (i + 1) m' nw') ?_ ?_
  · rcases hcase with ⟨rfl, hm, hJ⟩ | ⟨rfl, hmo, hJ⟩
    · obtain ⟨hki, z, q9, z1, z2, z3⟩ := rem_at hC hm
      walk_at "go"
      refine kf_remove (q := q9) F Nw hki z1 z2 (updC a1 a2 a3 a4 a5 a6 a7 a8) (Nat.le_trans (by simp; omega : _ ≤ 1000) (by decide)) ?_
      intro h3 F3 N3
      walk_at "go"
      refine sub_spec G F3.keep rfl (by show dp + 1 < _; omega) (by show un + 20 < _; omega) ?_
      intro h4 tk4 t4 K4
      replace F3 := F3.keeps K4
      replace N3 := N3.grown K4
      clear K4
      dsimp only
      walk_at "go"
      rename Fr _ _ _ _ => F5
      rename News _ _ _ _ => N5
      exact Cut.mk F5 N5 ⟨_, rfl, ⟨⟨q9, rvs, nc + 1, nr, od, kt, rs, ns.erase (j : Int), len - gr, _, rfl, z3, hR, hod, hkt, htold, hJ, rfl⟩, rfl, rfl, rfl, rfl, rfl, rfl, rfl, rfl⟩⟩
    · walk_at "go"
      refine insort_spec G F.keep rfl (by show dp + 2 < _; omega) (by show un + 40 < _; omega) (Nw (R, listOf rvs.toArray nr) (.tail _ (.tail _ (.head _)))).1 (Nw (R, listOf rvs.toArray nr) (.tail _ (.tail _ (.head _)))).2.2 hR (by rw [List.length_map]; omega) hmo ?_
      intro h3 tk3 r' hP K3 g3
      obtain ⟨F3, N3⟩ := touchR a1 a2 a3 a4 a5 a6 a7 a8 F Nw K3 g3
      clear F Nw K3 g3
      (try dsimp only)
      walk_at "go"
      refine append_K F3 N3 (updC a1 a2 a3 a4 a5 a6 a7 a8) ?_ (Nat.le_trans (by simp; omega : _ ≤ 1000) (by decide))
      intro h4 F4 N4
      rw [List.push_toArray] at N4
      walk_at "go"
      refine add_spec G F4.keep rfl (by show dp + 1 < _; omega) (by show un + 20 < _; omega) ?_
      intro h5 tk5 t5 K5
      replace F4 := F4.keeps K5
      replace N4 := N4.grown K5
      clear K5
      dsimp only
      walk_at "go"
      rename Fr _ _ _ _ => F6
      rename News _ _ _ _ => N6
      exact Cut.mk F6 N6 ⟨_, rfl, ⟨⟨cvs ++ [.int j tn], _, nc + 1, nr + 1, od, kt, _, ns ++ [(j : Int)], len + gr, _, rfl, ints_push hC _ _, strs_insert hR r', hod, hkt, htold, hJ r' hP, rfl⟩, rfl, rfl, rfl, rfl, rfl, rfl, rfl, rfl⟩⟩
  · rintro h2 tk2 m2 _ F2 N2 ⟨nw', rfl, J2⟩
    exact turn_end (fa := fa) (cd := cd) (C := C) (R := R) (TD := TD) (FI := FI) (W := W) (T := T) (P := P) (Lc := Lc) (I := I) G rfl hd hu hl hI hz hN hT hvl eF hf eP hS hdw hW ec low a1 a2 a3 a4 a5 a6 a7 a8 F2 N2 J2 eL h
end
-- M11
section
variable {prog : Program} {w : World} {A : Around} {E : Value → Shared → Prop} {s : Shared} {b₀ : Heap} {Q : Value → Shared → Prop} {p : Program} {loose : List Str} {mean : ExcName → Option Value} {mg mb : Str → Option Value}

theorem map_erase {α β : Type} (f : α → β) : ∀ (l : List α) (r : Nat), (l.eraseIdx r).map f = (l.map f).eraseIdx r
  | [], _ => rfl
  | _ :: _, 0 => rfl
  | a :: l, r + 1 => congrArg (f a :: ·) (map_erase f l r)
theorem law_turn {g : Heap} {L' fa cd l I C R TD FI W T P Lc : Addr} {o oF oW oT oP oc : Obj} {us fvs vs : List Value} {xs : List Int} {nf n : Nat} {ti tN th : Tok} {ps : List (List Nat)} {hv : List Nat} {kw : List (Str × Value)} {N i : Nat} {m₁ : Str → Option Value} {nw : List (Addr × Obj)} {Q : Flow → Shared → Prop}
    (G : Okay w p loose mean mg mb g) (hh : A.handled = none) (hd : A.depth + 10 < recursionLimit) (hu : A.units + 200 < cLine)
    (hl : g.IsList l us.toArray) (hI : IntsAre us xs) (hz : xs.length ≤ 63) (hN : N = 6 ∨ N = 7) (hT : IsTree N ps) (hvl : hv.length ≤ 6)
    (eF : oF = listOf fvs.toArray nf) (hf : ∀ j, j < 9 → ∃ a t, fvs[j]? = some (Value.int a t)) (eP : oP = listOf vs.toArray n) (hS : StrsAre vs (ps.map wd)) (hdw : oW.IsDictOf (strKind prog w) kw) (hW : Words (N - 1) hv ps ps.length kw) (ec : oc.data = .cell (some (.ref P)))
    (low : (TD == sysModules) = false) (a1 : @LT.lt Nat _ C I) (a2 : @LT.lt Nat _ R C) (a3 : @LT.lt Nat _ TD R) (a4 : @LT.lt Nat _ FI TD) (a5 : @LT.lt Nat _ W FI) (a6 : @LT.lt Nat _ T FI) (a7 : @LT.lt Nat _ P FI) (a8 : @LT.lt Nat _ Lc FI)
    (hi : i < 9) (F : Fr g L' s.heap (fun y => if y = Str.ofString "i" then some (.int i ti) else m₁ y)) (Nw : News g L' s.heap ((I, o) :: nw)) (hJ : LJ prog w C R TD FI W T P Lc l oF oW oT oP oc tN th ps hv N i m₁ nw)
    (eL : Lc = L' + 1)
    (h : ∀ h' tk m' nw', Fr g L' h' m' → News g L' h' ((I, o) :: nw') → nw'.map (·.1) = [C, R, TD, FI, W, T, P, Lc] → LJ prog w C R TD FI W T P Lc l oF oW oT oP oc tN th ps hv N (i + 1) m' nw' → Q .next { s with heap := h', toks := tk }) :
    wpAny (model prog w) A (execs (forBody (bodyOf (Mine.hd.heap_39 w.params) 119)) (envOfC (fnAt (Mine.hd.heap_39 w.params) 119).qualname (fnAt (Mine.hd.heap_39 w.params) 119).scope L' fa (.ref cd))) Q (fun _ _ => False) s := by
  obtain ⟨_, dp, fr, gd, un⟩ := A
  dsimp only at hh hd hu; subst hh
  have X' := G.X
  have T' := G.T
  obtain ⟨⟨cvs, rvs, nc, nr, od, kt, rs, ns, len, tl, rfl, hC, hR, hod, hkt, htold, hinv, e9⟩, e1, e2, e3, e4, e5, e6, e7, e8⟩ := hJ
  replace F := frTop F (sy (sy (sy (sy (sy (sy (sy (sy (sy rfl e9) e8) e7) e6) e5) e4) e3) e2) e1)
  clear e1 e2 e3 e4 e5 e6 e7 e8 e9
  subst eF eP eL
  conv =>
    arg 3
    congr
    · whnf
    · congr
      · change Str.ofString "law"
      · whnf
      · skip
      · skip
      · skip
  refine wp_id ?_
  (try k_fold)
  have hN' : True → N = 6 ∨ N = 7 := fun _ => hN
  have hN0 : (0 : Int) < (N : Int) := by omega
  clear hN
  obtain ⟨fa0, ft0, hfi⟩ := hf i hi
  have hfl : i < fvs.length := by
    rcases Nat.lt_or_ge i fvs.length with q | q
    · exact q
    · rw [List.getElem?_eq_none q] at hfi; cases hfi
  have hi' : True → i < 9 := fun _ => hi
  clear hi
  have hi9 := hi' trivial
  walk_at "go"
  refine item_list ⟨_, (Nw (FI, listOf fvs.toArray nf) (by simp)).1, rfl, _, rfl⟩ (seqIndex_of (by omega) (by omega)) (by rw [Int.toNat_natCast]; exact hfi) (by omega) (by omega) ?_
  clear hi9
  walk_at "go"
  refine' slice_list3 (s := { heap := s.heap, gens := s.gens, drawn := s.drawn, toks := s.toks + 1 + 1, os := s.os }) ?F ?Nw ?hl ?p1 ?p2 ?p3 ?h0 ?_ ?hs ?ht ?hz
  case F => exact F
  case Nw => exact Nw
  case hl => exact Fr.list F hl
  case p1 => exact .int _ _
  case p2 => exact .int _ _
  case p3 => exact .int _ _
  case h0 => simp
  case hs => with_unfolding_all rfl
  case ht => intro _; with_unfolding_all rfl
  case hz => have := hI.length; rw [sizeLine_eq]; simp; omega
  intro h1 F1 N1
  have hpk := hI.pick (some (i : Int)) (some 63) (some 9)
  generalize pickNums xs (some (i : Int)) (some 63) (some 9) = picked at hpk
  generalize slicePick us.toArray (some (i : Int)) (some 63) (some 9) = pv at *
  dsimp only
  walk_at "go"
  rename Fr _ _ _ _ => F2
  rename News _ _ _ _ => N2
  replace N2 := news_tl N2
  have hN9 := hN' trivial
  obtain ⟨j, hj, ej⟩ := fmod_at (x := fa0 + picked.sum) (k := N) (by omega)
  rw [ej] at F2 ⊢
  obtain ⟨tp, ep⟩ := strs_get hS (j := j) (by rw [hT.len]; exact hj)
  have hvl2 : vs.length = N := by rw [hS.length, List.length_map, hT.len]
  refine item_list ⟨_, (N2 (P, listOf vs.toArray n) (by simp)).1, rfl, _, rfl⟩ (seqIndex_of (by omega) (by omega)) (by rw [Int.toNat_natCast]; exact ep) (by omega) (by omega) ?_
  generalize hq : ps.getD j [] = q at *
  clear ep ej hfi hpk hfl
  walk_at "go"
  rename Fr _ _ _ _ => F3
  rename News _ _ _ _ => N3
  clear hN9
  have hnl : ns.length ≤ 7 := inv_len hinv (by have := hN' trivial; omega)
  have hrl : rs.length ≤ 7 := by rw [hinv.length_eq]; exact hnl
  refine bisect2_spec G F3.keep rfl (by show dp + 1 < _; omega) (by show un + 20 < _; omega) (news_lst N3 (.tail _ (.tail _ (.head _)))) hR (by rw [List.length_map]; omega) (hinv.mono q) ?_
  intro h4 tk4 t4 r K4 hpl4
  replace F3 := F3.keeps K4
  replace N3 := N3.grown K4
  clear K4
  dsimp only
  walk_at "go3"
  rename Fr _ _ _ _ => F5
  rename News _ _ _ _ => N5
  have hany : (ns.any fun x => x == (j : Int)) = decide ((j : Int) ∈ ns) := by
    rw [Bool.eq_iff_iff, List.any_eq_true, decide_eq_true_iff]
    exact ⟨fun ⟨x, hx, e⟩ => (beq_iff_eq.mp e) ▸ hx, fun hx => ⟨_, hx, beq_self_eq_true _⟩⟩
  have hqm : q ∈ ps := hq ▸ tree_mem hT hj
  by_cases hm : (j : Int) ∈ ns
  · rw [hany, decide_eq_true hm] at F5
    obtain ⟨hr, hsub, G4, J4⟩ := hinv.goes hT hj hm (hq.symm ▸ hpl4)
    rw [hq] at G4 J4
    refine execs_cons_cut (h₀ := g) (L := L') (I := fun m' nw2 => ∃ nw' tn tq tr, nw2 = (I, o) :: nw' ∧ Mid prog w C R TD FI W T P (L' + 1) l (listOf fvs.toArray nf) oW oT (listOf vs.toArray n) oc tN th hv N (3 * i) (rs.eraseIdx r) ns len m' nw' ∧
        m' (Str.ofString "node") = some (.int j tn) ∧ m' (Str.ofString "path") = some (.str (wd q) tq) ∧ m' (Str.ofString "place") = some (.int r tr) ∧ m' (Str.ofString "goes") = some (.bool true)) ?_ ?_
    · have hrvl : rvs.length = rs.length := by rw [hR.length, List.length_map]
      walk_at "go"
      refine delitem_spec G F5.keep rfl (by show dp + 1 < _; omega) (by show un + 20 < _; omega) (N5 (R, listOf rvs.toArray nr) (.tail _ (.tail _ (.head _)))).1 (N5 (R, listOf rvs.toArray nr) (.tail _ (.tail _ (.head _)))).2.2 (seqIndex_of (by omega) (by omega)) (by omega) (by omega) (by omega) (by omega) ?_
      intro h6 tk6 K6 g6
      obtain ⟨F6, N6⟩ := touchR a1 a2 a3 a4 a5 a6 a7 a8 F5 N5 K6 g6
      clear F5 N5 K6 g6
      (try dsimp only)
      walk_at "go"
      refine Cut.mk F6 N6 ⟨_, _, _, _, rfl, ⟨⟨cvs, _, nc, nr + 1, od, kt, tl, rfl, hC, ?_, hod, hkt, htold, rfl⟩, rfl, rfl, rfl, rfl, rfl, rfl, rfl, rfl⟩, rfl, rfl, rfl, rfl⟩
      rw [map_erase]
      exact strs_erase hR _
    · rintro h6 tk6 m6 _ F6 N6 ⟨nw6, tn, tq, tr, rfl, M6, k1, k2, k3, k4⟩
      have hre : (rs.eraseIdx r).length ≤ 7 := by rw [List.length_eraseIdx_of_lt hr]; omega
      refine turn_b (fa := fa) (cd := cd) (ps := ps) G rfl hd hu (hN' trivial) hT hdw hW low a1 a2 a3 a4 a5 a6 a7 a8 (by have := hi' trivial; omega) G4.le hsub hqm hre F6 N6 M6 k1 k2 k3 k4 ?_
      intro h7 tk7 m7 nw7 tg F7 N7 M7 l1 l2 l3 l4
      exact turn_c (fa := fa) (cd := cd) G rfl hd hu hl hI hz (hN' trivial) hT hvl rfl hf rfl hS hdw hW ec low a1 a2 a3 a4 a5 a6 a7 a8 hre hnl (.inl ⟨rfl, hm, J4⟩) F7 N7 M7 l1 l2 l3 l4 rfl h
  · rw [hany, decide_eq_false hm] at F5
    have hpl5 : Place (rs.map wd) (wd (ps.getD j [])) r := hq.symm ▸ hpl4
    have G4 := (hinv.comes hT hj hm hpl5 hpl5).1
    rw [hq] at G4
    refine execs_cons_cut (h₀ := g) (L := L') (I := fun m' nw2 => ∃ nw' tn tq tr, nw2 = (I, o) :: nw' ∧ Mid prog w C R TD FI W T P (L' + 1) l (listOf fvs.toArray nf) oW oT (listOf vs.toArray n) oc tN th hv N (3 * i) rs ns len m' nw' ∧
        m' (Str.ofString "node") = some (.int j tn) ∧ m' (Str.ofString "path") = some (.str (wd q) tq) ∧ m' (Str.ofString "place") = some (.int r tr) ∧ m' (Str.ofString "goes") = some (.bool false)) ?_ ?_
    · walk_at "go"
      exact Cut.mk F5 N5 ⟨_, _, _, _, rfl, ⟨⟨cvs, rvs, nc, nr, od, kt, tl, rfl, hC, hR, hod, hkt, htold, rfl⟩, rfl, rfl, rfl, rfl, rfl, rfl, rfl, rfl⟩, rfl, rfl, rfl, rfl⟩
    · rintro h6 tk6 m6 _ F6 N6 ⟨nw6, tn, tq, tr, rfl, M6, k1, k2, k3, k4⟩
      refine turn_b (fa := fa) (cd := cd) (ps := ps) G rfl hd hu (hN' trivial) hT hdw hW low a1 a2 a3 a4 a5 a6 a7 a8 (by have := hi' trivial; omega) G4.le (hinv.sub hT) hqm hrl F6 N6 M6 k1 k2 k3 k4 ?_
      intro h7 tk7 m7 nw7 tg F7 N7 M7 l1 l2 l3 l4
      refine turn_c (fa := fa) (cd := cd) G rfl hd hu hl hI hz (hN' trivial) hT hvl rfl hf rfl hS hdw hW ec low a1 a2 a3 a4 a5 a6 a7 a8 hrl hnl (.inr ⟨rfl, hinv.mono q, fun r' hP' => ?_⟩) F7 N7 M7 l1 l2 l3 l4 rfl h
      have := (hinv.comes hT hj hm hpl5 (hq.symm ▸ hP')).2
      rw [hq] at this
      exact this
end
-- M12
section
variable {prog : Program} {w : World} {A : Around} {E : Value → Shared → Prop} {s : Shared} {b₀ : Heap} {Q : Value → Shared → Prop} {p : Program} {loose : List Str} {mean : ExcName → Option Value} {mg mb : Str → Option Value}

theorem law_core {g : Heap} {L' fa cd l : Addr} {us : List Value} {xs : List Int} {oc : Obj} {Q : Flow → Shared → Prop} (G : Okay w p loose mean mg mb g) (hh : A.handled = none) (hd : A.depth + 10 < recursionLimit) (hu : A.units + 200 < cLine)
    (hl : g.IsList l us.toArray) (hI : IntsAre us xs) (hz : xs.length ≤ 63)
    (F : Fr g L' s.heap (fun y => if y = Str.ofString "script" then some (.ref l) else none)) (N : News g L' s.heap [(L' + 1, oc)]) (hoc : oc.data = .cell none)
    (h : ∀ h' tk, g.StaysIn h' → Q (.ret (.bool true)) { s with heap := h', toks := tk }) :
    wpAny (model prog w) A (execs (bodyOf (Mine.hd.heap_39 w.params) 119) (envOfC (fnAt (Mine.hd.heap_39 w.params) 119).qualname (fnAt (Mine.hd.heap_39 w.params) 119).scope L' fa (.ref cd))) Q (fun _ _ => False) s := by
  obtain ⟨_, dp, fr, gd, un⟩ := A
  dsimp only at hh hd hu; subst hh
  have X' := G.X
  have T' := G.T
  conv =>
    arg 3
    congr
    · whnf
    · congr
      · change Str.ofString "law"
      · whnf
      · skip
      · skip
      · skip
  refine wp_id ?_
  (try k_fold)
  refine execs_cons_cut (h₀ := g) (L := L') (I := fun m' nw => nw = [(L' + 1, oc)] ∧ ∃ (N : Nat) (tN : Tok), (N = 6 ∨ N = 7) ∧ m' (Str.ofString "script") = some (.ref l) ∧ m' (Str.ofString "size") = some (.int N tN)) ?_ ?_
  · walk_at "go"
    all_goals rename Fr _ _ _ _ => F1
    all_goals rename News _ _ _ _ => N1
    · exact Cut.mk F1 N1 ⟨rfl, 6, _, .inl rfl, rfl, rfl⟩
    · exact Cut.mk F1 N1 ⟨rfl, 7, _, .inr rfl, rfl, rfl⟩
  rintro h1 tk1 m1 _ F1 N1 ⟨rfl, N, tN, hN, e1, e2⟩
  replace F1 := frBy F1 (sy (sy rfl e2) e1)
  walk_at "go"
  rename Fr _ _ _ _ => F2
  rename News _ _ _ _ => N2
  refine tree_spec G F2.keep rfl (by show dp + 1 < _; omega) (by show un + 20 < _; omega) (Fr.list F2 hl) hI hz (by omega) ?_
  intro h3 tk3 T P ps hv vs n th ⟨ocls, odict, odata, oslots⟩ K3 nT nP hTP hT hvl hS gP c1 c2 gT
  dsimp only at c1 c2
  subst c1 c2
  have N3 := news_add F2 (news_add F2 (N2.grown K3) nP gP) nT gT
  replace F2 := F2.keeps K3
  dsimp only
  walk_at "go"
  rename Fr _ _ _ _ => F4
  rename News _ _ _ _ => N4
  (with_reducible rename (Obj.data _ = Data.cell _) => ec)
  have hpl : ∀ q ∈ ps, q.length ≤ 6 := fun q hq => by
    obtain ⟨k, hk⟩ := List.getElem?_of_mem hq
    have := hT.short k q hk
    have hlt := (List.getElem?_eq_some_iff.mp hk).1
    rw [hT.len] at hlt
    omega
  refine words_spec (M := N - 1) G F4.keep rfl (by show dp + 1 < _; omega) (by show un + 20 < _; omega) ⟨_, (N4 (P, listOf vs.toArray n) (by simp)).1, rfl, _, rfl⟩ hS (by rw [hT.len]; omega) hpl hvl (by omega) (by omega) ?_
  intro h5 tk5 W oW kw K5 nW hdw hW gW
  have N5 := news_add F4 (N4.grown K5) nW gW
  replace F4 := F4.keeps K5
  dsimp only
  walk_at "go"
  refine newList_K (by k_asm) (by k_asm) ?_
  intro FI h6 F6 N6 lF
  dsimp only
  obtain ⟨fvs, N6, hf⟩ : ∃ fvs : List Value, News g L' h6 ((FI, listOf fvs.toArray 0) :: _) ∧ ∀ j, j < 9 → ∃ a t, fvs[j]? = some (Value.int a t) := ⟨[_, _, _, _, _, _, _, _, _], N6, fun j hj => by
    have : j = 0 ∨ j = 1 ∨ j = 2 ∨ j = 3 ∨ j = 4 ∨ j = 5 ∨ j = 6 ∨ j = 7 ∨ j = 8 := by omega
    rcases this with rfl | rfl | rfl | rfl | rfl | rfl | rfl | rfl | rfl <;> exact ⟨_, _, rfl⟩⟩
  walk_at "go"
  refine newDict_K (by k_asm) (by k_asm) T'.nolimit ?_
  intro TD h7 od F7 N7 lT low hdd _ _ _
  dsimp only
  walk_at "go"
  refine newList_K (by k_asm) (by k_asm) ?_
  intro R h8 F8 N8 lR
  dsimp only
  walk_at "go"
  refine newList_K (by k_asm) (by k_asm) ?_
  intro C h9 F9 N9 lC
  dsimp only
  walk_at "go"
  rename Fr _ _ _ _ => F10
  refine For_invVF F10 rfl rfl ?_
  walk_at "go"
  rename IsRange _ _ _ _ _ _ _ _ => hR
  rename Fr _ _ _ _ => F11
  rename News _ _ _ _ => N11
  have lt5 : ∀ (q : Addr × Obj), q ∈ [(W, oW), (T, _), (P, _), (L' + 1, _)] → q.1 < FI := lF
  refine iter_range (n := 9) (LJ prog w C R TD FI W T P (L' + 1) l (listOf fvs.toArray 0) oW ⟨.type "tuple", odict, .seq #[.ref P, .str (wd hv) th], oslots⟩ (listOf vs.toArray n) _ tN th ps hv N) rfl hR (by decide) (by decide) F11 N11 ⟨⟨[], [], 0, 0, od, [], [], [], 0, _, rfl, .nil, .nil, hdd, Nat.zero_le _, Told.start _ _, Inv.start _ _ _, rfl⟩, rfl, rfl, rfl, rfl, rfl, rfl, rfl, rfl⟩ ?_ ?_
  · intro i ti m₁ nw₁ h12 tk12 I o hi hlt hadr hJ F12 N12
    simp only [Int.zero_add, Int.mul_one] at F12
    have aC : C ∈ nw₁.map (·.1) := by rw [hadr]; exact .head _
    obtain ⟨qC, hqC, eqC⟩ := List.mem_map.mp aC
    refine law_turn (fa := fa) (cd := cd) (C := C) (R := R) (TD := TD) (FI := FI) (W := W) (T := T) (P := P) (Lc := L' + 1) (I := I) G rfl hd hu hl hI hz hN hT hvl rfl hf rfl hS hdw hW ec low (eqC ▸ hlt qC hqC) (lC _ (.head _)) (lR _ (.head _)) (lT _ (.head _)) (lt5 _ (.head _)) (lt5 _ (.tail _ (.head _))) (lt5 _ (.tail _ (.tail _ (.head _)))) (lt5 _ (.tail _ (.tail _ (.tail _ (.head _))))) hi F12 N12 hJ rfl ?_
    intro h' tk m' nw' F' N' ha hJ'
    exact Turn.next F' N' ha hJ'
  · intro m₁ nw₁ h12 tk12 hadr hJ F12 N12
    dsimp only
    walk_at "go"
    exact h _ _ (Fr.keep (by assumption))
end
-- M13
theorem fin : PySem.Challenge.rw_sw0026_01.Holds := hd (by
  k_go0
  (with_reducible rename Frag.In _ _ => KX)
  (with_reducible rename Top _ _ _ _ _ _ => KT)
  (with_reducible rename Heap.IsList _ _ _ => hL)
  (with_reducible rename IntsAre _ _ => hI)
  (with_reducible rename ¬ ((63 : Nat) : Int) < _ => hz)
  (with_reducible rename Fr _ _ _ _ => F)
  (with_reducible rename News _ _ _ _ => N)
  (with_reducible rename Obj.data _ = Data.cell _ => hc)
  refine wpAny_mono (law_core (w := _) ⟨KX, KT⟩ rfl (Nat.le_of_ble_eq_true rfl) (Nat.le_of_ble_eq_true rfl) hL hI (by omega) F N hc ?_) (fun _ _ q => q) (fun _ _ q => q.elim)
  intro h' tk hs
  dsimp only
  refine ⟨.inl ⟨_, WData.bool true, [], rfl, fun _ => rfl, ?_, ?_, ?_⟩, hs, rfl, by assumption⟩
  · exact ReadsW.bool _
  · with_unfolding_all rfl
  · exact fun _ => ⟨.nil, fun _ h => nomatch h⟩)
end Mine
theorem PySem.Challenge.cw_sw0026_01_holds : PySem.Challenge.rw_sw0026_01.Holds := by
  exact Mine.fin
