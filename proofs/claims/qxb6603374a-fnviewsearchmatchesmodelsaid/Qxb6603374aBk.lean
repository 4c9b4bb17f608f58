/- What FnViewSearchBookkeeping's checks need: the answer's cells and rows, and the plain facts. -/
import Derived.Test.Qxb6603374aVKept
import Derived.Test.Qxb6603374aEqRows
namespace Go.Proofs.Qxb6603374a
open Go.ChangeShapes Go.WideShapes Go.ChangeAt Go.RowKit

/-! ### Plain facts -/
theorem getD_mem {l : List Nat} {k : Nat} (h : k < l.length) : l.getD k 0 ∈ l := by
  simp [List.getD, List.getElem?_eq_getElem h]
theorem map_getD {α : Type} (l : List Nat) (g : Nat → α) (d : α) {k : Nat} (h : k < l.length) : (l.map g).getD k d = g (l.getD k 0) := by
  simp [List.getD, List.getElem?_eq_getElem h]
theorem range_map_getD (n : Nat) (g : Nat → Int) {k : Nat} (h : k < n) : ((List.range n).map g).getD k 0 = g k := by
  simp [List.getD, h]
theorem has_nat {l : List Nat} {t : Nat} : Has (natInts l) (t : Int) ↔ t ∈ l := by
  constructor
  · rintro ⟨i, h1, h2⟩
    rw [natInts_length] at h1
    rw [natInts_getD] at h2
    have : l.getD i 0 = t := by omega
    rw [← this]
    exact getD_mem h1
  · intro h
    obtain ⟨i, hi, e⟩ := List.getElem_of_mem h
    refine ⟨i, by rw [natInts_length]; exact hi, ?_⟩
    rw [natInts_getD]
    simp [List.getD, List.getElem?_eq_getElem hi, e]
theorem asc_filter (P : Nat → Bool) (n : Nat) {i j : Nat} (h1 : i < j) (h2 : j < ((List.range n).filter P).length) : ((List.range n).filter P).getD i 0 < ((List.range n).filter P).getD j 0 := by
  have hp : ((List.range n).filter P).Pairwise (· < ·) := List.Pairwise.filter _ List.pairwise_lt_range
  have h3 : i < ((List.range n).filter P).length := by omega
  have := List.pairwise_iff_getElem.1 hp i j h3 h2 h1
  simp only [List.getD, List.getElem?_eq_getElem h3, List.getElem?_eq_getElem h2, Option.getD_some]
  exact this
theorem nodup_getD {l : List Nat} (hn : l.Nodup) {i j : Nat} (h1 : i < j) (h2 : j < l.length) : l.getD i 0 ≠ l.getD j 0 := by
  have h3 : i < l.length := by omega
  have := List.pairwise_iff_getElem.1 hn i j h3 h2 h1
  simp only [List.getD, List.getElem?_eq_getElem h3, List.getElem?_eq_getElem h2, Option.getD_some]
  exact this
theorem cnt_true {P : Nat → Bool} {n : Nat} (h : P n = true) : cnt P (n + 1) = cnt P n + 1 := by
  show cnt P n + (if P n = true then 1 else 0) = _
  rw [if_pos h]
theorem cnt_false {P : Nat → Bool} {n : Nat} (h : P n = false) : cnt P (n + 1) = cnt P n := by
  show cnt P n + (if P n = true then 1 else 0) = _
  rw [if_neg (by rw [h]; exact Bool.false_ne_true)]; rfl
theorem cnt_step {P Q : Nat → Bool} {n k : Nat} (h : P n = Q k) (hc : cnt P n = cnt Q k) : cnt P (n + 1) = cnt Q (k + 1) := by
  show cnt P n + (if P n = true then 1 else 0) = cnt Q k + (if Q k = true then 1 else 0)
  rw [h, hc]
namespace VIn
variable {V : VIn}
theorem writes_lt {t n k : Nat} (h : k < (V.writes t n).length) : (V.writes t n).getD k 0 < n := List.mem_range.1 (List.mem_filter.1 (getD_mem h)).1
theorem writes_in {t n k : Nat} (h : k < (V.writes t n).length) : t ∈ V.writers ((V.writes t n).getD k 0) := by
  have := (List.mem_filter.1 (getD_mem h)).2
  simp only [decide_eq_true_eq] at this
  exact (mem_once _ _).2 this
theorem writes_asc (V : VIn) (t n : Nat) : Asc (natInts (V.writes t n)) := fun i j h1 h2 => by
  rw [natInts_length] at h2
  rw [natInts_getD, natInts_getD]
  have := asc_filter (fun x => decide (t ∈ V.row x)) n h1 h2
  unfold writes
  omega
theorem writers_lt (hV : V.Fits) {x k : Nat} (hx : x < V.ni) (h : k < (V.writers x).length) : (V.writers x).getD k 0 < V.m := hV.row x hx _ ((mem_once _ _).1 (getD_mem h))
theorem reads_at {t n k : Nat} (h : k < (V.reads t n).length) : (V.reads t n).getD k 0 < n ∧ V.own ((V.reads t n).getD k 0) = false ∧ V.rt ((V.reads t n).getD k 0) = t := by
  have h1 := getD_mem h
  have h2 := (List.mem_filter.1 h1).2
  simp only [Bool.and_eq_true, Bool.not_eq_true', decide_eq_true_eq] at h2
  exact ⟨List.mem_range.1 (List.mem_filter.1 h1).1, h2.1, h2.2⟩
theorem seenBy_at {s n k : Nat} (h : k < (V.seenBy s n).length) : (V.seenBy s n).getD k 0 < n ∧ V.own ((V.seenBy s n).getD k 0) = false ∧ V.src ((V.seenBy s n).getD k 0) = some s := by
  have h1 := getD_mem h
  have h2 := (List.mem_filter.1 h1).2
  simp only [Bool.and_eq_true, Bool.not_eq_true', decide_eq_true_eq] at h2
  exact ⟨List.mem_range.1 (List.mem_filter.1 h1).1, h2.1, h2.2⟩
/-- The writes flag of a read of t is what the sorted row of t's items says. -/
theorem wr_has {i t : Nat} (ht : V.rt i = t) (hx : V.it i < V.ni) : V.wr i = true ↔ Has (natInts (V.writes t V.ni)) (V.it i : Int) := by
  rw [has_nat]
  unfold wr writes
  rw [List.mem_filter, List.mem_range, ht]
  simp [hx]
/-- How many of the first k reads of t see the initial version of x. -/
def armK (V : VIn) (t x k : Nat) : Nat := cnt (fun j => decide (V.it ((V.reads t V.nr).getD j 0) = x) && (V.src ((V.reads t V.nr).getD j 0)).isNone) k
/-- How many of the first k reads of t see a transaction's version. -/
def penK (V : VIn) (t k : Nat) : Nat := cnt (fun j => (V.src ((V.reads t V.nr).getD j 0)).isSome) k
/-- What the check has counted in: the first t transactions, and k reads of t. -/
def armT (V : VIn) (t k x : Nat) : Nat := sumTo (fun t' => V.armK t' x (V.reads t' V.nr).length) t + V.armK t x k
end VIn
theorem cnt_filter_at (P Q : Nat → Bool) : ∀ n, cnt (fun j => Q (((List.range n).filter P).getD j 0)) ((List.range n).filter P).length = cnt (fun i => P i && Q i) n
  | 0 => rfl
  | n + 1 => by
    have ih := cnt_filter_at P Q n
    have e : (List.range (n + 1)).filter P = (List.range n).filter P ++ (if P n then [n] else []) := by
      rw [List.range_succ, List.filter_append]
      by_cases h : P n = true <;> simp [h]
    rw [e]
    by_cases h : P n = true
    · rw [if_pos h, List.length_append]
      refine cnt_step (n := ((List.range n).filter P).length) ?_ ?_
      · have e1 : (((List.range n).filter P) ++ [n]).getD ((List.range n).filter P).length 0 = n := by simp [List.getD]
        show Q _ = (P n && Q n)
        rw [e1, h, Bool.true_and]
      · rw [← ih]
        exact cnt_congr (fun i hi => by rw [show (((List.range n).filter P) ++ [n]).getD i 0 = ((List.range n).filter P).getD i 0 by simp [List.getD, List.getElem?_append_left hi]])
    · rw [if_neg h, List.append_nil, ih, cnt_false]
      simp [h]
namespace VIn
variable {V : VIn}
theorem penK_all (V : VIn) (t : Nat) : V.penK t (V.reads t V.nr).length = V.pending t V.nr := by
  exact cnt_filter_at (fun i => !V.own i && decide (V.rt i = t)) (fun i => (V.src i).isSome) V.nr
theorem armT_all (hV : V.Fits) (x : Nat) : V.armT V.m 0 x = V.armed x V.nr := by
  unfold armT
  show sumTo _ V.m + 0 = _
  rw [Nat.add_zero, ← armed_sum hV x]
  refine sumTo_congr (fun t _ => ?_)
  unfold armK reads
  rw [cnt_filter_at (fun i => !V.own i && decide (V.rt i = t)) (fun i => decide (V.it i = x) && (V.src i).isNone)]
  refine cnt_congr (fun i _ => ?_)
  cases V.own i <;> cases decide (V.rt i = t) <;> cases decide (V.it i = x) <;> cases (V.src i).isNone <;> rfl
theorem armT_next (V : VIn) (t x : Nat) : V.armT t (V.reads t V.nr).length x = V.armT (t + 1) 0 x := by
  unfold armT
  show _ = sumTo _ t + _ + 0
  rw [Nat.add_zero]
theorem armT_zero (V : VIn) (x : Nat) : V.armT 0 0 x = 0 := rfl
theorem armT_some {t k x : Nat} (h : (V.src ((V.reads t V.nr).getD k 0)).isSome = true) : V.armT t (k + 1) x = V.armT t k x := by
  show _ + V.armK t x (k + 1) = _ + V.armK t x k
  congr 1
  refine cnt_false ?_
  show (_ && (V.src ((V.reads t V.nr).getD k 0)).isNone) = false
  cases hs : V.src ((V.reads t V.nr).getD k 0) with
  | none => rw [hs] at h; cases h
  | some s => simp
theorem armT_none {t k x : Nat} (h : V.src ((V.reads t V.nr).getD k 0) = none) : V.armT t (k + 1) x = if x = V.it ((V.reads t V.nr).getD k 0) then V.armT t k x + 1 else V.armT t k x := by
  show _ + V.armK t x (k + 1) = _
  by_cases e : x = V.it ((V.reads t V.nr).getD k 0)
  · rw [if_pos e]
    have h1 : V.armK t x (k + 1) = V.armK t x k + 1 := cnt_true (by simp only [h, e]; simp)
    rw [h1]
    rfl
  · rw [if_neg e]
    have h1 : V.armK t x (k + 1) = V.armK t x k := cnt_false (by simp only [h]; simp; exact fun h2 => e h2.symm)
    rw [h1]
    rfl
theorem penK_some {t k : Nat} (h : (V.src ((V.reads t V.nr).getD k 0)).isSome = true) : V.penK t (k + 1) = V.penK t k + 1 := cnt_true h
theorem penK_none {t k : Nat} (h : V.src ((V.reads t V.nr).getD k 0) = none) : V.penK t (k + 1) = V.penK t k := cnt_false (by simp only [h]; rfl)
theorem reads_len (V : VIn) (t n : Nat) : (V.reads t n).length ≤ n := by unfold reads; rw [cnt_filter]; exact cnt_le _ _
theorem seenBy_len (V : VIn) (t n : Nat) : (V.seenBy t n).length ≤ n := by unfold seenBy; rw [cnt_filter]; exact cnt_le _ _
theorem writes_len (V : VIn) (t n : Nat) : (V.writes t n).length ≤ n := by unfold writes; rw [cnt_filter]; exact cnt_le _ _
theorem writers_len (hV : V.Fits) {x : Nat} (hx : x < V.ni) : (V.writers x).length ≤ V.m := by
  rw [nodup_cnt V.m (V.writers x) (once_nodup _) (fun t ht => hV.row x hx t ((mem_once _ _).1 ht))]
  exact cnt_le _ _
end VIn
theorem sumTo_le {f : Nat → Nat} {c : Nat} : ∀ {n}, (∀ i, i < n → f i ≤ c) → sumTo f n ≤ n * c
  | 0, _ => by simp [sumTo]
  | n + 1, h => by
    have := sumTo_le (f := f) (c := c) (n := n) (fun i hi => h i (by omega))
    have := h n (by omega)
    simp only [sumTo, Nat.add_mul, Nat.one_mul]
    omega

/-! ### The answer's struct stored -/
theorem below_keep18 {w : World} {b : Nat} (v0 v1 v2 v3 v4 v5 v6 v7 v8 v9 v10 v11 v12 v13 v14 v15 v16 v17 : Value) : ∀ B w0, B ≤ b → Below B w0 w → Below B w0 ((((((((((((((((((w.setCell ⟨b, 0, none⟩ v0).setCell ⟨b, 1, none⟩ v1).setCell ⟨b, 2, none⟩ v2).setCell ⟨b, 3, none⟩ v3).setCell ⟨b, 4, none⟩ v4).setCell ⟨b, 5, none⟩ v5).setCell ⟨b, 6, none⟩ v6).setCell ⟨b, 7, none⟩ v7).setCell ⟨b, 8, none⟩ v8).setCell ⟨b, 9, none⟩ v9).setCell ⟨b, 10, none⟩ v10).setCell ⟨b, 11, none⟩ v11).setCell ⟨b, 12, none⟩ v12).setCell ⟨b, 13, none⟩ v13).setCell ⟨b, 14, none⟩ v14).setCell ⟨b, 15, none⟩ v15).setCell ⟨b, 16, none⟩ v16).setCell ⟨b, 17, none⟩ v17) := fun B w0 hB h => by
  iterate 18 refine Below.setCell ?_ hB _
  exact h
/-- A cheap test ahead of a dear law: which operation it is. -/
theorem op_at {ops : Array Oper} {rest : List Oper} {o : Oper} {a : Act} {Q : Exit → Act → World → Prop} {w : World} (q : Op) (_ : o.op = q) (h : wpList Try.prog ops Q (o :: rest) a w) : wpList Try.prog ops Q (o :: rest) a w := h
/-- A cheap test ahead of the dear law: the operation stores such a struct. -/
theorem store41_at {ops : Array Oper} {rest : List Oper} {o : Oper} {a : Act} {Q : Exit → Act → World → Prop} {w : World} (x y : Operand) (_ : o.op = Op.store 41 x y) (h : wpList Try.prog ops Q (o :: rest) a w) : wpList Try.prog ops Q (o :: rest) a w := h
/-- The struct of 18 cells stored: the world behind is a letter. -/
theorem store18n (w : World) {ops : Array Oper} {rest : List Oper} {o : Oper} {a : Act} {Q : Exit → Act → World → Prop} (hgd : o.guard = none) (x y : Operand) (hop : o.op = Op.store 41 x y) (b : Nat) (hx : a.eval x = .pointer (some ⟨b, 0, none⟩)) (v0 v1 v2 v3 v4 v5 v6 v7 v8 v9 v10 v11 v12 v13 v14 v15 v16 v17 : Value) (hy : a.eval y = .agg #[v0, v1, v2, v3, v4, v5, v6, v7, v8, v9, v10, v11, v12, v13, v14, v15, v16, v17]) {f : Nat → Value} (h0 : w.rowIs b 41 18 f) (e0 : v0.oneCell' = true) (e1 : v1.oneCell' = true) (e2 : v2.oneCell' = true) (e3 : v3.oneCell' = true) (e4 : v4.oneCell' = true) (e5 : v5.oneCell' = true) (e6 : v6.oneCell' = true) (e7 : v7.oneCell' = true) (e8 : v8.oneCell' = true) (e9 : v9.oneCell' = true) (e10 : v10.oneCell' = true) (e11 : v11.oneCell' = true) (e12 : v12.oneCell' = true) (e13 : v13.oneCell' = true) (e14 : v14.oneCell' = true) (e15 : v15.oneCell' = true) (e16 : v16.oneCell' = true) (e17 : v17.oneCell' = true)
    (hK : ∀ w', Hid (OutRow b #[v0, v1, v2, v3, v4, v5, v6, v7, v8, v9, v10, v11, v12, v13, v14, v15, v16, v17] w') → Hid (∀ B w0, B ≤ b → Below B w0 w → Below B w0 w') → wpList Try.prog ops Q rest (a.put o.dst undef) w') : wpList Try.prog ops Q (o :: rest) a w :=
  store18 w hgd x y hop b hx v0 v1 v2 v3 v4 v5 v6 v7 v8 v9 v10 v11 v12 v13 v14 v15 v16 v17 hy h0 e0 e1 e2 e3 e4 e5 e6 e7 e8 e9 e10 e11 e12 e13 e14 e15 e16 e17 (hK _ (row_set18 h0 v0 v1 v2 v3 v4 v5 v6 v7 v8 v9 v10 v11 v12 v13 v14 v15 v16 v17) (below_keep18 v0 v1 v2 v3 v4 v5 v6 v7 v8 v9 v10 v11 v12 v13 v14 v15 v16 v17))

/-! ### The answer as the checks read it -/
structure Bk (V : VIn) (m ni oB b4 b5 b6 b8 b9 H1 H2 : Nat) (ra4 ra5 : Nat → Option Addr) (rc4 rc5 : Nat → Nat) (w : World) : Prop where
  c0 : w.cell? ⟨oB, 0, none⟩ = some (.bool true)
  c1 : w.cell? ⟨oB, 1, none⟩ = some (.bool false)
  c4 : w.cell? ⟨oB, 4, none⟩ = some (.slice (some ⟨b6, 0, none⟩) ni ni)
  c5 : w.cell? ⟨oB, 5, none⟩ = some (.slice (some ⟨b8, 0, none⟩) m m)
  c6 : w.cell? ⟨oB, 6, none⟩ = some (.slice (some ⟨b9, 0, none⟩) ni ni)
  c8 : w.cell? ⟨oB, 8, none⟩ = some (.slice (some ⟨b4, 0, none⟩) m m)
  c9 : w.cell? ⟨oB, 9, none⟩ = some (.slice (some ⟨b5, 0, none⟩) ni ni)
  c10 : w.cell? ⟨oB, 10, none⟩ = some (.slice (some ⟨H1, 0, none⟩) m m)
  c11 : w.cell? ⟨oB, 11, none⟩ = some (.slice (some ⟨H1 + 1, 0, none⟩) m m)
  c12 : w.cell? ⟨oB, 12, none⟩ = some (.slice (some ⟨H1 + 2, 0, none⟩) m m)
  c13 : w.cell? ⟨oB, 13, none⟩ = some (.slice (some ⟨H1 + 3, 0, none⟩) m m)
  c14 : w.cell? ⟨oB, 14, none⟩ = some (.slice (some ⟨H2, 0, none⟩) m m)
  c15 : w.cell? ⟨oB, 15, none⟩ = some (.slice (some ⟨H2 + 1, 0, none⟩) m m)
  c16 : w.cell? ⟨oB, 16, none⟩ = some (.slice (some ⟨H2 + 2, 0, none⟩) m m)
  c17 : w.cell? ⟨oB, 17, none⟩ = some (.slice (some ⟨H2 + 3, 0, none⟩) m m)
  r4 : RowsAt w (some ⟨b4, 0, none⟩) m ra4 rc4 (fun t => natInts (V.writes t ni))
  r5 : RowsAt w (some ⟨b5, 0, none⟩) ni ra5 rc5 (fun x => natInts (V.writers x))
  r6 : Row w (some ⟨b6, 0, none⟩) ((List.range ni).map V.final)
  r8 : Row w (some ⟨b8, 0, none⟩) ((List.range m).map (fun t => (V.pending t V.nr : Int)))
  r9 : Row w (some ⟨b9, 0, none⟩) ((List.range ni).map (fun x => (V.armed x V.nr : Int)))
  hm : V.m = m
  hn : V.ni = ni
  u1 : URows V (fun t => V.reads t V.nr) H1 w
  u2 : URows V (fun t => V.seenBy t V.nr) H2 w
section
variable {V : VIn} {m ni oB b4 b5 b6 b8 b9 H1 H2 : Nat} {ra4 ra5 : Nat → Option Addr} {rc4 rc5 : Nat → Nat} {w w' : World}
theorem Bk.kept (h : Bk V m ni oB b4 b5 b6 b8 b9 H1 H2 ra4 ra5 rc4 rc5 w) (hb : Below w.heap.size w w') : Bk V m ni oB b4 b5 b6 b8 b9 H1 H2 ra4 ra5 rc4 rc5 w' :=
  ⟨cellOld hb h.c0, cellOld hb h.c1, cellOld hb h.c4, cellOld hb h.c5, cellOld hb h.c6, cellOld hb h.c8, cellOld hb h.c9, cellOld hb h.c10, cellOld hb h.c11, cellOld hb h.c12, cellOld hb h.c13, cellOld hb h.c14, cellOld hb h.c15, cellOld hb h.c16, cellOld hb h.c17, h.r4.kept hb, h.r5.kept hb, h.r6.kept hb, h.r8.kept hb, h.r9.kept hb, h.hm, h.hn, h.u1.kept hb, h.u2.kept hb⟩
theorem rowsAt_cell {b n : Nat} {ra : Nat → Option Addr} {rc : Nat → Nat} {L : Nat → List Nat} (h : RowsAt w (some ⟨b, 0, none⟩) n ra rc (fun t => natInts (L t))) {t : Nat} (ht : t < n) : w.cell? ⟨b, t, none⟩ = some (.slice (ra t) (L t).length (rc t)) := by
  obtain ⟨b', o', e, hc, -, -⟩ := h t ht
  cases e
  rw [natInts_length, Nat.zero_add] at hc
  exact hc
theorem Bk.wrs (h : Bk V m ni oB b4 b5 b6 b8 b9 H1 H2 ra4 ra5 rc4 rc5 w) {t : Nat} (ht : t < m) : w.cell? ⟨b4, t, none⟩ = some (.slice (ra4 t) (V.writes t ni).length (rc4 t)) := rowsAt_cell h.r4 ht
theorem Bk.wrsRow (h : Bk V m ni oB b4 b5 b6 b8 b9 H1 H2 ra4 ra5 rc4 rc5 w) {t : Nat} (ht : t < m) : Row w (ra4 t) (natInts (V.writes t ni)) := by
  obtain ⟨_, _, _, _, hr, _⟩ := h.r4 t ht
  exact hr
theorem Bk.wts (h : Bk V m ni oB b4 b5 b6 b8 b9 H1 H2 ra4 ra5 rc4 rc5 w) {x : Nat} (hx : x < ni) : w.cell? ⟨b5, x, none⟩ = some (.slice (ra5 x) (V.writers x).length (rc5 x)) := rowsAt_cell h.r5 hx
theorem Bk.wtsRow (h : Bk V m ni oB b4 b5 b6 b8 b9 H1 H2 ra4 ra5 rc4 rc5 w) {x : Nat} (hx : x < ni) : Row w (ra5 x) (natInts (V.writers x)) := by
  obtain ⟨_, _, _, _, hr, _⟩ := h.r5 x hx
  exact hr
theorem natRow_at {a : Option Addr} {l : List Nat} (h : Row w a (natInts l)) {k : Nat} (hk : k < l.length) : ∃ b o, a = some ⟨b, o, none⟩ ∧ w.cell? ⟨b, o + k, none⟩ = some (.int .i64 ((l.getD k 0 : Nat) : Int)) := by
  obtain ⟨b, o, e, hc, -⟩ := h k (by rw [natInts_length]; exact hk)
  rw [natInts_getD] at hc
  exact ⟨b, o, e, hc⟩
theorem row_map_at {b n : Nat} {g : Nat → Int} (h : Row w (some ⟨b, 0, none⟩) ((List.range n).map g)) {k : Nat} (hk : k < n) : w.cell? ⟨b, k, none⟩ = some (.int .i64 (g k)) := by
  obtain ⟨b', o, e, hc, -⟩ := h k (by simp; exact hk)
  cases e
  rw [range_map_getD n g hk, Nat.zero_add] at hc
  exact hc
theorem Bk.fin (h : Bk V m ni oB b4 b5 b6 b8 b9 H1 H2 ra4 ra5 rc4 rc5 w) {x : Nat} (hx : x < ni) : w.cell? ⟨b6, x, none⟩ = some (.int .i64 (V.final x)) := row_map_at h.r6 hx
theorem Bk.pen (h : Bk V m ni oB b4 b5 b6 b8 b9 H1 H2 ra4 ra5 rc4 rc5 w) {t : Nat} (ht : t < m) : w.cell? ⟨b8, t, none⟩ = some (.int .i64 (V.pending t V.nr : Int)) := row_map_at h.r8 ht
/-- The heads of unzipped rows. -/
theorem URows.heads {L : Nat → List Nat} {H : Nat} (h : URows V L H w) {t : Nat} (ht : t < V.m) : w.cell? ⟨H, t, none⟩ = some (.slice (some ⟨H + 4 + 4 * t, 0, none⟩) (L t).length (L t).length) ∧ w.cell? ⟨H + 1, t, none⟩ = some (.slice (some ⟨H + 5 + 4 * t, 0, none⟩) (L t).length (L t).length) ∧ w.cell? ⟨H + 2, t, none⟩ = some (.slice (some ⟨H + 6 + 4 * t, 0, none⟩) (L t).length (L t).length) ∧ w.cell? ⟨H + 3, t, none⟩ = some (.slice (some ⟨H + 7 + 4 * t, 0, none⟩) (L t).length (L t).length) := by
  obtain ⟨h1, h2, h3, h4⟩ := h
  refine ⟨?_, ?_, ?_, ?_⟩
  · obtain ⟨_, _, e, hc, -, -⟩ := h1 t ht
    cases e; rw [List.length_map, Nat.zero_add] at hc; exact hc
  · obtain ⟨_, _, e, hc, -, -⟩ := h2 t ht
    cases e; rw [List.length_map, Nat.zero_add] at hc; exact hc
  · obtain ⟨_, _, e, hc, -, -⟩ := h3 t ht
    cases e; rw [List.length_map, Nat.zero_add] at hc; exact hc
  · obtain ⟨_, _, e, hc, -, -⟩ := h4 t ht
    cases e; rw [List.length_map, Nat.zero_add] at hc; exact hc
theorem URows.elems {L : Nat → List Nat} {H : Nat} (h : URows V L H w) {t k : Nat} (ht : t < V.m) (hk : k < (L t).length) : w.cell? ⟨H + 4 + 4 * t, k, none⟩ = some (.int .i64 (V.rt ((L t).getD k 0) : Int)) ∧ w.cell? ⟨H + 5 + 4 * t, k, none⟩ = some (.int .i64 (V.it ((L t).getD k 0) : Int)) ∧ w.cell? ⟨H + 6 + 4 * t, k, none⟩ = some (.int .i64 (V.srcZ ((L t).getD k 0))) ∧ w.cell? ⟨H + 7 + 4 * t, k, none⟩ = some (.bool (V.wr ((L t).getD k 0))) := by
  obtain ⟨h1, h2, h3, h4⟩ := h
  refine ⟨?_, ?_, ?_, ?_⟩
  · obtain ⟨_, _, _, -, hr, -⟩ := h1 t ht
    obtain ⟨_, _, e, hc, -⟩ := hr k (by rw [List.length_map]; exact hk)
    cases e; rw [map_getD (L t) (fun i => (V.rt i : Int)) 0 hk, Nat.zero_add] at hc; exact hc
  · obtain ⟨_, _, _, -, hr, -⟩ := h2 t ht
    obtain ⟨_, _, e, hc, -⟩ := hr k (by rw [List.length_map]; exact hk)
    cases e; rw [map_getD (L t) (fun i => (V.it i : Int)) 0 hk, Nat.zero_add] at hc; exact hc
  · obtain ⟨_, _, _, -, hr, -⟩ := h3 t ht
    obtain ⟨_, _, e, hc, -⟩ := hr k (by rw [List.length_map]; exact hk)
    cases e; rw [map_getD (L t) V.srcZ 0 hk, Nat.zero_add] at hc; exact hc
  · obtain ⟨_, _, _, -, hr, -⟩ := h4 t ht
    obtain ⟨_, _, e, hc⟩ := hr k (by rw [List.length_map]; exact hk)
    cases e; rw [map_getD (L t) V.wr false hk, Nat.zero_add] at hc; exact hc
theorem Bk.of {st : Nat → Int} {xa : Option Addr} {xc g : Nat} {b : Nat → Nat} {ra2 ra3 : Nat → Option Addr} {rc2 rc3 : Nat → Nat} (hm : V.m = m) (hn : V.ni = ni)
    (ho : OutRow oB #[.bool true, .bool false, .slice xa V.m xc, .slice (some ⟨b 1, 0, none⟩) V.m V.m, .slice (some ⟨b 6, 0, none⟩) V.ni V.ni, .slice (some ⟨b 8, 0, none⟩) V.m V.m, .slice (some ⟨b 9, 0, none⟩) V.ni V.ni, .slice (some ⟨b 7, 0, none⟩) V.m V.m, .slice (some ⟨b 4, 0, none⟩) V.m V.m, .slice (some ⟨b 5, 0, none⟩) V.ni V.ni,
        .slice (some ⟨H1, 0, none⟩) V.m V.m, .slice (some ⟨H1 + 1, 0, none⟩) V.m V.m, .slice (some ⟨H1 + 2, 0, none⟩) V.m V.m, .slice (some ⟨H1 + 3, 0, none⟩) V.m V.m, .slice (some ⟨H2, 0, none⟩) V.m V.m, .slice (some ⟨H2 + 1, 0, none⟩) V.m V.m, .slice (some ⟨H2 + 2, 0, none⟩) V.m V.m, .slice (some ⟨H2 + 3, 0, none⟩) V.m V.m] w)
    (he : NvEnd V st xa xc g b ra2 ra3 ra4 ra5 rc2 rc3 rc4 rc5 w) (hu1 : URows V (fun t => V.reads t V.nr) H1 w) (hu2 : URows V (fun t => V.seenBy t V.nr) H2 w) :
    Bk V m ni oB (b 4) (b 5) (b 6) (b 8) (b 9) H1 H2 ra4 ra5 rc4 rc5 w := by
  subst hm hn
  exact ⟨ho.cell (i := 0) (by omega), ho.cell (i := 1) (by omega), ho.cell (i := 4) (by omega), ho.cell (i := 5) (by omega), ho.cell (i := 6) (by omega), ho.cell (i := 8) (by omega), ho.cell (i := 9) (by omega), ho.cell (i := 10) (by omega), ho.cell (i := 11) (by omega), ho.cell (i := 12) (by omega), ho.cell (i := 13) (by omega), ho.cell (i := 14) (by omega), ho.cell (i := 15) (by omega), ho.cell (i := 16) (by omega), ho.cell (i := 17) (by omega), he.r4, he.r5, he.r6, he.r8, he.r9, rfl, rfl, hu1, hu2⟩
end
/-! ### The two searches where the region draws -/
section
variable {w : World}
theorem contains_quiet {a : Option Addr} {c n : Nat} {zs : List Int} {t : Int} (hR : Row w a zs) (hn : zs.length = n) (hb : n ≤ 1048576) (h : Has zs t) (d : Nat) :
    Calls Try.prog 31 #[.slice a n c, .int .i64 t] (w.drewN d) fun e w' => e = .returned (.bool true) ∧ ∃ m, w' = w.drewN m :=
  (contains_any a c n zs t (w.drewN d) (hR.drewN d) hn hb).mono fun e w' ⟨r, h1, h2, h3⟩ => by
    have : r = true := h2.2 h
    subst this
    exact ⟨h1, d, h3⟩
theorem sorted_quiet {a : Option Addr} {c n : Nat} {zs : List Int} {t : Int} {x : Bool} (hR : Row w a zs) (hn : zs.length = n) (hb : n ≤ 1048576) (ha : Asc zs) (h : x = true ↔ Has zs t) (d : Nat) :
    Calls Try.prog 28 #[.slice a n c, .int .i64 t] (w.drewN d) fun e w' => e = .returned (.bool x) ∧ ∃ m, w' = w.drewN m :=
  (sorted_any a c n zs t (w.drewN d) (hR.drewN d) hn hb ha).mono fun e w' ⟨r, h1, h2, h3⟩ => by
    have e : r = x := by
      cases r with
      | true => exact (h.2 (h2.1 rfl)).symm
      | false =>
        cases x with
        | false => rfl
        | true => exact absurd (h2.2 (h.1 rfl)) (by simp)
    subst e
    exact ⟨h1, d, h3⟩
end
end Go.Proofs.Qxb6603374a
