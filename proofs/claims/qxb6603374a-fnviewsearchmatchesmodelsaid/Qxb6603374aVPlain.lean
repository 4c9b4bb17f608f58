/- The plain part of the two FnViewSearch laws: what newViewSearch computes, over the transactions' places. -/
import GoSem.Claim
namespace Go.Proofs.Qxb6603374a

/-! ### Counting -/
/-- How many numbers below n have P. -/
def cnt (P : Nat → Bool) : Nat → Nat
  | 0 => 0
  | n + 1 => cnt P n + (if P n then 1 else 0)
/-- The sum of f over the numbers below n. -/
def sumTo (f : Nat → Nat) : Nat → Nat
  | 0 => 0
  | n + 1 => sumTo f n + f n
theorem cnt_filter (P : Nat → Bool) : ∀ n, ((List.range n).filter P).length = cnt P n
  | 0 => rfl
  | n + 1 => by
    rw [List.range_succ, List.filter_append, List.length_append, cnt_filter P n]
    show _ = cnt P n + _
    by_cases h : P n = true
    · simp [h]
    · simp [h]
theorem cnt_congr {P Q : Nat → Bool} : ∀ {n}, (∀ i, i < n → P i = Q i) → cnt P n = cnt Q n
  | 0, _ => rfl
  | n + 1, h => by unfold cnt; rw [cnt_congr (fun i hi => h i (by omega)), h n (by omega)]
theorem sumTo_congr {f g : Nat → Nat} : ∀ {n}, (∀ i, i < n → f i = g i) → sumTo f n = sumTo g n
  | 0, _ => rfl
  | n + 1, h => by unfold sumTo; rw [sumTo_congr (fun i hi => h i (by omega)), h n (by omega)]
theorem sumTo_zero : ∀ n, sumTo (fun _ => 0) n = 0
  | 0 => rfl
  | n + 1 => by unfold sumTo; rw [sumTo_zero n]
theorem sumTo_add (f g : Nat → Nat) : ∀ n, sumTo (fun i => f i + g i) n = sumTo f n + sumTo g n
  | 0 => rfl
  | n + 1 => by unfold sumTo; rw [sumTo_add f g n]; omega
/-- One of the numbers below m counts. -/
theorem sumTo_one {m a : Nat} (ha : a < m) (b : Bool) : sumTo (fun t => if b && decide (a = t) then 1 else 0) m = if b then 1 else 0 := by
  induction m with
  | zero => omega
  | succ m ih =>
    unfold sumTo
    by_cases e : a = m
    · subst e
      have : sumTo (fun t => if b && decide (a = t) then 1 else 0) a = 0 := by
        rw [sumTo_congr (g := fun _ => 0) (fun i hi => by simp; intro _; omega), sumTo_zero]
      rw [this]
      simp
    · rw [ih (by omega)]
      simp [e]
/-- What is counted under each t is counted once. -/
theorem cnt_by {P : Nat → Bool} {f : Nat → Nat} {m : Nat} : ∀ {n}, (∀ i, i < n → P i = true → f i < m) → sumTo (fun t => cnt (fun i => P i && decide (f i = t)) n) m = cnt P n
  | 0, _ => by simp only [cnt]; exact sumTo_zero m
  | n + 1, h => by
    have ih := cnt_by (P := P) (f := f) (m := m) (n := n) (fun i hi => h i (by omega))
    simp only [cnt]
    rw [sumTo_add, ih]
    by_cases hp : P n = true
    · have := sumTo_one (h n (by omega) hp) true
      simp only [Bool.true_and] at this
      simp only [hp, Bool.true_and, this]
    · simp only [hp, Bool.false_and]
      simp [sumTo_zero]
/-- Pairs counted by rows and by columns. -/
theorem sum_swap (R : Nat → Nat → Bool) (m : Nat) : ∀ n, sumTo (fun t => cnt (fun x => R t x) n) m = sumTo (fun x => cnt (fun t => R t x) m) n
  | 0 => by simp only [cnt, sumTo]; exact sumTo_zero m
  | n + 1 => by
    simp only [cnt, sumTo]
    rw [sumTo_add, sum_swap R m n]
    congr 1
    induction m with
    | zero => rfl
    | succ m ih => simp only [sumTo, cnt, ih]

/-! ### Rows of places -/
/-- A row's places, each once, in the order of their first standing. -/
def once (l : List Nat) : List Nat := l.foldl (fun acc t => if t ∈ acc then acc else acc ++ [t]) []
theorem once_snoc (l : List Nat) (t : Nat) : once (l ++ [t]) = if t ∈ once l then once l else once l ++ [t] := by
  unfold once
  rw [List.foldl_append]
  rfl
theorem snoc_ind {p : List Nat → Prop} (h0 : p []) (h1 : ∀ l a, p l → p (l ++ [a])) (l : List Nat) : p l := by
  have h : ∀ r : List Nat, p r.reverse := fun r => by
    induction r with
    | nil => exact h0
    | cons a r ih => rw [List.reverse_cons]; exact h1 _ _ ih
  have h2 := h l.reverse
  rwa [List.reverse_reverse] at h2
theorem mem_once (l : List Nat) (t : Nat) : t ∈ once l ↔ t ∈ l := by
  induction l using snoc_ind with
  | h0 => simp [once]
  | h1 l a ih =>
    rw [once_snoc]
    split
    · rename_i h
      rw [ih, List.mem_append]
      constructor
      · exact .inl
      · rintro (h1 | h1)
        · exact h1
        · simp at h1; subst h1; rw [← ih]; exact h
    · rw [List.mem_append, List.mem_append, ih]
theorem once_nodup (l : List Nat) : (once l).Nodup := by
  induction l using snoc_ind with
  | h0 => simp [once]
  | h1 l a ih =>
    rw [once_snoc]
    split
    · exact ih
    · rename_i h
      rw [List.nodup_append]
      refine ⟨ih, by simp, fun x hx y hy e => ?_⟩
      simp at hy
      subst hy; subst e
      exact h hx
/-- A row without repeats of numbers below m is as long as they are many. -/
theorem nodup_cnt (m : Nat) (l : List Nat) (hn : l.Nodup) (hl : ∀ x ∈ l, x < m) : l.length = cnt (fun t => decide (t ∈ l)) m := by
  induction m generalizing l with
  | zero =>
    cases l with
    | nil => rfl
    | cons a r => exact absurd (hl a (by simp)) (Nat.not_lt_zero _)
  | succ m ih =>
    simp only [cnt]
    have h1 := ih (l.erase m) (hn.erase m) (fun x hx => by
      have h2 := hl x (List.mem_of_mem_erase hx)
      have h3 : x ≠ m := fun e => by subst e; exact (List.Nodup.not_mem_erase hn) hx
      omega)
    have h2 : cnt (fun t => decide (t ∈ l.erase m)) m = cnt (fun t => decide (t ∈ l)) m := cnt_congr (fun i hi => by
      have : i ≠ m := by omega
      simp [List.mem_erase_of_ne this])
    rw [h2] at h1
    rw [← h1]
    by_cases hm : m ∈ l
    · rw [List.length_erase_of_mem hm]
      have := List.length_pos_of_mem hm
      simp [hm]
      omega
    · rw [List.erase_of_not_mem hm]
      simp [hm]

/-- The last place below k at which t stands in a row. -/
def lastTo (l : List Nat) (t : Nat) : Nat → Option Nat
  | 0 => none
  | k + 1 => if l.getD k 0 = t then some k else lastTo l t k
theorem lastTo_none {l : List Nat} {t : Nat} : ∀ {k}, lastTo l t k = none ↔ ∀ j, j < k → l.getD j 0 ≠ t
  | 0 => by simp [lastTo]
  | k + 1 => by
    unfold lastTo
    by_cases e : l.getD k 0 = t
    · rw [if_pos e]
      constructor
      · intro h; cases h
      · intro h; exact absurd e (h k (by omega))
    · rw [if_neg e, lastTo_none]
      constructor
      · intro h j hj
        by_cases e2 : j = k
        · subst e2; exact e
        · exact h j (by omega)
      · intro h j hj; exact h j (by omega)
theorem lastTo_some {l : List Nat} {t q : Nat} : ∀ {k}, lastTo l t k = some q ↔ q < k ∧ l.getD q 0 = t ∧ ∀ j, q < j → j < k → l.getD j 0 ≠ t
  | 0 => by simp [lastTo]
  | k + 1 => by
    unfold lastTo
    by_cases e : l.getD k 0 = t
    · rw [if_pos e]
      constructor
      · intro h; cases h; exact ⟨by omega, e, fun j h1 h2 => by omega⟩
      · rintro ⟨h1, h2, h3⟩
        by_cases e2 : q = k
        · rw [e2]
        · exact absurd e (h3 k (by omega) (by omega))
    · rw [if_neg e, lastTo_some]
      constructor
      · rintro ⟨h1, h2, h3⟩
        refine ⟨by omega, h2, fun j h4 h5 => ?_⟩
        by_cases e2 : j = k
        · subst e2; exact e
        · exact h3 j h4 (by omega)
      · rintro ⟨h1, h2, h3⟩
        have : q ≠ k := fun e2 => e (by rw [← e2]; exact h2)
        exact ⟨by omega, h2, fun j h4 h5 => h3 j h4 (by omega)⟩
theorem mem_row {l : List Nat} {t : Nat} : t ∈ l ↔ lastTo l t l.length ≠ none := by
  rw [Ne, lastTo_none]
  constructor
  · intro h h2
    obtain ⟨j, hj, e⟩ := List.getElem_of_mem h
    exact h2 j hj (by simp [List.getD, List.getElem?_eq_getElem hj, e])
  · intro h
    by_cases hm : t ∈ l
    · exact hm
    · exact absurd (fun j hj e => hm (by rw [← e]; simp [List.getD, List.getElem?_eq_getElem hj])) h

/-- What newViewSearch is given, over the transactions' places. -/
structure VIn where
  m : Nat
  ni : Nat
  row : Nat → List Nat
  nr : Nat
  rt : Nat → Nat
  it : Nat → Nat
  sn : Nat → Int
  own : Nat → Bool
namespace VIn
variable (v : VIn)
structure Fits : Prop where
  row : ∀ x, x < v.ni → ∀ t ∈ v.row x, t < v.m
  rt : ∀ i, i < v.nr → v.rt i < v.m
  it : ∀ i, i < v.nr → v.it i < v.ni
  sn : ∀ i, i < v.nr → v.sn i < (v.row (v.it i)).length
/-- The place of the transaction whose version read i sees. -/
def src (i : Nat) : Option Nat := if 0 ≤ v.sn i then some ((v.row (v.it i)).getD (v.sn i).toNat 0) else none
/-- Read i is refused. -/
def Bad (i : Nat) : Prop := v.own i ≠ decide (v.src i = some (v.rt i)) ∨ (v.own i = false ∧ ∃ s, v.src i = some s ∧ lastTo (v.row (v.it i)) s (v.row (v.it i)).length ≠ some (v.sn i).toNat)
def writes (t n : Nat) : List Nat := (List.range n).filter (fun x => decide (t ∈ v.row x))
def writers (x : Nat) : List Nat := once (v.row x)
def final (x : Nat) : Int := if v.row x = [] then -1 else (((v.row x).getD ((v.row x).length - 1) 0 : Nat) : Int)
/-- The read as newViewSearch keeps it: reader, item, source, whether the reader writes the item. -/
def srcZ (i : Nat) : Int := match v.src i with | some s => (s : Int) | none => -1
def wr (i : Nat) : Bool := decide (v.rt i ∈ v.row (v.it i))
/-- The reads below n of transaction t. -/
def reads (t n : Nat) : List Nat := (List.range n).filter (fun i => !v.own i && decide (v.rt i = t))
def seenBy (s n : Nat) : List Nat := (List.range n).filter (fun i => !v.own i && decide (v.src i = some s))
def pending (t n : Nat) : Nat := cnt (fun i => !v.own i && decide (v.rt i = t) && (v.src i).isSome) n
def armed (x n : Nat) : Nat := cnt (fun i => !v.own i && decide (v.it i = x) && (v.src i).isNone) n

theorem src_lt {v : VIn} (h : v.Fits) {i s : Nat} (hi : i < v.nr) (hs : v.src i = some s) : s < v.m := by
  unfold src at hs
  by_cases h0 : 0 ≤ v.sn i
  · rw [if_pos h0] at hs
    cases hs
    have h1 := h.sn i hi
    have h2 : (v.sn i).toNat < (v.row (v.it i)).length := by omega
    exact h.row _ (h.it i hi) _ (by simp [List.getD, List.getElem?_eq_getElem h2])
  · rw [if_neg h0] at hs; cases hs
theorem src_ne {v : VIn} {i : Nat} (h : ¬ v.Bad i) (ho : v.own i = false) : v.src i ≠ some (v.rt i) := fun e => h (.inl (by rw [ho, e]; simp))
/-- The pairs (transaction, item it writes), by rows and by columns. -/
theorem pairs {v : VIn} (h : v.Fits) : sumTo (fun t => (v.writes t v.ni).length) v.m = sumTo (fun x => (v.writers x).length) v.ni := by
  have h1 : sumTo (fun t => (v.writes t v.ni).length) v.m = sumTo (fun t => cnt (fun x => decide (t ∈ v.row x)) v.ni) v.m := sumTo_congr (fun t _ => cnt_filter _ _)
  rw [h1, sum_swap]
  refine sumTo_congr (fun x hx => ?_)
  rw [nodup_cnt v.m (v.writers x) (once_nodup _) (fun t ht => h.row x hx t ((mem_once _ _).1 ht))]
  exact cnt_congr (fun t _ => by simp [writers, mem_once])
/-- The reads that see a transaction's version, by reader and by source. -/
theorem seen_sum {v : VIn} (h : v.Fits) : sumTo (fun t => v.pending t v.nr) v.m = sumTo (fun s => (v.seenBy s v.nr).length) v.m := by
  have h1 : sumTo (fun t => v.pending t v.nr) v.m = cnt (fun i => !v.own i && (v.src i).isSome) v.nr := by
    rw [← cnt_by (f := v.rt) (m := v.m) (fun i hi _ => h.rt i hi)]
    refine sumTo_congr (fun t _ => cnt_congr (fun i _ => ?_))
    cases v.own i <;> cases (v.src i).isSome <;> simp
  have h2 : sumTo (fun s => (v.seenBy s v.nr).length) v.m = cnt (fun i => !v.own i && (v.src i).isSome) v.nr := by
    rw [← cnt_by (f := fun i => (v.src i).getD 0) (m := v.m) (fun i hi hp => ?_)]
    · refine sumTo_congr (fun s _ => ?_)
      unfold seenBy
      rw [cnt_filter]
      refine cnt_congr (fun i _ => ?_)
      cases hs : v.src i with
      | none => simp
      | some s' => simp
    · simp at hp
      obtain ⟨s, hs⟩ := Option.isSome_iff_exists.1 hp.2
      rw [hs]
      exact src_lt h hi hs
  rw [h1, h2]
/-- The reads of the initial version of an item, by reader. -/
theorem armed_sum {v : VIn} (h : v.Fits) (x : Nat) : sumTo (fun t => cnt (fun i => !v.own i && decide (v.it i = x) && (v.src i).isNone && decide (v.rt i = t)) v.nr) v.m = v.armed x v.nr :=
  cnt_by (f := v.rt) (m := v.m) (fun i hi _ => h.rt i hi)
theorem final_mem {v : VIn} {x : Nat} (h : v.row x ≠ []) : ∃ t, t ∈ v.writers x ∧ v.final x = (t : Int) := by
  have hl := List.length_pos_iff.2 h
  refine ⟨(v.row x).getD ((v.row x).length - 1) 0, (mem_once _ _).2 ?_, by unfold final; rw [if_neg h]⟩
  have : (v.row x).length - 1 < (v.row x).length := by omega
  simp [List.getD, List.getElem?_eq_getElem this]
theorem writers_nil {v : VIn} {x : Nat} : v.writers x = [] ↔ v.row x = [] := by
  unfold writers
  constructor
  · intro h
    cases hr : v.row x with
    | nil => rfl
    | cons a r =>
      have : a ∈ once (v.row x) := (mem_once _ _).2 (by rw [hr]; simp)
      rw [h] at this
      simp at this
  · intro h; rw [h]; rfl
end VIn
end Go.Proofs.Qxb6603374a
