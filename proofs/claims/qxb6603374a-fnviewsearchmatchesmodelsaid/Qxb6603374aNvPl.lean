/- What the rows and the maps of newViewSearch hold on the way, in plain words. -/
import Derived.Test.Qxb6603374aNv
namespace Go.Proofs.Qxb6603374a
open Go.RowKit

theorem mem_take {l : List Nat} {t s : Nat} (hs : s ≤ l.length) : t ∈ l.take s ↔ lastTo l t s ≠ none := by
  rw [Ne, lastTo_none]
  constructor
  · intro h h2
    obtain ⟨j, hj, e⟩ := List.getElem_of_mem h
    rw [List.length_take] at hj
    refine h2 j (by omega) ?_
    rw [List.getElem_take] at e
    simp [List.getD, List.getElem?_eq_getElem (show j < l.length by omega), e]
  · intro h
    by_cases hm : t ∈ l.take s
    · exact hm
    · refine absurd (fun j hj e => hm ?_) h
      rw [← e]
      have h1 : (l.take s)[j]? = l[j]? := by rw [List.getElem?_take, if_pos hj]
      have h2 : l[j]? = some (l[j]'(by omega)) := List.getElem?_eq_getElem (by omega)
      simp only [List.getD, h2, Option.getD_some]
      exact List.mem_of_getElem? (h1.trans h2)
theorem take_next {l : List Nat} {s : Nat} (hs : s < l.length) : l.take (s + 1) = l.take s ++ [l.getD s 0] := by
  rw [List.take_add_one]
  simp [List.getD, List.getElem?_eq_getElem hs]

namespace VIn
variable (V : VIn)
def wTo (t x s : Nat) : List Nat := V.writes t x ++ (if lastTo (V.row x) t s = none then [] else [x])
def xTo (y x s : Nat) : List Nat := if y < x then V.writers y else if y = x then once ((V.row x).take s) else []
def lTo (t y x s : Nat) : Option Nat := if y < x then lastTo (V.row y) t (V.row y).length else if y = x then lastTo (V.row x) t s else none
/-- The cells of read i. -/
def rcell (i : Nat) : List Value := [.int .i64 (V.rt i : Int), .int .i64 (V.it i : Int), .int .i64 (V.srcZ i), .bool (V.wr i)]
theorem writes_succ (t x : Nat) : V.writes t (x + 1) = V.writes t x ++ (if t ∈ V.row x then [x] else []) := by
  unfold writes
  rw [List.range_succ, List.filter_append]
  congr 1
  by_cases h : t ∈ V.row x <;> simp [h]
theorem reads_succ (t i : Nat) : V.reads t (i + 1) = V.reads t i ++ (if V.own i = false ∧ V.rt i = t then [i] else []) := by
  unfold reads
  rw [List.range_succ, List.filter_append]
  congr 1
  by_cases h : V.own i = false <;> by_cases h2 : V.rt i = t <;> simp [h, h2]
theorem seenBy_succ (t i : Nat) : V.seenBy t (i + 1) = V.seenBy t i ++ (if V.own i = false ∧ V.src i = some t then [i] else []) := by
  unfold seenBy
  rw [List.range_succ, List.filter_append]
  congr 1
  by_cases h : V.own i = false <;> by_cases h2 : V.src i = some t <;> simp [h, h2]
theorem pending_succ (t i : Nat) : V.pending t (i + 1) = V.pending t i + (if V.own i = false ∧ V.rt i = t ∧ (V.src i).isSome = true then 1 else 0) := by
  unfold pending
  simp only [cnt]
  congr 1
  by_cases h : V.own i = false <;> by_cases h2 : V.rt i = t <;> by_cases h3 : (V.src i).isSome = true <;> simp [h, h2, h3]
theorem armed_succ (x i : Nat) : V.armed x (i + 1) = V.armed x i + (if V.own i = false ∧ V.it i = x ∧ (V.src i).isNone = true then 1 else 0) := by
  unfold armed
  simp only [cnt]
  congr 1
  by_cases h : V.own i = false <;> by_cases h2 : V.it i = x <;> by_cases h3 : (V.src i).isNone = true <;> simp [h, h2, h3]
end VIn

/-- Behind item x's first s versions and the first i reads; the final writers of the items below fx. -/
structure Pl (V : VIn) (st : Nat → Int) (x s i fx : Nat) (L : Nat → List Nat) (f2 : Value → Option Int) (n2 : Nat) (ct : Nat → Nat → Value) : Prop where
  lw : ∀ t, t < V.m → L t = V.wTo t x s
  lx : ∀ y, y < V.ni → L (V.m + y) = V.xTo y x s
  lr : ∀ t, t < V.m → L (V.m + V.ni + t) = V.reads t i
  ls : ∀ t, t < V.m → L (2 * V.m + V.ni + t) = V.seenBy t i
  f2 : ∀ t y, t < V.m → y < V.ni → f2 (key2 t y) = (V.lTo t y x s).map (fun k => (k : Int))
  n2 : n2 = sumTo (fun y => (V.row y).length) x + s
  c1 : ∀ t, t < V.m → ct 1 t = .int .i64 (st t)
  c6 : ∀ y, y < fx → y < V.ni → ct 6 y = .int .i64 (V.final y)
  c7 : ∀ t, t < V.m → ct 7 t = .bool false
  c8 : ∀ t, t < V.m → ct 8 t = .int .i64 (V.pending t i : Int)
  c9 : ∀ y, y < V.ni → ct 9 y = .int .i64 (V.armed y i : Int)
section
variable {V : VIn} {st : Nat → Int} {x s i fx n2 : Nat} {L : Nat → List Nat} {f2 : Value → Option Int} {ct : Nat → Nat → Value}
/-- Ahead of the first item. -/
theorem Pl.start (h1 : ∀ t, t < V.m → ct 1 t = .int .i64 (st t)) (h7 : ∀ t, t < V.m → ct 7 t = .bool false) (h8 : ∀ t, t < V.m → ct 8 t = .int .i64 0) (h9 : ∀ y, y < V.ni → ct 9 y = .int .i64 0) : Pl V st 0 0 0 0 (fun _ => []) (fun _ => none) 0 ct := by
  refine ⟨fun t _ => rfl, fun y _ => ?_, fun t _ => rfl, fun t _ => rfl, fun t y _ _ => ?_, rfl, h1, fun y hy => absurd hy (Nat.not_lt_zero _), h7, h8, h9⟩
  · unfold VIn.xTo
    by_cases e : y = 0
    · subst e; rfl
    · rw [if_neg (Nat.not_lt_zero _), if_neg e]
  · unfold VIn.lTo
    by_cases e : y = 0
    · subst e; rfl
    · rw [if_neg (Nat.not_lt_zero _), if_neg e]; rfl
/-- A store into a header. -/
theorem Pl.hdr (h : Pl V st x s i fx L f2 n2 ct) {j : Nat} (h1 : 2 ≤ j) (h2 : j ≤ 5) (f : Nat → Value) : Pl V st x s i fx L f2 n2 (at' ct j f) := by
  have o : ∀ k, k ≠ j → at' ct j f k = ct k := fun k hk => at'_other _ _ hk
  refine ⟨h.lw, h.lx, h.lr, h.ls, h.f2, h.n2, fun t ht => ?_, fun t h1 ht => ?_, fun t ht => ?_, fun t ht => ?_, fun t ht => ?_⟩
  · rw [o 1 (by omega)]; exact h.c1 t ht
  · rw [o 6 (by omega)]; exact h.c6 t h1 ht
  · rw [o 7 (by omega)]; exact h.c7 t ht
  · rw [o 8 (by omega)]; exact h.c8 t ht
  · rw [o 9 (by omega)]; exact h.c9 t ht
theorem Pl.set6 (h : Pl V st x s i fx L f2 n2 ct) {k : Nat} (hk : fx ≤ k) (u : Value) : Pl V st x s i fx L f2 n2 (at' ct 6 (at' (ct 6) k u)) := by
  have o : ∀ j, j ≠ 6 → at' ct 6 (at' (ct 6) k u) j = ct j := fun j hj => at'_other _ _ hj
  refine ⟨h.lw, h.lx, h.lr, h.ls, h.f2, h.n2, fun t ht => ?_, fun t h1 ht => ?_, fun t ht => ?_, fun t ht => ?_, fun t ht => ?_⟩
  · rw [o 1 (by omega)]; exact h.c1 t ht
  · rw [at'_same, at'_other _ _ (by omega)]; exact h.c6 t h1 ht
  · rw [o 7 (by omega)]; exact h.c7 t ht
  · rw [o 8 (by omega)]; exact h.c8 t ht
  · rw [o 9 (by omega)]; exact h.c9 t ht
theorem Pl.fin (h : Pl V st x s i fx L f2 n2 ct) : Pl V st x s i (fx + 1) L f2 n2 (at' ct 6 (at' (ct 6) fx (.int .i64 (V.final fx)))) := by
  have h' := h.set6 (Nat.le_refl fx) (.int .i64 (V.final fx))
  refine ⟨h.lw, h.lx, h.lr, h.ls, h.f2, h.n2, h'.c1, fun t h1 ht => ?_, h'.c7, h'.c8, h'.c9⟩
  by_cases e : t = fx
  · subst e; rw [at'_same, at'_same]
  · exact h'.c6 t (by omega) ht
theorem lastTo_succ (l : List Nat) (t k : Nat) : lastTo l t (k + 1) = if l.getD k 0 = t then some k else lastTo l t k := rfl
theorem Pl.f2_next (h : Pl V st x s i fx L f2 n2 ct) {T : Nat} (hT : (V.row x).getD s 0 = T) : ∀ t y, t < V.m → y < V.ni → updV f2 (key2 T x) (s : Int) (key2 t y) = (V.lTo t y x (s + 1)).map (fun k => (k : Int)) := by
  intro t y ht hy
  by_cases e : t = T ∧ y = x
  · obtain ⟨rfl, rfl⟩ := e
    rw [updV_same]
    unfold VIn.lTo
    rw [if_neg (Nat.lt_irrefl _), if_pos rfl, lastTo_succ, if_pos hT]
    rfl
  · rw [updV_other _ _ (fun e2 => e (key2_inj e2)), h.f2 t y ht hy]
    congr 1
    unfold VIn.lTo
    by_cases c : y = x
    · subst c
      rw [if_neg (Nat.lt_irrefl _), if_neg (Nat.lt_irrefl _), if_pos rfl, if_pos rfl, lastTo_succ, if_neg (by rw [hT]; intro e2; exact e ⟨e2.symm, rfl⟩)]
    · by_cases c2 : y < x
      · rw [if_pos c2, if_pos c2]
      · rw [if_neg c2, if_neg c2, if_neg c, if_neg c]
theorem wTo_next {T : Nat} (hT : (V.row x).getD s 0 = T) (t : Nat) : V.wTo t x (s + 1) = if t = T then V.writes t x ++ [x] else V.wTo t x s := by
  unfold VIn.wTo
  rw [lastTo_succ, hT]
  by_cases e : t = T
  · subst e; simp
  · rw [if_neg (Ne.symm e), if_neg e]
theorem xTo_next {T : Nat} (hs : s < (V.row x).length) (hT : (V.row x).getD s 0 = T) (y : Nat) : V.xTo y x (s + 1) = if y = x then (if lastTo (V.row x) T s = none then V.xTo y x s ++ [T] else V.xTo y x s) else V.xTo y x s := by
  unfold VIn.xTo
  by_cases e : y = x
  · subst e
    simp only [Nat.lt_irrefl, if_false, if_true]
    rw [take_next hs, once_snoc, hT]
    by_cases c : lastTo (V.row y) T s = none
    · rw [if_pos c, if_neg]
      rw [mem_once, mem_take (by omega)]
      exact fun h => h c
    · rw [if_neg c, if_pos]
      rw [mem_once, mem_take (by omega)]
      exact c
  · simp only [e, if_false]
/-- One more version, by a transaction that has one already. -/
theorem Pl.old (h : Pl V st x s i fx L f2 n2 ct) {T : Nat} (hs : s < (V.row x).length) (hT : (V.row x).getD s 0 = T) (ho : lastTo (V.row x) T s ≠ none) : Pl V st x (s + 1) i fx L (updV f2 (key2 T x) (s : Int)) (n2 + 1) ct := by
  refine ⟨fun t ht => ?_, fun y hy => ?_, h.lr, h.ls, h.f2_next hT, by have := h.n2; omega, h.c1, h.c6, h.c7, h.c8, h.c9⟩
  · rw [h.lw t ht, wTo_next hT]
    by_cases e : t = T
    · subst e
      unfold VIn.wTo
      rw [if_neg ho, if_pos rfl]
    · rw [if_neg e]
  · rw [h.lx y hy, xTo_next hs hT, if_neg ho]
    simp
/-- One more version, the transaction's first. -/
theorem Pl.new (h : Pl V st x s i fx L f2 n2 ct) {T : Nat} (hx : x < V.ni) (hTm : T < V.m) (hs : s < (V.row x).length) (hT : (V.row x).getD s 0 = T) (ho : lastTo (V.row x) T s = none) :
    Pl V st x (s + 1) i fx (at' (at' L T (L T ++ [x])) (V.m + x) (at' L T (L T ++ [x]) (V.m + x) ++ [T])) (updV f2 (key2 T x) (s : Int)) (n2 + 1) ct := by
  refine ⟨fun t ht => ?_, fun y hy => ?_, fun t ht => ?_, fun t ht => ?_, h.f2_next hT, by have := h.n2; omega, h.c1, h.c6, h.c7, h.c8, h.c9⟩
  · rw [at'_other _ _ (by omega), at'_eq, wTo_next hT]
    by_cases e : t = T
    · subst e
      rw [if_pos rfl, if_pos rfl, h.lw t ht]
      unfold VIn.wTo
      rw [if_pos ho, List.append_nil]
    · rw [if_neg e, if_neg e, h.lw t ht]
  · rw [at'_eq, xTo_next hs hT, if_pos ho]
    by_cases e : y = x
    · subst e
      rw [if_pos rfl, if_pos rfl, at'_other _ _ (by omega), h.lx y hy]
    · rw [if_neg (by omega), if_neg e, at'_other _ _ (by omega), h.lx y hy]
  · rw [at'_other _ _ (by omega), at'_other _ _ (by omega)]; exact h.lr t ht
  · rw [at'_other _ _ (by omega), at'_other _ _ (by omega)]; exact h.ls t ht
/-- The item is done. -/
theorem Pl.item (h : Pl V st x (V.row x).length i fx L f2 n2 ct) : Pl V st (x + 1) 0 i fx L f2 n2 ct := by
  refine ⟨fun t ht => ?_, fun y hy => ?_, h.lr, h.ls, fun t y ht hy => ?_, by rw [h.n2]; rfl, h.c1, h.c6, h.c7, h.c8, h.c9⟩
  · rw [h.lw t ht]
    unfold VIn.wTo
    rw [V.writes_succ]
    have : lastTo (V.row (x + 1)) t 0 = none := rfl
    rw [if_pos this, List.append_nil]
    by_cases c : t ∈ V.row x
    · rw [if_pos c, if_neg (mem_row.1 c)]
    · rw [if_neg c, if_pos]
      exact Classical.byContradiction (fun e => c (mem_row.2 e))
  · rw [h.lx y hy]
    unfold VIn.xTo
    by_cases c : y < x
    · rw [if_pos c, if_pos (by omega)]
    · rw [if_neg c]
      by_cases e : y = x
      · subst e
        rw [if_pos rfl, if_pos (by omega), List.take_length]
        rfl
      · rw [if_neg e, if_neg (by omega)]
        by_cases e2 : y = x + 1
        · rw [if_pos e2]; rfl
        · rw [if_neg e2]
  · rw [h.f2 t y ht hy]
    congr 1
    unfold VIn.lTo
    by_cases c : y < x
    · rw [if_pos c, if_pos (by omega)]
    · rw [if_neg c]
      by_cases e : y = x
      · subst e
        rw [if_pos rfl, if_pos (by omega)]
      · rw [if_neg e, if_neg (by omega)]
        by_cases e2 : y = x + 1
        · subst e2; rw [if_pos rfl]; rfl
        · rw [if_neg e2]
/-- A read of its own transaction's version is passed over. -/
theorem Pl.own (h : Pl V st x s i fx L f2 n2 ct) (ho : V.own i = true) : Pl V st x s (i + 1) fx L f2 n2 ct := by
  have hf : ¬ V.own i = false := by rw [ho]; simp
  refine ⟨h.lw, h.lx, fun t ht => ?_, fun t ht => ?_, h.f2, h.n2, h.c1, h.c6, h.c7, fun t ht => ?_, fun y hy => ?_⟩
  · rw [V.reads_succ, if_neg (fun e => hf e.1), List.append_nil]; exact h.lr t ht
  · rw [V.seenBy_succ, if_neg (fun e => hf e.1), List.append_nil]; exact h.ls t ht
  · rw [V.pending_succ, if_neg (fun e => hf e.1)]; exact h.c8 t ht
  · rw [V.armed_succ, if_neg (fun e => hf e.1)]; exact h.c9 y hy
/-- A read of the initial version. -/
theorem Pl.init (h : Pl V st x s i fx L f2 n2 ct) (ho : V.own i = false) (hs : V.src i = none) (hr : V.rt i < V.m) :
    Pl V st x s (i + 1) fx (at' L (V.m + V.ni + V.rt i) (L (V.m + V.ni + V.rt i) ++ [i])) f2 n2 (at' ct 9 (at' (ct 9) (V.it i) (.int .i64 ((V.armed (V.it i) i : Int) + 1)))) := by
  have o : ∀ k u, k ≠ 9 → at' ct 9 u k = ct k := fun k u hk => at'_other _ _ hk
  refine ⟨fun t ht => ?_, fun y hy => ?_, fun t ht => ?_, fun t ht => ?_, h.f2, h.n2, fun t ht => ?_, fun t h1 ht => ?_, fun t ht => ?_, fun t ht => ?_, fun y hy => ?_⟩
  · rw [at'_other _ _ (by omega)]; exact h.lw t ht
  · rw [at'_other _ _ (by omega)]; exact h.lx y hy
  · rw [at'_eq, V.reads_succ]
    by_cases e : V.rt i = t
    · rw [if_pos (by omega), if_pos ⟨ho, e⟩, e, h.lr t ht]
    · rw [if_neg (by omega), if_neg (fun c => e c.2), List.append_nil, h.lr t ht]
  · rw [at'_other _ _ (by omega), V.seenBy_succ, hs, if_neg (by simp), List.append_nil]; exact h.ls t ht
  · rw [o 1 _ (by omega)]; exact h.c1 t ht
  · rw [o 6 _ (by omega)]; exact h.c6 t h1 ht
  · rw [o 7 _ (by omega)]; exact h.c7 t ht
  · rw [o 8 _ (by omega), V.pending_succ, hs, if_neg (by simp)]; exact h.c8 t ht
  · rw [at'_same, at'_eq, V.armed_succ, hs]
    by_cases e : y = V.it i
    · subst e
      rw [if_pos rfl, if_pos ⟨ho, rfl, rfl⟩]
      simp
    · rw [if_neg e, if_neg (fun c => e c.2.1.symm)]; exact h.c9 y hy
/-- A read of another transaction's version. -/
theorem Pl.seen (h : Pl V st x s i fx L f2 n2 ct) {S : Nat} (ho : V.own i = false) (hs : V.src i = some S) (hr : V.rt i < V.m) (hS : S < V.m) :
    Pl V st x s (i + 1) fx (at' (at' L (2 * V.m + V.ni + S) (L (2 * V.m + V.ni + S) ++ [i])) (V.m + V.ni + V.rt i) (at' L (2 * V.m + V.ni + S) (L (2 * V.m + V.ni + S) ++ [i]) (V.m + V.ni + V.rt i) ++ [i])) f2 n2 (at' ct 8 (at' (ct 8) (V.rt i) (.int .i64 ((V.pending (V.rt i) i : Int) + 1)))) := by
  have o : ∀ k u, k ≠ 8 → at' ct 8 u k = ct k := fun k u hk => at'_other _ _ hk
  refine ⟨fun t ht => ?_, fun y hy => ?_, fun t ht => ?_, fun t ht => ?_, h.f2, h.n2, fun t ht => ?_, fun t h1 ht => ?_, fun t ht => ?_, fun t ht => ?_, fun y hy => ?_⟩
  · rw [at'_other _ _ (by omega), at'_other _ _ (by omega)]; exact h.lw t ht
  · rw [at'_other _ _ (by omega), at'_other _ _ (by omega)]; exact h.lx y hy
  · rw [at'_eq, V.reads_succ]
    by_cases e : V.rt i = t
    · rw [if_pos (by omega), if_pos ⟨ho, e⟩, e, at'_other _ _ (by omega), h.lr t ht]
    · rw [if_neg (by omega), if_neg (fun c => e c.2), List.append_nil, at'_other _ _ (by omega), h.lr t ht]
  · rw [at'_other _ _ (by omega), at'_eq, V.seenBy_succ, hs]
    by_cases e : S = t
    · subst e
      rw [if_pos rfl, if_pos ⟨ho, rfl⟩, h.ls S ht]
    · rw [if_neg (by omega), if_neg (fun c => e (Option.some.inj c.2)), List.append_nil, h.ls t ht]
  · rw [o 1 _ (by omega)]; exact h.c1 t ht
  · rw [o 6 _ (by omega)]; exact h.c6 t h1 ht
  · rw [o 7 _ (by omega)]; exact h.c7 t ht
  · rw [at'_same, at'_eq, V.pending_succ, hs]
    by_cases e : t = V.rt i
    · subst e
      rw [if_pos rfl, if_pos ⟨ho, rfl, rfl⟩]
      simp
    · rw [if_neg e, if_neg (fun c => e c.2.1.symm)]; exact h.c8 t ht
  · rw [o 9 _ (by omega), V.armed_succ, hs, if_neg (by simp)]; exact h.c9 y hy
end
end Go.Proofs.Qxb6603374a
