/- The contract of zzB1UnzipViewReads. -/
import Derived.Test.Qxb6603374aEqBools
import Derived.OwnWalk
import Derived.Deep.CutBlock
namespace Go.Proofs.Qxb6603374a
open Go.ChangeShapes Go.WideShapes Go.ChangeAt Go.RowKit

/-- Rows of reads, four cells each. -/
def VRows (w : World) (a : Option Addr) (m : Nat) (ra : Nat → Option Addr) (rc ln : Nat → Nat) (A B C : Nat → Nat → Int) (D : Nat → Nat → Bool) : Prop :=
  ∀ t, t < m → ∃ b o, a = some ⟨b, o, none⟩ ∧ w.cell? ⟨b, o + t, none⟩ = some (.slice (ra t) (ln t) (rc t)) ∧ ln t ≤ 1048576 ∧ ∀ k, k < ln t → ∃ p u, ra t = some ⟨p, u, none⟩ ∧
    w.cell? ⟨p, u + k * 4, none⟩ = some (.int .i64 (A t k)) ∧ w.cell? ⟨p, u + k * 4 + 1, none⟩ = some (.int .i64 (B t k)) ∧ w.cell? ⟨p, u + k * 4 + 2, none⟩ = some (.int .i64 (C t k)) ∧ w.cell? ⟨p, u + k * 4 + 3, none⟩ = some (.bool (D t k))
theorem VRows.kept {w w' : World} {a : Option Addr} {m : Nat} {ra : Nat → Option Addr} {rc ln : Nat → Nat} {A B C : Nat → Nat → Int} {D : Nat → Nat → Bool} (h : VRows w a m ra rc ln A B C D) (hb : Below w.heap.size w w') : VRows w' a m ra rc ln A B C D := fun t ht => by
  obtain ⟨b, o, h1, h2, h3, h4⟩ := h t ht
  refine ⟨b, o, h1, cellOld hb h2, h3, fun k hk => ?_⟩
  obtain ⟨p, u, e, c1, c2, c3, c4⟩ := h4 k hk
  exact ⟨p, u, e, cellOld hb c1, cellOld hb c2, cellOld hb c3, cellOld hb c4⟩

/-- The first t rows unzipped; e blocks more. -/
structure Uz (H m : Nat) (ln : Nat → Nat) (A B C : Nat → Nat → Int) (D : Nat → Nat → Bool) (w : World) (t e : Nat) (wr : World) : Prop where
  h0 : wr.rowIs H 24 m (fun j => if j < t then .slice (some ⟨(H + 4 + 4 * j), 0, none⟩) (ln j) (ln j) else .slice none 0 0)
  h1 : wr.rowIs (H + 1) 24 m (fun j => if j < t then .slice (some ⟨(H + 5 + 4 * j), 0, none⟩) (ln j) (ln j) else .slice none 0 0)
  h2 : wr.rowIs (H + 2) 24 m (fun j => if j < t then .slice (some ⟨(H + 6 + 4 * j), 0, none⟩) (ln j) (ln j) else .slice none 0 0)
  h3 : wr.rowIs (H + 3) 28 m (fun j => if j < t then .slice (some ⟨(H + 7 + 4 * j), 0, none⟩) (ln j) (ln j) else .slice none 0 0)
  r0 : ∀ j, j < t → wr.rowIs (H + 4 + 4 * j) 3 (ln j) (fun k => .int .i64 (A j k))
  r1 : ∀ j, j < t → wr.rowIs (H + 5 + 4 * j) 3 (ln j) (fun k => .int .i64 (B j k))
  r2 : ∀ j, j < t → wr.rowIs (H + 6 + 4 * j) 3 (ln j) (fun k => .int .i64 (C j k))
  r3 : ∀ j, j < t → wr.rowIs (H + 7 + 4 * j) 4 (ln j) (fun k => .bool (D j k))
  bel : Below H w wr
  sz : wr.heap.size = H + 4 + 4 * t + e
/-- Row t, its first i reads in place. -/
structure Pz (H : Nat) (ln : Nat → Nat) (A B C : Nat → Nat → Int) (D : Nat → Nat → Bool) (j i : Nat) (wr : World) : Prop where
  p0 : wr.rowIs (H + 4 + 4 * j) 3 (ln j) (fun k => if k < i then .int .i64 (A j k) else .int .i64 0)
  p1 : wr.rowIs (H + 5 + 4 * j) 3 (ln j) (fun k => if k < i then .int .i64 (B j k) else .int .i64 0)
  p2 : wr.rowIs (H + 6 + 4 * j) 3 (ln j) (fun k => if k < i then .int .i64 (C j k) else .int .i64 0)
  p3 : wr.rowIs (H + 7 + 4 * j) 4 (ln j) (fun k => if k < i then .bool (D j k) else .bool false)
section
variable {H m : Nat} {ln : Nat → Nat} {A B C : Nat → Nat → Int} {D : Nat → Nat → Bool} {w wr : World} {t e : Nat}
theorem Uz.alloc (h : Uz H m ln A B C D w t e wr) (x : Obj) : Uz H m ln A B C D w t (e + 1) (wr.alloc x) :=
  ⟨h.h0.alloc x, h.h1.alloc x, h.h2.alloc x, h.h3.alloc x, fun j hj => (h.r0 j hj).alloc x, fun j hj => (h.r1 j hj).alloc x, fun j hj => (h.r2 j hj).alloc x, fun j hj => (h.r3 j hj).alloc x, h.bel.alloc (by have := h.sz; omega) x, by have := h.sz; simp; omega⟩
theorem Uz.set (h : Uz H m ln A B C D w t e wr) {a : Addr} (ha : H + 4 + 4 * t ≤ a.block) (u : Value) : Uz H m ln A B C D w t e (wr.setCell a u) :=
  ⟨h.h0.setOther (by omega) u, h.h1.setOther (by omega) u, h.h2.setOther (by omega) u, h.h3.setOther (by omega) u, fun j hj => (h.r0 j hj).setOther (by omega) u, fun j hj => (h.r1 j hj).setOther (by omega) u, fun j hj => (h.r2 j hj).setOther (by omega) u, fun j hj => (h.r3 j hj).setOther (by omega) u, h.bel.setCell (by omega) u, by simpa using h.sz⟩
theorem Uz.start (hw : w.heap.size = H) : Uz H m ln A B C D w 0 0 ((((w.alloc (.cells (madeCells #[.slice none 0 0] m) 24)).alloc (.cells (madeCells #[.slice none 0 0] m) 24)).alloc (.cells (madeCells #[.slice none 0 0] m) 24)).alloc (.cells (madeCells #[.slice none 0 0] m) 28)) := by
  subst hw
  have e1 : (w.alloc (.cells (madeCells #[.slice none 0 0] m) 24)).heap.size = w.heap.size + 1 := by simp
  have e2 : ((w.alloc (.cells (madeCells #[.slice none 0 0] m) 24)).alloc (.cells (madeCells #[.slice none 0 0] m) 24)).heap.size = w.heap.size + 2 := by simp
  have e3 : (((w.alloc (.cells (madeCells #[.slice none 0 0] m) 24)).alloc (.cells (madeCells #[.slice none 0 0] m) 24)).alloc (.cells (madeCells #[.slice none 0 0] m) 24)).heap.size = w.heap.size + 3 := by simp
  have q1 := World.rowIs_made (w.alloc (.cells (madeCells #[.slice none 0 0] m) 24)) (.slice none 0 0) m 24
  have q2 := World.rowIs_made ((w.alloc (.cells (madeCells #[.slice none 0 0] m) 24)).alloc (.cells (madeCells #[.slice none 0 0] m) 24)) (.slice none 0 0) m 24
  have q3 := World.rowIs_made (((w.alloc (.cells (madeCells #[.slice none 0 0] m) 24)).alloc (.cells (madeCells #[.slice none 0 0] m) 24)).alloc (.cells (madeCells #[.slice none 0 0] m) 24)) (.slice none 0 0) m 28
  rw [e1] at q1
  rw [e2] at q2
  rw [e3] at q3
  exact ⟨((((World.rowIs_made w (.slice none 0 0) m 24).alloc _).alloc _).alloc _).congr (fun i _ => by simp), ((q1.alloc _).alloc _).congr (fun i _ => by simp), (q2.alloc _).congr (fun i _ => by simp), q3.congr (fun i _ => by simp),
    fun j hj => absurd hj (Nat.not_lt_zero _), fun j hj => absurd hj (Nat.not_lt_zero _), fun j hj => absurd hj (Nat.not_lt_zero _), fun j hj => absurd hj (Nat.not_lt_zero _), ((((Below.refl _ _).alloc (Nat.le_refl _) _).alloc (by simp) _).alloc (by simp; omega) _).alloc (by simp; omega) _, by simp⟩
theorem Pz.start {j : Nat} (hs : wr.heap.size = H + 4 + 4 * j) : Pz H ln A B C D j 0 ((((wr.alloc (.cells (madeCells #[.int .i64 0] (ln j)) 3)).alloc (.cells (madeCells #[.int .i64 0] (ln j)) 3)).alloc (.cells (madeCells #[.int .i64 0] (ln j)) 3)).alloc (.cells (madeCells #[.bool false] (ln j)) 4)) := by
  have e1 : (wr.alloc (.cells (madeCells #[.int .i64 0] (ln j)) 3)).heap.size = H + 5 + 4 * j := by simp; omega
  have e2 : ((wr.alloc (.cells (madeCells #[.int .i64 0] (ln j)) 3)).alloc (.cells (madeCells #[.int .i64 0] (ln j)) 3)).heap.size = H + 6 + 4 * j := by simp; omega
  have e3 : (((wr.alloc (.cells (madeCells #[.int .i64 0] (ln j)) 3)).alloc (.cells (madeCells #[.int .i64 0] (ln j)) 3)).alloc (.cells (madeCells #[.int .i64 0] (ln j)) 3)).heap.size = H + 7 + 4 * j := by simp; omega
  have q0 := World.rowIs_made wr (.int .i64 0) (ln j) 3
  have q1 := World.rowIs_made (wr.alloc (.cells (madeCells #[.int .i64 0] (ln j)) 3)) (.int .i64 0) (ln j) 3
  have q2 := World.rowIs_made ((wr.alloc (.cells (madeCells #[.int .i64 0] (ln j)) 3)).alloc (.cells (madeCells #[.int .i64 0] (ln j)) 3)) (.int .i64 0) (ln j) 3
  have q3 := World.rowIs_made (((wr.alloc (.cells (madeCells #[.int .i64 0] (ln j)) 3)).alloc (.cells (madeCells #[.int .i64 0] (ln j)) 3)).alloc (.cells (madeCells #[.int .i64 0] (ln j)) 3)) (.bool false) (ln j) 4
  rw [hs] at q0
  rw [e1] at q1
  rw [e2] at q2
  rw [e3] at q3
  exact ⟨(((q0.alloc _).alloc _).alloc _).congr (fun i _ => by simp), ((q1.alloc _).alloc _).congr (fun i _ => by simp), (q2.alloc _).congr (fun i _ => by simp), q3.congr (fun i _ => by simp)⟩
theorem upto_put {α : Type} (f : Nat → α) (z : α) (i k : Nat) : (if k = i then f i else if k < i then f k else z) = if k < i + 1 then f k else z := by
  by_cases e : k = i
  · subst e; simp
  · rw [if_neg e]
    by_cases c : k < i
    · rw [if_pos c, if_pos (by omega)]
    · rw [if_neg c, if_neg (by omega)]
theorem Pz.put {j i : Nat} (h : Pz H ln A B C D j i wr) : Pz H ln A B C D j (i + 1) ((((wr.setCell ⟨(H + 4 + 4 * j), i, none⟩ (.int .i64 (A j i))).setCell ⟨(H + 5 + 4 * j), i, none⟩ (.int .i64 (B j i))).setCell ⟨(H + 6 + 4 * j), i, none⟩ (.int .i64 (C j i))).setCell ⟨(H + 7 + 4 * j), i, none⟩ (.bool (D j i))) :=
  ⟨((((h.p0.set i _).setOther (by simp) _).setOther (by simp) _).setOther (by simp) _).congr (fun k _ => upto_put (fun k => Value.int .i64 (A j k)) _ i k),
   ((((h.p1.setOther (by simp) _).set i _).setOther (by simp) _).setOther (by simp) _).congr (fun k _ => upto_put (fun k => Value.int .i64 (B j k)) _ i k),
   ((((h.p2.setOther (by simp) _).setOther (by simp) _).set i _).setOther (by simp) _).congr (fun k _ => upto_put (fun k => Value.int .i64 (C j k)) _ i k),
   ((((h.p3.setOther (by simp) _).setOther (by simp) _).setOther (by simp) _).set i _).congr (fun k _ => upto_put (fun k => Value.bool (D j k)) _ i k)⟩
theorem Uz.next (h : Uz H m ln A B C D w t 4 wr) (hp : Pz H ln A B C D t (ln t) wr) : Uz H m ln A B C D w (t + 1) 0 ((((wr.setCell ⟨H, t, none⟩ (.slice (some ⟨(H + 4 + 4 * t), 0, none⟩) (ln t) (ln t))).setCell ⟨H + 1, t, none⟩ (.slice (some ⟨(H + 5 + 4 * t), 0, none⟩) (ln t) (ln t))).setCell ⟨H + 2, t, none⟩ (.slice (some ⟨(H + 6 + 4 * t), 0, none⟩) (ln t) (ln t))).setCell ⟨H + 3, t, none⟩ (.slice (some ⟨(H + 7 + 4 * t), 0, none⟩) (ln t) (ln t))) := by
  refine ⟨((((h.h0.set t _).setOther (by simp) _).setOther (by simp) _).setOther (by simp) _).congr (fun k _ => upto_put (fun j => Value.slice (some ⟨(H + 4 + 4 * j), 0, none⟩) (ln j) (ln j)) _ t k),
    ((((h.h1.setOther (by simp) _).set t _).setOther (by simp) _).setOther (by simp) _).congr (fun k _ => upto_put (fun j => Value.slice (some ⟨(H + 5 + 4 * j), 0, none⟩) (ln j) (ln j)) _ t k),
    ((((h.h2.setOther (by simp) _).setOther (by simp) _).set t _).setOther (by simp) _).congr (fun k _ => upto_put (fun j => Value.slice (some ⟨(H + 6 + 4 * j), 0, none⟩) (ln j) (ln j)) _ t k),
    ((((h.h3.setOther (by simp) _).setOther (by simp) _).setOther (by simp) _).set t _).congr (fun k _ => upto_put (fun j => Value.slice (some ⟨(H + 7 + 4 * j), 0, none⟩) (ln j) (ln j)) _ t k), ?_, ?_, ?_, ?_,
    (((h.bel.setCell (Nat.le_refl _) _).setCell (by simp) _).setCell (by simp) _).setCell (by simp) _, by have := h.sz; simp; omega⟩
  · intro j hj
    by_cases e : j = t
    · subst e
      exact ((((hp.p0.setOther (by simp; omega) _).setOther (by simp; omega) _).setOther (by simp; omega) _).setOther (by simp; omega) _).congr (fun k hk => if_pos hk)
    · exact (((((h.r0 j (by omega)).setOther (by simp; omega) _).setOther (by simp; omega) _).setOther (by simp; omega) _).setOther (by simp; omega) _)
  · intro j hj
    by_cases e : j = t
    · subst e
      exact ((((hp.p1.setOther (by simp; omega) _).setOther (by simp; omega) _).setOther (by simp; omega) _).setOther (by simp; omega) _).congr (fun k hk => if_pos hk)
    · exact (((((h.r1 j (by omega)).setOther (by simp; omega) _).setOther (by simp; omega) _).setOther (by simp; omega) _).setOther (by simp; omega) _)
  · intro j hj
    by_cases e : j = t
    · subst e
      exact ((((hp.p2.setOther (by simp; omega) _).setOther (by simp; omega) _).setOther (by simp; omega) _).setOther (by simp; omega) _).congr (fun k hk => if_pos hk)
    · exact (((((h.r2 j (by omega)).setOther (by simp; omega) _).setOther (by simp; omega) _).setOther (by simp; omega) _).setOther (by simp; omega) _)
  · intro j hj
    by_cases e : j = t
    · subst e
      exact ((((hp.p3.setOther (by simp; omega) _).setOther (by simp; omega) _).setOther (by simp; omega) _).setOther (by simp; omega) _).congr (fun k hk => if_pos hk)
    · exact (((((h.r3 j (by omega)).setOther (by simp; omega) _).setOther (by simp; omega) _).setOther (by simp; omega) _).setOther (by simp; omega) _)
end
end Go.Proofs.Qxb6603374a
