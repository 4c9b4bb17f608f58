/- A family of rows that grow by append, each in a block of its own. -/
import Derived.Test.Qxb6603374aApp
namespace Go.Proofs.Qxb6603374a
open Go.ChangeShapes Go.WideShapes Go.ChangeAt Go.RowKit

/-- f turned at i. -/
def at' {α : Type} (f : Nat → α) (i : Nat) (a : α) : Nat → α := fun j => if j = i then a else f j
theorem at'_same {α : Type} (f : Nat → α) (i : Nat) (a : α) : at' f i a i = a := if_pos rfl
theorem at'_other {α : Type} (f : Nat → α) {i j : Nat} (a : α) (h : j ≠ i) : at' f i a j = f j := if_neg h

/-- Row i of the N rows: the slice v i, of n i elements of type eT i (eS i cells each), the cells xs i; all blocks at base or above, no two alike. -/
structure Fam (base N : Nat) (eT : Nat → TypeId) (eS : Nat → Nat) (v : Nat → Value) (n : Nat → Nat) (xs : Nat → List Value) (w : World) : Prop where
  own : ∀ i, i < N → w.ownsRow base (eT i) (eS i) (v i) (n i) (xs i)
  apart : ∀ i j, i < N → j < N → i ≠ j → ∀ b, (v i).ownBlock = some b → (v j).ownBlock ≠ some b
section
variable {base N : Nat} {eT : Nat → TypeId} {eS : Nat → Nat} {v : Nat → Value} {n : Nat → Nat} {xs : Nat → List Value} {w w' : World}
theorem Fam.start : Fam base N eT eS (fun _ => .slice none 0 0) (fun _ => 0) (fun _ => []) w :=
  ⟨fun _ _ => World.ownsRow_nil _ _ _ _, fun _ _ _ _ _ _ h => by simp [Value.ownBlock] at h⟩
theorem owns_frame {e : TypeId} {s : Nat} {u : Value} {m : Nat} {ys : List Value} (h : w.ownsRow base e s u m ys) (hf : ∀ b, base ≤ b → b < w.heap.size → w'.heap[b]? = w.heap[b]?) : w'.ownsRow base e s u m ys := by
  refine ⟨h.1, ?_⟩
  rcases h.2 with h1 | ⟨g, cap, cur, h1, h2, h3, h4⟩
  · exact .inl h1
  · exact .inr ⟨g, cap, cur, h1, h2, (hf g h2 (Array.getElem?_eq_some_iff.1 h3).1).trans h3, h4⟩
/-- Whatever turns no block at base or above keeps the family. -/
theorem Fam.frame (h : Fam base N eT eS v n xs w) (hf : ∀ b, base ≤ b → b < w.heap.size → w'.heap[b]? = w.heap[b]?) : Fam base N eT eS v n xs w' := ⟨fun i hi => owns_frame (h.own i hi) hf, h.apart⟩
theorem Fam.alloc (h : Fam base N eT eS v n xs w) (o : Obj) : Fam base N eT eS v n xs (w.alloc o) := h.frame (fun _ _ hb => Below.heap_alloc _ _ _ hb)
theorem Fam.set (h : Fam base N eT eS v n xs w) {a : Addr} (ha : a.block < base) (u : Value) : Fam base N eT eS v n xs (w.setCell a u) := h.frame (fun _ hb _ => Below.heap_setCell _ _ _ _ (by omega))
theorem Fam.drewN (h : Fam base N eT eS v n xs w) (d : Nat) : Fam base N eT eS v n xs (w.drewN d) := h.frame (fun _ _ _ => rfl)
theorem Fam.drew (h : Fam base N eT eS v n xs w) : Fam base N eT eS v n xs w.drew := h.frame (fun _ _ _ => rfl)
theorem Fam.map (h : Fam base N eT eS v n xs w) {b : Nat} (hb : b < base) (hg : w.grownBy w' (some b)) : Fam base N eT eS v n xs w' := h.frame (fun c hc hl => hg.block c hl (fun e => by cases e; omega))
/-- Row i grown by an append. -/
theorem Fam.app (h : Fam base N eT eS v n xs w) {i m : Nat} {u : Value} {news : List Value} (hi : i < N) (ho : w'.ownsRow base (eT i) (eS i) u (n i + m) (xs i ++ news)) (hg : w.grownBy w' (v i).ownBlock) (hu : u.ownBlock = (v i).ownBlock ∨ u.ownBlock = some w.heap.size) :
    Fam base N eT eS (at' v i u) (at' n i (n i + m)) (at' xs i (xs i ++ news)) w' := by
  refine ⟨fun j hj => ?_, fun j l hj hl hne b hb => ?_⟩
  · by_cases e : j = i
    · subst e
      rw [at'_same, at'_same, at'_same]
      exact ho
    · rw [at'_other _ _ e, at'_other _ _ e, at'_other _ _ e]
      refine (h.own j hj).kept hg ?_
      cases hv : (v j).ownBlock with
      | none => exact .inl rfl
      | some c => exact .inr (fun e2 => h.apart j i hj hi e c hv e2.symm)
  · by_cases e1 : j = i
    · subst e1
      have hl' : l ≠ j := Ne.symm hne
      rw [at'_same] at hb
      rw [at'_other _ _ hl']
      intro e2
      rcases hu with hu | hu
      · rw [hu] at hb
        exact h.apart j l hj hl hne b hb e2
      · rw [hu] at hb
        cases hb
        have := (h.own l hl).lt _ e2
        omega
    · rw [at'_other _ _ e1] at hb
      by_cases e2 : l = i
      · subst e2
        rw [at'_same]
        intro e3
        rcases hu with hu | hu
        · rw [hu] at e3
          exact h.apart j l hj hl e1 b hb e3
        · rw [hu] at e3
          cases e3
          have := (h.own j hj).lt _ hb
          omega
      · rw [at'_other _ _ e2]
        exact h.apart j l hj hl hne b hb
end
end Go.Proofs.Qxb6603374a
