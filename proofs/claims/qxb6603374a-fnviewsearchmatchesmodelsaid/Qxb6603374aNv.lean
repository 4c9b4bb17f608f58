/- The memory of newViewSearch behind its first part: nine rows, two maps, the rows that grow. -/
import Derived.Test.Qxb6603374aFam
import Derived.Test.Qxb6603374aVs
import Derived.Test.Qxb6603374aVMap
import Derived.Test.Qxb6603374aVPlain
namespace Go.Proofs.Qxb6603374a
open Go.ChangeShapes Go.WideShapes Go.ChangeAt Go.RowKit

/-- What does not turn: the lengths, the blocks (bk: the rows by field), the index, the cells of a read. -/
structure NvC where
  m : Nat
  ni : Nat
  H : Nat
  g : Nat
  mp : Nat
  last : Nat
  base : Nat
  xc : Nat
  xa : Option Addr
  bk : Nat → Nat
  f1 : Value → Option Int
  rc : Nat → List Value
namespace NvC
variable (C : NvC)
def ty : Nat → TypeId
  | 2 => 104
  | 3 => 104
  | 4 => 24
  | 5 => 24
  | 7 => 4
  | _ => 3
def ln : Nat → Nat
  | 5 => C.ni
  | 6 => C.ni
  | 9 => C.ni
  | _ => C.m
def eT (j : Nat) : TypeId := if j < C.m + C.ni then 3 else 103
def eS (j : Nat) : Nat := if j < C.m + C.ni then 1 else 4
def cell (j : Nat) : Nat → List Value := if j < C.m + C.ni then (fun y => [.int .i64 (y : Int)]) else C.rc
structure Ok : Prop where
  apart : ∀ i j, 1 ≤ i → i ≤ 9 → 1 ≤ j → j ≤ 9 → i ≠ j → C.bk i ≠ C.bk j
  low : ∀ i, 1 ≤ i → i ≤ 9 → C.H ≤ C.bk i ∧ C.bk i < C.base ∧ C.bk i ≠ C.g ∧ C.bk i ≠ C.mp ∧ C.bk i ≠ C.last
  g : C.H ≤ C.g ∧ C.g < C.base
  mp : C.H ≤ C.mp ∧ C.mp < C.base
  last : C.H ≤ C.last ∧ C.last < C.base
  gm : C.g ≠ C.mp
  gl : C.g ≠ C.last
  ml : C.mp ≠ C.last
end NvC
/-- The memory: the struct, its rows, the two maps, the rows that grow; all below H as it was. -/
structure Nv (C : NvC) (w0 : World) (f2 : Value → Option Int) (n2 : Nat) (ct : Nat → Nat → Value) (v : Nat → Value) (L : Nat → List Nat) (wx : World) : Prop where
  cells : wx.heap[C.g]? = some (.cells #[.slice C.xa C.m C.xc, sl (C.bk 1) C.m, sl (C.bk 2) C.m, sl (C.bk 3) C.m, sl (C.bk 4) C.m, sl (C.bk 5) C.ni, sl (C.bk 6) C.ni, sl (C.bk 7) C.m, sl (C.bk 8) C.m, sl (C.bk 9) C.ni] 92)
  row : ∀ i, 1 ≤ i → i ≤ 9 → wx.rowIs (C.bk i) (NvC.ty i) (C.ln i) (ct i)
  map1 : MapFn wx 3 C.mp C.m C.f1
  map2 : MapFn wx 100 C.last n2 f2
  fam : Fam C.base (3 * C.m + C.ni) C.eT C.eS v (fun j => (L j).length) (fun j => (L j).flatMap (C.cell j)) wx
  bel : Below C.H w0 wx
  sz : C.base ≤ wx.heap.size
section
variable {C : NvC} {w0 : World} {f2 f2' : Value → Option Int} {n2 n2' : Nat} {ct : Nat → Nat → Value} {v : Nat → Value} {L : Nat → List Nat} {wx w' : World}
theorem Nv.frame (hC : C.Ok) (h : Nv C w0 f2 n2 ct v L wx) (hb : Below wx.heap.size wx w') : Nv C w0 f2 n2 ct v L w' := by
  have hz := h.sz
  refine ⟨?_, fun i h1 h2 => ?_, ?_, ?_, ?_, ?_, ?_⟩
  · rw [hb.block C.g (by have := hC.g; omega)]; exact h.cells
  · exact (h.row i h1 h2).of_block (hb.block _ (by have := hC.low i h1 h2; omega))
  · exact h.map1.block (hb.block _ (by have := hC.mp; omega))
  · exact h.map2.block (hb.block _ (by have := hC.last; omega))
  · exact h.fam.frame (fun b _ hl => hb.block b hl)
  · exact h.bel.trans (hb.mono (by have := hC.g; omega))
  · have := hb.size; omega
theorem Nv.alloc (hC : C.Ok) (h : Nv C w0 f2 n2 ct v L wx) (o : Obj) : Nv C w0 f2 n2 ct v L (wx.alloc o) := h.frame hC ((Below.refl _ _).alloc (Nat.le_refl _) o)
theorem Nv.drew (hC : C.Ok) (h : Nv C w0 f2 n2 ct v L wx) : Nv C w0 f2 n2 ct v L wx.drew := h.frame hC ⟨rfl, rfl, rfl, Nat.le_refl _, fun _ _ => rfl⟩
theorem Nv.drewN (hC : C.Ok) (h : Nv C w0 f2 n2 ct v L wx) (d : Nat) : Nv C w0 f2 n2 ct v L (wx.drewN d) := h.frame hC (below_drewN (Below.refl _ _) d)
theorem Nv.set (hC : C.Ok) (h : Nv C w0 f2 n2 ct v L wx) {i : Nat} (h1 : 1 ≤ i) (h2 : i ≤ 9) (k : Nat) (u : Value) : Nv C w0 f2 n2 (at' ct i (at' (ct i) k u)) v L (wx.setCell ⟨C.bk i, k, none⟩ u) := by
  have hl := hC.low i h1 h2
  have hblk : ∀ b, b ≠ C.bk i → (wx.setCell ⟨C.bk i, k, none⟩ u).heap[b]? = wx.heap[b]? := fun b hb => Below.heap_setCell _ _ _ _ hb
  refine ⟨?_, fun j g1 g2 => ?_, ?_, ?_, ?_, ?_, ?_⟩
  · rw [hblk _ (Ne.symm hl.2.2.1)]; exact h.cells
  · by_cases e : j = i
    · subst e
      rw [at'_same]
      exact (h.row j g1 g2).set k u
    · rw [at'_other _ _ e]
      exact (h.row j g1 g2).of_block (hblk _ (hC.apart j i g1 g2 h1 h2 e))
  · exact h.map1.block (hblk _ (Ne.symm hl.2.2.2.1))
  · exact h.map2.block (hblk _ (Ne.symm hl.2.2.2.2))
  · exact h.fam.set hl.2.1 u
  · exact h.bel.setCell hl.1 u
  · have := h.sz; simpa using this
theorem Nv.put (hC : C.Ok) (h : Nv C w0 f2 n2 ct v L wx) (hm : MapFn w' 100 C.last n2' f2') (hg : wx.grownBy w' (some C.last)) : Nv C w0 f2' n2' ct v L w' := by
  have hz := h.sz
  have hblk : ∀ b, b < C.base → b ≠ C.last → w'.heap[b]? = wx.heap[b]? := fun b hb hne => hg.block b (by omega) (fun e => hne (by cases e; rfl))
  refine ⟨?_, fun i h1 h2 => ?_, ?_, hm, ?_, ?_, ?_⟩
  · rw [hblk _ hC.g.2 hC.gl]; exact h.cells
  · have hl := hC.low i h1 h2
    exact (h.row i h1 h2).of_block (hblk _ hl.2.1 hl.2.2.2.2)
  · exact h.map1.block (hblk _ hC.mp.2 hC.ml)
  · exact h.fam.map hC.last.2 hg
  · exact h.bel.grown hg (by have := hC.g; omega) (fun k hk => by cases hk; exact hC.last.1)
  · have := hg.size; omega
theorem Nv.app (hC : C.Ok) (h : Nv C w0 f2 n2 ct v L wx) {j : Nat} (hj : j < 3 * C.m + C.ni) {u : Value} {y : Nat} {news : List Value} (hn : C.cell j y = news)
    (ho : w'.ownsRow C.base (C.eT j) (C.eS j) u ((L j).length + 1) ((L j).flatMap (C.cell j) ++ news)) (hg : wx.grownBy w' (v j).ownBlock) (hu : u.ownBlock = (v j).ownBlock ∨ u.ownBlock = some wx.heap.size) :
    Nv C w0 f2 n2 ct (at' v j u) (at' L j (L j ++ [y])) w' := by
  subst hn
  have hz := h.sz
  have hrow : ∀ k, (v j).ownBlock = some k → C.base ≤ k := fun k hk => ((h.fam.own j hj).lt k hk).1
  have hblk : ∀ b, b < C.base → w'.heap[b]? = wx.heap[b]? := fun b hb => hg.block b (by omega) (fun e => by have := hrow b e.symm; omega)
  refine ⟨?_, fun i h1 h2 => ?_, ?_, ?_, ?_, ?_, ?_⟩
  · rw [hblk _ hC.g.2]; exact h.cells
  · exact (h.row i h1 h2).of_block (hblk _ (hC.low i h1 h2).2.1)
  · exact h.map1.block (hblk _ hC.mp.2)
  · exact h.map2.block (hblk _ hC.last.2)
  · have hf := h.fam.app hj ho hg hu
    have e1 : at' (fun j => (L j).length) j ((L j).length + 1) = fun i => (at' L j (L j ++ [y]) i).length := by
      funext i
      by_cases e : i = j
      · subst e; rw [at'_same, at'_same]; simp
      · rw [at'_other _ _ e, at'_other _ _ e]
    have e2 : at' (fun j => (L j).flatMap (C.cell j)) j ((L j).flatMap (C.cell j) ++ C.cell j y) = fun i => (at' L j (L j ++ [y]) i).flatMap (C.cell i) := by
      funext i
      by_cases e : i = j
      · subst e; rw [at'_same, at'_same]; simp
      · rw [at'_other _ _ e, at'_other _ _ e]
    rw [e1, e2] at hf
    exact hf
  · exact h.bel.grown hg (by have := hC.g; omega) (fun k hk => by have := hrow k hk; have := hC.g; omega)
  · have := hg.size; omega
/-- What stands in the cells. -/
theorem Nv.gcell (h : Nv C w0 f2 n2 ct v L wx) (i : Nat) (h1 : 1 ≤ i) (h2 : i ≤ 9) : wx.cell? ⟨C.g, i, none⟩ = some (sl (C.bk i) (C.ln i)) := by
  have hc := fun (u : Value) (hu : (#[.slice C.xa C.m C.xc, sl (C.bk 1) C.m, sl (C.bk 2) C.m, sl (C.bk 3) C.m, sl (C.bk 4) C.m, sl (C.bk 5) C.ni, sl (C.bk 6) C.ni, sl (C.bk 7) C.m, sl (C.bk 8) C.m, sl (C.bk 9) C.ni] : Array Value)[i]? = some u) => by
    have := cell_of_row wx C.g i _ 92 (0, 0) h.cells
    rw [hu] at this
    exact this
  match i, h1, h2 with
  | 1, _, _ => exact hc _ rfl
  | 2, _, _ => exact hc _ rfl
  | 3, _, _ => exact hc _ rfl
  | 4, _, _ => exact hc _ rfl
  | 5, _, _ => exact hc _ rfl
  | 6, _, _ => exact hc _ rfl
  | 7, _, _ => exact hc _ rfl
  | 8, _, _ => exact hc _ rfl
  | 9, _, _ => exact hc _ rfl
end
/-- The headers of the rows that grow are the rows' slices. -/
structure Hd (C : NvC) (ct : Nat → Nat → Value) (v : Nat → Value) : Prop where
  h4 : ∀ t, t < C.m → ct 4 t = v t
  h5 : ∀ x, x < C.ni → ct 5 x = v (C.m + x)
  h2 : ∀ t, t < C.m → ct 2 t = v (C.m + C.ni + t)
  h3 : ∀ s, s < C.m → ct 3 s = v (2 * C.m + C.ni + s)
section
variable {C : NvC} {ct : Nat → Nat → Value} {v : Nat → Value}
theorem at'_eq {α : Type} (f : Nat → α) (i j : Nat) (a : α) : at' f i a j = if j = i then a else f j := rfl
/-- A store into a row that is no header. -/
theorem Hd.other (h : Hd C ct v) {i : Nat} (g2 : i ≠ 2) (g3 : i ≠ 3) (g4 : i ≠ 4) (g5 : i ≠ 5) (f : Nat → Value) : Hd C (at' ct i f) v := by
  refine ⟨fun t ht => ?_, fun t ht => ?_, fun t ht => ?_, fun t ht => ?_⟩
  · rw [at'_other _ _ (Ne.symm g4)]; exact h.h4 t ht
  · rw [at'_other _ _ (Ne.symm g5)]; exact h.h5 t ht
  · rw [at'_other _ _ (Ne.symm g2)]; exact h.h2 t ht
  · rw [at'_other _ _ (Ne.symm g3)]; exact h.h3 t ht
theorem Hd.set4 (h : Hd C ct v) {t : Nat} (ht : t < C.m) (u : Value) : Hd C (at' ct 4 (at' (ct 4) t u)) (at' v t u) := by
  refine ⟨fun s hs => ?_, fun s hs => ?_, fun s hs => ?_, fun s hs => ?_⟩
  · rw [at'_same, at'_eq, at'_eq, h.h4 s hs]
  · rw [at'_other _ _ (by omega), at'_other _ _ (by omega)]; exact h.h5 s hs
  · rw [at'_other _ _ (by omega), at'_other _ _ (by omega)]; exact h.h2 s hs
  · rw [at'_other _ _ (by omega), at'_other _ _ (by omega)]; exact h.h3 s hs
theorem Hd.set5 (h : Hd C ct v) {t : Nat} (ht : t < C.ni) (u : Value) : Hd C (at' ct 5 (at' (ct 5) t u)) (at' v (C.m + t) u) := by
  refine ⟨fun s hs => ?_, fun s hs => ?_, fun s hs => ?_, fun s hs => ?_⟩
  · rw [at'_other _ _ (by omega), at'_other _ _ (by omega)]; exact h.h4 s hs
  · rw [at'_same, at'_eq, at'_eq, h.h5 s hs]
    by_cases e : s = t
    · rw [if_pos e, if_pos (by omega)]
    · rw [if_neg e, if_neg (by omega)]
  · rw [at'_other _ _ (by omega), at'_other _ _ (by omega)]; exact h.h2 s hs
  · rw [at'_other _ _ (by omega), at'_other _ _ (by omega)]; exact h.h3 s hs
theorem Hd.set2 (h : Hd C ct v) {t : Nat} (ht : t < C.m) (u : Value) : Hd C (at' ct 2 (at' (ct 2) t u)) (at' v (C.m + C.ni + t) u) := by
  refine ⟨fun s hs => ?_, fun s hs => ?_, fun s hs => ?_, fun s hs => ?_⟩
  · rw [at'_other _ _ (by omega), at'_other _ _ (by omega)]; exact h.h4 s hs
  · rw [at'_other _ _ (by omega), at'_other _ _ (by omega)]; exact h.h5 s hs
  · rw [at'_same, at'_eq, at'_eq, h.h2 s hs]
    by_cases e : s = t
    · rw [if_pos e, if_pos (by omega)]
    · rw [if_neg e, if_neg (by omega)]
  · rw [at'_other _ _ (by omega), at'_other _ _ (by omega)]; exact h.h3 s hs
theorem Hd.set3 (h : Hd C ct v) {t : Nat} (ht : t < C.m) (u : Value) : Hd C (at' ct 3 (at' (ct 3) t u)) (at' v (2 * C.m + C.ni + t) u) := by
  refine ⟨fun s hs => ?_, fun s hs => ?_, fun s hs => ?_, fun s hs => ?_⟩
  · rw [at'_other _ _ (by omega), at'_other _ _ (by omega)]; exact h.h4 s hs
  · rw [at'_other _ _ (by omega), at'_other _ _ (by omega)]; exact h.h5 s hs
  · rw [at'_other _ _ (by omega), at'_other _ _ (by omega)]; exact h.h2 s hs
  · rw [at'_same, at'_eq, at'_eq, h.h3 s hs]
    by_cases e : s = t
    · rw [if_pos e, if_pos (by omega)]
    · rw [if_neg e, if_neg (by omega)]
end
end Go.Proofs.Qxb6603374a
