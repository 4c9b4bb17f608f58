/- A memory of some fixed rows and many rows that grow by append, whose heads stand in the fixed rows. -/
import Derived.Test.Qxb6603374aFam
import Derived.Test.Qxb6603374aNvEnd
namespace Go.Proofs.Qxb6603374a
open Go.ChangeShapes Go.WideShapes Go.ChangeAt Go.RowKit

structure GmC where
  B : Nat
  nb : Nat
  ty : Nat → TypeId
  ln : Nat → Nat
  N : Nat
  eT : Nat → TypeId
  cl : Nat → Nat → Value
  ix : Nat → Nat → Option Nat
namespace GmC
variable (C : GmC)
structure Ok : Prop where
  lt : ∀ i t j, i < C.nb → t < C.ln i → C.ix i t = some j → j < C.N
  inj : ∀ i t i' t' j, i < C.nb → t < C.ln i → i' < C.nb → t' < C.ln i' → C.ix i t = some j → C.ix i' t' = some j → i = i' ∧ t = t'
end GmC
/-- The memory: all below B as it was. -/
structure Gm (C : GmC) (w0 : World) (ct : Nat → Nat → Value) (v : Nat → Value) (L : Nat → List Nat) (w : World) : Prop where
  fix : ∀ i, i < C.nb → w.rowIs (C.B + i) (C.ty i) (C.ln i) (ct i)
  fam : Fam (C.B + C.nb) C.N C.eT (fun _ => 1) v (fun j => (L j).length) (fun j => (L j).map (C.cl j)) w
  hl : ∀ i t j, i < C.nb → t < C.ln i → C.ix i t = some j → ct i t = v j
  bel : Below C.B w0 w
  sz : C.B + C.nb ≤ w.heap.size
section
variable {C : GmC} {w0 w w' : World} {ct : Nat → Nat → Value} {v : Nat → Value} {L : Nat → List Nat}
theorem Gm.drewN (h : Gm C w0 ct v L w) (d : Nat) : Gm C w0 ct v L (w.drewN d) :=
  ⟨fun i hi => (h.fix i hi).of_block rfl, h.fam.drewN d, h.hl, ⟨h.bel.os, h.bel.tape, h.bel.output, h.bel.size, h.bel.block⟩, h.sz⟩
theorem Gm.set (h : Gm C w0 ct v L w) {i : Nat} (hi : i < C.nb) (hx : ∀ t, C.ix i t = none) (k : Nat) (u : Value) : Gm C w0 (at' ct i (at' (ct i) k u)) v L (w.setCell ⟨C.B + i, k, none⟩ u) := by
  refine ⟨fun j hj => ?_, h.fam.set (by show C.B + i < _; omega) u, fun j t l hj ht hl => ?_, h.bel.setCell (by show C.B ≤ C.B + i; omega) u, by have := h.sz; simpa using this⟩
  · by_cases e : j = i
    · subst e
      rw [at'_same]
      exact (h.fix j hj).set k u
    · rw [at'_other _ _ e]
      exact (h.fix j hj).of_block (Below.heap_setCell _ _ _ _ (by show C.B + j ≠ C.B + i; omega))
  · by_cases e : j = i
    · subst e; rw [hx t] at hl; cases hl
    · rw [at'_other _ _ e]; exact h.hl j t l hj ht hl
theorem Gm.kept (h : Gm C w0 ct v L w) (hb : Below w.heap.size w w') : Gm C w0 ct v L w' :=
  ⟨fun i hi => (h.fix i hi).of_block (hb.block _ (by have := h.sz; omega)), h.fam.frame (fun b _ hl => hb.block b hl), h.hl, h.bel.trans (hb.mono (by have := h.sz; omega)), by have := h.sz; have := hb.size; omega⟩
/-- Row j, whose head stands at place k of block i, grown by one. -/
theorem Gm.grow (hC : C.Ok) (h : Gm C w0 ct v L w) {i k j y : Nat} (hi : i < C.nb) (hk : k < C.ln i) (hx : C.ix i k = some j) {u : Value}
    (ho : w'.ownsRow (C.B + C.nb) (C.eT j) 1 u ((L j).length + 1) ((L j).map (C.cl j) ++ [C.cl j y])) (hg : w.grownBy w' (v j).ownBlock) (hu : u.ownBlock = (v j).ownBlock ∨ u.ownBlock = some w.heap.size) :
    w'.rowIs (C.B + i) (C.ty i) (C.ln i) (ct i) ∧ Gm C w0 (at' ct i (at' (ct i) k u)) (at' v j u) (at' L j (L j ++ [y])) (w'.setCell ⟨C.B + i, k, none⟩ u) := by
  have hz := h.sz
  have hj := hC.lt i k j hi hk hx
  have hrow : ∀ b, (v j).ownBlock = some b → C.B + C.nb ≤ b := fun b hb => ((h.fam.own j hj).lt b hb).1
  have hblk : ∀ b, b < C.B + C.nb → w'.heap[b]? = w.heap[b]? := fun b hb => hg.block b (by omega) (fun e => by have := hrow b e.symm; omega)
  have hfix : ∀ l, l < C.nb → w'.rowIs (C.B + l) (C.ty l) (C.ln l) (ct l) := fun l hl => (h.fix l hl).of_block (hblk _ (by omega))
  refine ⟨hfix i hi, fun l hl => ?_, ?_, fun l t q hl ht hq => ?_, ?_, ?_⟩
  · by_cases e : l = i
    · subst e
      rw [at'_same]
      exact (hfix l hl).set k u
    · rw [at'_other _ _ e]
      exact (hfix l hl).of_block (Below.heap_setCell _ _ _ _ (by show C.B + l ≠ C.B + i; omega))
  · have hf := h.fam.app hj ho hg hu
    have e1 : at' (fun j => (L j).length) j ((L j).length + 1) = fun i => (at' L j (L j ++ [y]) i).length := by
      funext i
      by_cases e : i = j
      · subst e; rw [at'_same, at'_same]; simp
      · rw [at'_other _ _ e, at'_other _ _ e]
    have e2 : at' (fun j => (L j).map (C.cl j)) j ((L j).map (C.cl j) ++ [C.cl j y]) = fun i => (at' L j (L j ++ [y]) i).map (C.cl i) := by
      funext i
      by_cases e : i = j
      · subst e; rw [at'_same, at'_same]; simp
      · rw [at'_other _ _ e, at'_other _ _ e]
    rw [e1, e2] at hf
    exact hf.set (by show C.B + i < _; omega) u
  · by_cases e : q = j
    · subst e
      obtain ⟨e1, e2⟩ := hC.inj l t i k q hl ht hi hk hq hx
      subst e1; subst e2
      rw [at'_same, at'_same, at'_same]
    · rw [at'_other _ _ e]
      by_cases e1 : l = i
      · subst e1
        rw [at'_same]
        by_cases e2 : t = k
        · subst e2; rw [hx] at hq; cases hq; exact absurd rfl e
        · rw [at'_other _ _ e2]; exact h.hl l t q hl ht hq
      · rw [at'_other _ _ e1]; exact h.hl l t q hl ht hq
  · exact (h.bel.grown hg (by omega) (fun b hb => by have := hrow b hb; omega)).setCell (by show C.B ≤ C.B + i; omega) u
  · have := hg.size; simp; omega
theorem Gm.alloc (h : Gm C w0 ct v L w) (o : Obj) : Gm C w0 ct v L (w.alloc o) := h.kept ((Below.refl _ _).alloc (Nat.le_refl _) o)
/-- The head of row j. -/
theorem Gm.head (hC : C.Ok) (h : Gm C w0 ct v L w) {i k j : Nat} (hi : i < C.nb) (hk : k < C.ln i) (hx : C.ix i k = some j) : ∃ a c, v j = .slice a (L j).length c ∧ w.cell? ⟨C.B + i, k, none⟩ = some (.slice a (L j).length c) := by
  have hv := own_form (h.fam.own j (hC.lt i k j hi hk hx))
  refine ⟨_, _, hv, ?_⟩
  rw [(h.fix i hi).cell hk, h.hl i k j hi hk hx]
  exact congrArg some hv
end
theorem infoI : (Try.prog.info? 3).map (fun i => (i.zero, i.size, i.bytes)) = some (some (.int .i64 0), 1, 8) := by kernel_rfl
theorem infoB4 : (Try.prog.info? 4).map (fun i => (i.zero, i.size, i.bytes)) = some (some (.bool false), 1, 1) := by kernel_rfl
/-- 'append(xs, u)' onto a row of the call's own, behind the new element's own block. -/
theorem app_one (w : World) {ops : Array Oper} {rest : List Oper} {o : Oper} {a : Act} {Q : Exit → Act → World → Prop} (hgd : o.guard = none) (s x : Operand) (t e : TypeId) (z : Value) (bytes : Nat)
    (ho : o.op = .call { callee := .builtin .append, args := #[s, x], argTypes := #[t, t] }) (ht : Try.prog.underlying t = some (.slice e)) (hin : (Try.prog.info? e).map (fun i => (i.zero, i.size, i.bytes)) = some (some z, 1, bytes)) (hzs : z.cells.size = 1) (hbt : bytes ≤ 8)
    (base : Nat) (hbase : base ≤ w.heap.size) (v : Value) (n : Nat) (xs : List Value) (hs : a.eval s = v) (hown : w.ownsRow base e 1 v n xs) (u : Value) (hu1 : u.oneCell' = true) (hx : a.eval x = .slice (some ⟨w.heap.size, 0, none⟩) 1 1) (hn : n ≤ 2000000)
    (h : ∀ v' w', w'.ownsRow base e 1 v' (n + 1) (xs ++ [u]) → (w.alloc (.cells #[u] e)).grownBy w' v.ownBlock → (v'.ownBlock = v.ownBlock ∨ v'.ownBlock = some (w.alloc (.cells #[u] e)).heap.size) → wpList Try.prog ops Q rest (a.put o.dst v') w') :
    wpList Try.prog ops Q (o :: rest) a (w.alloc (.cells #[u] e)) := by
  obtain ⟨i, hi, hz, hsz, hb⟩ := info_parts hin
  refine wpList_append_at _ hgd s x t ho base e i z 1 bytes ht hi hz hsz hb hzs (by decide) v n xs hs (hown.alloc _) ⟨w.heap.size, 0, none⟩ 1 1 [u] hx rfl (news_one w _ e) (by simp [hu1]) (by simp only [maxLen]; omega) ?_ (by simp; omega) ?_
  · have : (n + 1) * bytes ≤ (n + 1) * 8 := Nat.mul_le_mul_left _ hbt
    omega
  · intro v' w' h1 h2 h3
    exact h v' w' h1 h2 h3
/-- The same, the head stored behind it. -/
theorem gm_app {C : GmC} {w0 : World} {ct : Nat → Nat → Value} {v : Nat → Value} {L : Nat → List Nat} (w : World) (hC : C.Ok) (hG : Gm C w0 ct v L w) {ops : Array Oper} {rest : List Oper} {o : Oper} {a : Act} {Q : Exit → Act → World → Prop} (hgd : o.guard = none) (s x : Operand) (t e : TypeId) (z : Value) (bytes : Nat)
    (ho : o.op = .call { callee := .builtin .append, args := #[s, x], argTypes := #[t, t] }) (ht : Try.prog.underlying t = some (.slice e)) (hin : (Try.prog.info? e).map (fun i => (i.zero, i.size, i.bytes)) = some (some z, 1, bytes)) (hzs : z.cells.size = 1) (hbt : bytes ≤ 8)
    (i k j y : Nat) (hi : i < C.nb) (hk : k < C.ln i) (hx : C.ix i k = some j) (he : C.eT j = e) (n0 : Nat) (hn0 : (L j).length = n0) (u0 : Value) (hv : v j = u0) (hs : a.eval s = u0) (u : Value) (hu : C.cl j y = u) (hu1 : u.oneCell' = true) (hx' : a.eval x = .slice (some ⟨w.heap.size, 0, none⟩) 1 1) (hn : n0 ≤ 2000000)
    (h : ∀ a' c' w', w'.cell? ⟨C.B + i, k, none⟩ = some u0 → w'.frozen? ⟨C.B + i, k, none⟩ = false → Hid (Gm C w0 (at' ct i (at' (ct i) k (.slice a' (n0 + 1) c'))) (at' v j (.slice a' (n0 + 1) c')) (at' L j (L j ++ [y])) (w'.setCell ⟨C.B + i, k, none⟩ (.slice a' (n0 + 1) c'))) → wpList Try.prog ops Q rest (a.put o.dst (.slice a' (n0 + 1) c')) w') :
    wpList Try.prog ops Q (o :: rest) a (w.alloc (.cells #[u] e)) := by
  subst hu; subst he; subst hn0
  have hj := hC.lt i k j hi hk hx
  have hown := hG.fam.own j hj
  have hz := hG.sz
  rw [hv] at hown
  refine app_one w hgd s x t (C.eT j) z bytes ho ht hin hzs hbt (C.B + C.nb) hz u0 _ _ hs hown (C.cl j y) hu1 hx' hn ?_
  intro v' w' h1 h2 h3
  rw [← hv] at h2 h3
  obtain ⟨g1, g2⟩ := (hG.alloc (.cells #[C.cl j y] (C.eT j))).grow hC hi hk hx h1 h2 h3
  have hc := g1.cell hk
  rw [hG.hl i k j hi hk hx, hv] at hc
  have hf := own_form h1
  obtain ⟨a', ha'⟩ : ∃ a', addrOf v' = a' := ⟨_, rfl⟩
  obtain ⟨c', hc'⟩ : ∃ c', capOf v' = c' := ⟨_, rfl⟩
  rw [ha', hc'] at hf
  subst hf
  exact h a' c' w' hc (g1.frozen k) g2
end Go.Proofs.Qxb6603374a
