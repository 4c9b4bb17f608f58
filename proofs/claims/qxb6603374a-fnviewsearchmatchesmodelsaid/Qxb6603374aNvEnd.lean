/- What lies behind newViewSearch's answer, read off its memory. -/
import Derived.Test.Qxb6603374aNvPl
import Derived.Test.Qxb6603374aUz
namespace Go.Proofs.Qxb6603374a
open Go.ChangeShapes Go.WideShapes Go.ChangeAt Go.RowKit

def addrOf : Value → Option Addr
  | .slice a _ _ => a
  | _ => none
def capOf : Value → Nat
  | .slice _ _ c => c
  | _ => 0
def natInts (l : List Nat) : List Int := l.map (fun y : Nat => (y : Int))
theorem natInts_length (l : List Nat) : (natInts l).length = l.length := by simp [natInts]
theorem natInts_getD (l : List Nat) (k : Nat) : (natInts l).getD k 0 = ((l.getD k 0 : Nat) : Int) := by
  unfold natInts
  simp only [List.getD, List.getElem?_map]
  cases l[k]? <;> rfl
theorem flat_at {α : Type} {f : Nat → List α} {z : Nat} (hf : ∀ y, (f y).length = z) : ∀ (l : List Nat) (k j : Nat), k < l.length → j < z → (l.flatMap f)[k * z + j]? = (f (l.getD k 0))[j]?
  | [], k, _, hk, _ => absurd hk (Nat.not_lt_zero _)
  | a :: r, 0, j, _, hj => by
    simp only [List.flatMap_cons, Nat.zero_mul, Nat.zero_add, List.getD_cons_zero]
    rw [List.getElem?_append_left (by rw [hf]; exact hj)]
  | a :: r, k + 1, j, hk, hj => by
    simp only [List.flatMap_cons, List.getD_cons_succ]
    have e : (k + 1) * z + j = (f a).length + (k * z + j) := by rw [hf, Nat.add_mul]; omega
    rw [e, List.getElem?_append_right (by omega), Nat.add_sub_cancel_left]
    exact flat_at hf r k j (by simpa using hk) hj
theorem own_form {w : World} {base : Nat} {e : TypeId} {z n : Nat} {u : Value} {xs : List Value} (h : w.ownsRow base e z u n xs) : u = .slice (addrOf u) n (capOf u) := by
  rcases h.2 with ⟨h1, h2⟩ | ⟨g, cap, cur, h1, -⟩
  · subst h1; subst h2; rfl
  · subst h1; rfl
theorem own_cell {w : World} {base : Nat} {e : TypeId} {z n : Nat} {u : Value} {xs : List Value} (h : w.ownsRow base e z u n xs) (hn : 0 < n) : ∃ g, addrOf u = some ⟨g, 0, none⟩ ∧ ∀ j x, xs[j]? = some x → w.cell? ⟨g, j, none⟩ = some x := by
  rcases h.2 with ⟨h1, h2⟩ | ⟨g, cap, cur, h1, -⟩
  · omega
  · refine ⟨g, by subst h1; rfl, fun j x hx => ?_⟩
    have := h.cells (g := g) (by subst h1; rfl) j x hx
    have hadd : (⟨g, 0, none⟩ : Addr).add j = ⟨g, j, none⟩ := by unfold Addr.add; split <;> simp_all
    rwa [hadd] at this
/-- A row of numbers. -/
theorem own_row {w : World} {base : Nat} {u : Value} {l : List Nat} (h : w.ownsRow base 3 1 u l.length (l.flatMap (fun y : Nat => [.int .i64 (y : Int)]))) (hb : ∀ y ∈ l, y ≤ 1048576) : u = .slice (addrOf u) (natInts l).length (capOf u) ∧ Row w (addrOf u) (natInts l) := by
  refine ⟨by rw [natInts_length]; exact own_form h, fun k hk => ?_⟩
  rw [natInts_length] at hk
  obtain ⟨g, ha, hc⟩ := own_cell h (by omega)
  refine ⟨g, 0, ha, ?_, ?_⟩
  · rw [natInts_getD, Nat.zero_add]
    refine hc k _ ?_
    have := flat_at (f := fun y : Nat => [Value.int .i64 (y : Int)]) (z := 1) (fun _ => rfl) l k 0 hk (by omega)
    simpa using this
  · rw [natInts_getD]
    have := hb (l.getD k 0) (by simp [List.getD, List.getElem?_eq_getElem hk])
    exact ⟨by omega, by omega⟩
/-- The rows of reads. -/
theorem own_vrows {w : World} {base b m : Nat} {ct : Nat → Value} {u : Nat → Value} {L : Nat → List Nat} {V : VIn} (hr : w.rowIs b 104 m ct) (hct : ∀ t, t < m → ct t = u t)
    (h : ∀ t, t < m → w.ownsRow base 103 4 (u t) (L t).length ((L t).flatMap V.rcell)) (hl : ∀ t, t < m → (L t).length ≤ 1048576) :
    VRows w (some ⟨b, 0, none⟩) m (fun t => addrOf (u t)) (fun t => capOf (u t)) (fun t => (L t).length) (fun t k => (V.rt ((L t).getD k 0) : Int)) (fun t k => (V.it ((L t).getD k 0) : Int)) (fun t k => V.srcZ ((L t).getD k 0)) (fun t k => V.wr ((L t).getD k 0)) := fun t ht => by
  refine ⟨b, 0, rfl, ?_, hl t ht, fun k hk => ?_⟩
  · rw [Nat.zero_add, hr.cell ht, hct t ht]
    exact congrArg some (own_form (h t ht))
  · obtain ⟨g, ha, hc⟩ := own_cell (h t ht) (Nat.lt_of_le_of_lt (Nat.zero_le _) hk)
    have hf := flat_at (f := V.rcell) (z := 4) (fun _ => rfl) (L t) k
    refine ⟨g, 0, ha, ?_, ?_, ?_, ?_⟩
    · rw [Nat.zero_add]; exact hc (k * 4) _ ((hf 0 hk (by omega)).trans rfl)
    · rw [Nat.zero_add]; exact hc (k * 4 + 1) _ ((hf 1 hk (by omega)).trans rfl)
    · rw [Nat.zero_add]; exact hc (k * 4 + 2) _ ((hf 2 hk (by omega)).trans rfl)
    · rw [Nat.zero_add]; exact hc (k * 4 + 3) _ ((hf 3 hk (by omega)).trans rfl)
/-- The rows of numbers. -/
theorem own_rows {w : World} {base b m : Nat} {ct : Nat → Value} {u : Nat → Value} {L : Nat → List Nat} (hr : w.rowIs b 24 m ct) (hct : ∀ t, t < m → ct t = u t)
    (h : ∀ t, t < m → w.ownsRow base 3 1 (u t) (L t).length ((L t).flatMap (fun y : Nat => [.int .i64 (y : Int)]))) (hl : ∀ t, t < m → ∀ y ∈ L t, y ≤ 1048576) (hz : ∀ t, t < m → (L t).length ≤ 1048576) :
    RowsAt w (some ⟨b, 0, none⟩) m (fun t => addrOf (u t)) (fun t => capOf (u t)) (fun t => natInts (L t)) := fun t ht => by
  obtain ⟨h1, h2⟩ := own_row (h t ht) (hl t ht)
  refine ⟨b, 0, rfl, ?_, h2, by rw [natInts_length]; have := hz t ht; omega⟩
  rw [Nat.zero_add, hr.cell ht, hct t ht]
  exact congrArg some h1
/-- A plain row. -/
theorem row_of_rowIs {w : World} {b n : Nat} {ct : Nat → Value} {f : Nat → Int} (hr : w.rowIs b 3 n ct) (hct : ∀ t, t < n → ct t = .int .i64 (f t)) (hf : ∀ t, t < n → I64 (f t)) : Row w (some ⟨b, 0, none⟩) ((List.range n).map f) := fun k hk => by
  simp only [List.length_map, List.length_range] at hk
  have e : ((List.range n).map f).getD k 0 = f k := by simp [List.getD, hk]
  rw [e]
  exact ⟨b, 0, rfl, by rw [Nat.zero_add, hr.cell hk, hct k hk], hf k hk⟩

/-- The search that newViewSearch answers. -/
structure NvEnd (V : VIn) (st : Nat → Int) (xa : Option Addr) (xc g : Nat) (b : Nat → Nat) (ra2 ra3 ra4 ra5 : Nat → Option Addr) (rc2 rc3 rc4 rc5 : Nat → Nat) (w : World) : Prop where
  g0 : w.cell? ⟨g, 0, none⟩ = some (.slice xa V.m xc)
  g1 : w.cell? ⟨g, 1, none⟩ = some (.slice (some ⟨b 1, 0, none⟩) V.m V.m)
  g2 : w.cell? ⟨g, 2, none⟩ = some (.slice (some ⟨b 2, 0, none⟩) V.m V.m)
  g3 : w.cell? ⟨g, 3, none⟩ = some (.slice (some ⟨b 3, 0, none⟩) V.m V.m)
  g4 : w.cell? ⟨g, 4, none⟩ = some (.slice (some ⟨b 4, 0, none⟩) V.m V.m)
  g5 : w.cell? ⟨g, 5, none⟩ = some (.slice (some ⟨b 5, 0, none⟩) V.ni V.ni)
  g6 : w.cell? ⟨g, 6, none⟩ = some (.slice (some ⟨b 6, 0, none⟩) V.ni V.ni)
  g7 : w.cell? ⟨g, 7, none⟩ = some (.slice (some ⟨b 7, 0, none⟩) V.m V.m)
  g8 : w.cell? ⟨g, 8, none⟩ = some (.slice (some ⟨b 8, 0, none⟩) V.m V.m)
  g9 : w.cell? ⟨g, 9, none⟩ = some (.slice (some ⟨b 9, 0, none⟩) V.ni V.ni)
  r1 : Row w (some ⟨b 1, 0, none⟩) ((List.range V.m).map st)
  r2 : VRows w (some ⟨b 2, 0, none⟩) V.m ra2 rc2 (fun t => (V.reads t V.nr).length) (fun t k => (V.rt ((V.reads t V.nr).getD k 0) : Int)) (fun t k => (V.it ((V.reads t V.nr).getD k 0) : Int)) (fun t k => V.srcZ ((V.reads t V.nr).getD k 0)) (fun t k => V.wr ((V.reads t V.nr).getD k 0))
  r3 : VRows w (some ⟨b 3, 0, none⟩) V.m ra3 rc3 (fun t => (V.seenBy t V.nr).length) (fun t k => (V.rt ((V.seenBy t V.nr).getD k 0) : Int)) (fun t k => (V.it ((V.seenBy t V.nr).getD k 0) : Int)) (fun t k => V.srcZ ((V.seenBy t V.nr).getD k 0)) (fun t k => V.wr ((V.seenBy t V.nr).getD k 0))
  r4 : RowsAt w (some ⟨b 4, 0, none⟩) V.m ra4 rc4 (fun t => natInts (V.writes t V.ni))
  r5 : RowsAt w (some ⟨b 5, 0, none⟩) V.ni ra5 rc5 (fun x => natInts (V.writers x))
  r6 : Row w (some ⟨b 6, 0, none⟩) ((List.range V.ni).map V.final)
  r7 : ∀ t, t < V.m → w.cell? ⟨b 7, t, none⟩ = some (.bool false)
  r8 : Row w (some ⟨b 8, 0, none⟩) ((List.range V.m).map (fun t => (V.pending t V.nr : Int)))
  r9 : Row w (some ⟨b 9, 0, none⟩) ((List.range V.ni).map (fun x => (V.armed x V.nr : Int)))
theorem cnt_le (P : Nat → Bool) : ∀ n, cnt P n ≤ n
  | 0 => Nat.le_refl _
  | n + 1 => by have := cnt_le P n; simp only [cnt]; split <;> omega
theorem final_i64 {V : VIn} (hV : V.Fits) (bm : V.m ≤ 1048576) {x : Nat} (hx : x < V.ni) : I64 (V.final x) := by
  by_cases h : V.row x = []
  · unfold VIn.final; rw [if_pos h]; exact ⟨by omega, by omega⟩
  · obtain ⟨t, h1, h2⟩ := VIn.final_mem h
    have := hV.row x hx t ((mem_once _ _).1 h1)
    rw [h2]; exact ⟨by omega, by omega⟩
theorem NvEnd.of {V : VIn} {st : Nat → Int} {C : NvC} {w0 wx : World} {f2 : Value → Option Int} {n2 : Nat} {ct : Nat → Nat → Value} {v : Nat → Value} {L : Nat → List Nat}
    (hm : C.m = V.m) (hni : C.ni = V.ni) (hrc : C.rc = V.rcell) (hV : V.Fits) (bm : V.m ≤ 1048576) (bn : V.ni ≤ 1048576) (br : V.nr ≤ 1048576) (hst : ∀ t, t < V.m → I64 (st t))
    (h : Nv C w0 f2 n2 ct v L wx) (hh : Hd C ct v) (hp : Pl V st V.ni 0 V.nr V.ni L f2 n2 ct) :
    NvEnd V st C.xa C.xc C.g C.bk (fun t => addrOf (v (V.m + V.ni + t))) (fun t => addrOf (v (2 * V.m + V.ni + t))) (fun t => addrOf (v t)) (fun t => addrOf (v (V.m + t)))
      (fun t => capOf (v (V.m + V.ni + t))) (fun t => capOf (v (2 * V.m + V.ni + t))) (fun t => capOf (v t)) (fun t => capOf (v (V.m + t))) wx := by
  have hLw : ∀ t, t < V.m → L t = V.writes t V.ni := fun t ht => by
    rw [hp.lw t ht]
    unfold VIn.wTo
    have e0 : lastTo (V.row V.ni) t 0 = none := rfl
    rw [if_pos e0, List.append_nil]
  have hLx : ∀ y, y < V.ni → L (V.m + y) = V.writers y := fun y hy => by
    rw [hp.lx y hy]
    unfold VIn.xTo
    rw [if_pos hy]
  have gc := h.gcell
  have rows := h.row
  have own := h.fam.own
  unfold NvC.eT NvC.eS NvC.cell at own
  rw [hrc, hm, hni] at own
  have hh4 := hh.h4
  have hh5 := hh.h5
  have hh2 := hh.h2
  have hh3 := hh.h3
  rw [hm, hni] at hh2 hh3
  rw [hm] at hh4
  rw [hm, hni] at hh5
  unfold NvC.ln at gc rows
  rw [hm, hni] at gc rows
  refine ⟨?_, gc 1 (by omega) (by omega), gc 2 (by omega) (by omega), gc 3 (by omega) (by omega), gc 4 (by omega) (by omega), gc 5 (by omega) (by omega), gc 6 (by omega) (by omega), gc 7 (by omega) (by omega), gc 8 (by omega) (by omega), gc 9 (by omega) (by omega), ?_, ?_, ?_, ?_, ?_, ?_, ?_, ?_, ?_⟩
  · have hc := cell_of_row wx C.g 0 _ 92 (0, 0) h.cells
    rw [hm] at hc
    exact hc
  · exact row_of_rowIs (rows 1 (by omega) (by omega)) hp.c1 hst
  · have e : ∀ t, t < V.m → L (V.m + V.ni + t) = V.reads t V.nr := hp.lr
    refine own_vrows (base := C.base) (L := fun t => V.reads t V.nr) (rows 2 (by omega) (by omega)) hh2 (fun t ht => ?_) (fun t ht => ?_)
    · have := own (V.m + V.ni + t) (by omega)
      simp only [show ¬ V.m + V.ni + t < V.m + V.ni by omega, if_false] at this
      rw [e t ht] at this
      exact this
    · unfold VIn.reads; rw [cnt_filter]; have := cnt_le (fun i => !V.own i && decide (V.rt i = t)) V.nr; omega
  · have e : ∀ t, t < V.m → L (2 * V.m + V.ni + t) = V.seenBy t V.nr := hp.ls
    refine own_vrows (base := C.base) (L := fun t => V.seenBy t V.nr) (rows 3 (by omega) (by omega)) hh3 (fun t ht => ?_) (fun t ht => ?_)
    · have := own (2 * V.m + V.ni + t) (by omega)
      simp only [show ¬ 2 * V.m + V.ni + t < V.m + V.ni by omega, if_false] at this
      rw [e t ht] at this
      exact this
    · unfold VIn.seenBy; rw [cnt_filter]; have := cnt_le (fun i => !V.own i && decide (V.src i = some t)) V.nr; omega
  · refine own_rows (base := C.base) (L := fun t => V.writes t V.ni) (rows 4 (by omega) (by omega)) hh4 (fun t ht => ?_) (fun t ht y hy => ?_) (fun t ht => ?_)
    · have := own t (by omega)
      simp only [show t < V.m + V.ni by omega, if_true] at this
      rw [hLw t ht] at this
      exact this
    · unfold VIn.writes at hy
      have := List.mem_range.1 (List.mem_filter.1 hy).1
      omega
    · unfold VIn.writes; rw [cnt_filter]; have := cnt_le (fun x => decide (t ∈ V.row x)) V.ni; omega
  · refine own_rows (base := C.base) (L := fun x => V.writers x) (rows 5 (by omega) (by omega)) hh5 (fun t ht => ?_) (fun t ht y hy => ?_) (fun t ht => ?_)
    · have := own (V.m + t) (by omega)
      simp only [show V.m + t < V.m + V.ni by omega, if_true] at this
      rw [hLx t ht] at this
      exact this
    · have := hV.row t ht y ((mem_once _ _).1 hy)
      omega
    · rw [nodup_cnt V.m (V.writers t) (once_nodup _) (fun y hy => hV.row t ht y ((mem_once _ _).1 hy))]
      have := cnt_le (fun x => decide (x ∈ V.writers t)) V.m
      omega
  · exact row_of_rowIs (rows 6 (by omega) (by omega)) (fun t ht => hp.c6 t ht ht) (fun t ht => final_i64 hV bm ht)
  · intro t ht
    rw [(rows 7 (by omega) (by omega)).cell ht, hp.c7 t ht]
  · exact row_of_rowIs (rows 8 (by omega) (by omega)) hp.c8 (fun t ht => by have := cnt_le (fun i => !V.own i && decide (V.rt i = t) && (V.src i).isSome) V.nr; unfold VIn.pending; exact ⟨by omega, by omega⟩)
  · exact row_of_rowIs (rows 9 (by omega) (by omega)) hp.c9 (fun t ht => by have := cnt_le (fun i => !V.own i && decide (V.it i = t) && (V.src i).isNone) V.nr; unfold VIn.armed; exact ⟨by omega, by omega⟩)
end Go.Proofs.Qxb6603374a
