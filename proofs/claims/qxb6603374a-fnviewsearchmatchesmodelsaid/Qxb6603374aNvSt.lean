/- The start of newViewSearch's memory: behind its first region, and the row of starts. -/
import Derived.Test.Qxb6603374aNvEnd
namespace Go.Proofs.Qxb6603374a
open Go.ChangeShapes Go.WideShapes Go.ChangeAt Go.RowKit

/-- The starts behind the last e operations. -/
def stF (op : Nat → Nat) (pn : Nat) : Nat → Nat → Int
  | 0 => fun _ => 0
  | e + 1 => at' (stF op pn e) (op (pn - 1 - e)) ((pn - 1 - e : Nat) : Int)
theorem stF_i64 (op : Nat → Nat) (pn : Nat) (hp : pn ≤ 1048576) : ∀ e t, I64 (stF op pn e t)
  | 0, _ => by show I64 0; exact ⟨by decide, by decide⟩
  | e + 1, t => by
    unfold stF
    rw [at'_eq]
    by_cases h : t = op (pn - 1 - e)
    · rw [if_pos h]; exact ⟨by omega, by omega⟩
    · rw [if_neg h]; exact stF_i64 op pn hp e t
/-- Only the row of starts has turned. -/
structure Sv (wv : World) (b m : Nat) (f : Nat → Value) (wx : World) : Prop where
  row : wx.rowIs b 3 m f
  oth : ∀ c, c ≠ b → wx.heap[c]? = wv.heap[c]?
  os : wx.os = wv.os
  tape : wx.tape = wv.tape
  output : wx.output = wv.output
  size : wx.heap.size = wv.heap.size
theorem Sv.refl {wv : World} {b m : Nat} {f : Nat → Value} (h : wv.rowIs b 3 m f) : Sv wv b m f wv := ⟨h, fun _ _ => rfl, rfl, rfl, rfl, rfl⟩
theorem Sv.drew {wv wx : World} {b m : Nat} {f : Nat → Value} (h : Sv wv b m f wx) : Sv wv b m f wx.drew := ⟨h.row, h.oth, h.os, h.tape, h.output, h.size⟩
theorem Sv.set {wv wx : World} {b m : Nat} {f : Nat → Value} (h : Sv wv b m f wx) (k : Nat) (u : Value) : Sv wv b m (at' f k u) (wx.setCell ⟨b, k, none⟩ u) :=
  ⟨h.row.set k u, fun c hc => (Below.heap_setCell _ _ _ _ hc).trans (h.oth c hc), h.os, h.tape, h.output, by have := h.size; simpa using this⟩

/-- The blocks by field. -/
def bkL (l : List Nat) : Nat → Nat := fun i => l.getD (i - 1) 0
theorem bkL_ne {l : List Nat} (hd : l.Nodup) {i j : Nat} (hi : 1 ≤ i) (hi2 : i ≤ l.length) (hj : 1 ≤ j) (hj2 : j ≤ l.length) (hne : i ≠ j) : bkL l i ≠ bkL l j := by
  unfold bkL
  have h1 : i - 1 < l.length := by omega
  have h2 : j - 1 < l.length := by omega
  simp only [List.getD, List.getElem?_eq_getElem h1, List.getElem?_eq_getElem h2, Option.getD_some]
  have hp := List.pairwise_iff_getElem.1 hd
  rcases Nat.lt_or_gt_of_ne hne with h | h
  · exact hp (i - 1) (j - 1) h1 h2 (by omega)
  · exact (hp (j - 1) (i - 1) h2 h1 (by omega)).symm
theorem bkL_mem {l : List Nat} {i : Nat} (hi : 1 ≤ i) (hi2 : i ≤ l.length) : bkL l i ∈ l := by
  unfold bkL
  have h1 : i - 1 < l.length := by omega
  simp only [List.getD, List.getElem?_eq_getElem h1, Option.getD_some]
  exact List.getElem_mem h1

theorem nv_start {w wr wv wx : World} {m ni xc gB start reads seenBy writes writers final placed pending armed : Nat} {xa : Option Addr} {f : Value → Option Int} {fs : Nat → Value} (rc : Nat → List Value)
    (hM : MapFn wr 3 w.heap.size m f) (hB : Below w.heap.size w wr) (h0 : Vs0 wr.drew m ni xa xc gB start reads seenBy writes writers final placed pending armed wv) (hS : Sv wv start m fs wx) :
    ∃ C : NvC, ∃ ct : Nat → Nat → Value, C.Ok ∧ C.m = m ∧ C.ni = ni ∧ C.H = w.heap.size ∧ C.g = gB ∧ C.mp = w.heap.size ∧ C.last = wx.heap.size ∧ C.xc = xc ∧ C.xa = xa ∧ C.f1 = f ∧ C.rc = rc ∧
      ct 1 = fs ∧ ct 6 = (fun _ => .int .i64 0) ∧ ct 7 = (fun _ => .bool false) ∧ ct 8 = (fun _ => .int .i64 0) ∧ ct 9 = (fun _ => .int .i64 0) ∧
      Hd C ct (fun _ => .slice none 0 0) ∧ Nv C w (fun _ => none) 0 ct (fun _ => .slice none 0 0) (fun _ => []) (wx.alloc (.map #[] 0)) := by
  let l := [start, reads, seenBy, writes, writers, final, placed, pending, armed, gB]
  have hmp := hM.lt
  have hsz := h0.sz
  have hss := hS.size
  have hbz := h0.bel.size
  have hdz : wr.drew.heap.size = wr.heap.size := rfl
  have hll : l.length = 10 := rfl
  have e10 : bkL l 10 = gB := rfl
  have hlow : ∀ i, 1 ≤ i → i ≤ 10 → w.heap.size < bkL l i ∧ bkL l i < wv.heap.size := fun i h1 h2 => by
    have hin := bkL_mem (l := l) h1 (by omega)
    have hl := h0.low (bkL l i) hin
    refine ⟨by omega, ?_⟩
    have : bkL l i = start ∨ bkL l i = reads ∨ bkL l i = seenBy ∨ bkL l i = writes ∨ bkL l i = writers ∨ bkL l i = final ∨ bkL l i = placed ∨ bkL l i = pending ∨ bkL l i = armed ∨ bkL l i = gB := by simpa [l] using hin
    rcases this with e | e | e | e | e | e | e | e | e | e <;> rw [e]
    · exact h0.r1.lt
    · exact h0.r2.lt
    · exact h0.r3.lt
    · exact h0.r4.lt
    · exact h0.r5.lt
    · exact h0.r6.lt
    · exact h0.r7.lt
    · exact h0.r8.lt
    · exact h0.r9.lt
    · omega
  have hap : ∀ i j, 1 ≤ i → i ≤ 10 → 1 ≤ j → j ≤ 10 → i ≠ j → bkL l i ≠ bkL l j := fun i j h1 h2 h3 h4 hne => bkL_ne (l := l) h0.dif h1 (by omega) h3 (by omega) hne
  refine ⟨⟨m, ni, w.heap.size, gB, w.heap.size, wx.heap.size, wx.heap.size + 1, xc, xa, bkL l, f, rc⟩,
    fun i => match i with | 1 => fs | 2 => (fun _ => .slice none 0 0) | 3 => (fun _ => .slice none 0 0) | 4 => (fun _ => .slice none 0 0) | 5 => (fun _ => .slice none 0 0) | 7 => (fun _ => .bool false) | _ => (fun _ => .int .i64 0),
    ?_, rfl, rfl, rfl, rfl, rfl, rfl, rfl, rfl, rfl, rfl, rfl, rfl, rfl, rfl, rfl, ⟨fun _ _ => rfl, fun _ _ => rfl, fun _ _ => rfl, fun _ _ => rfl⟩, ?_⟩
  · have g10 := hlow 10 (by omega) (by omega)
    rw [e10] at g10
    refine ⟨fun i j h1 h2 h3 h4 hne => hap i j h1 (by omega) h3 (by omega) hne, fun i h1 h2 => ?_, ⟨by show w.heap.size ≤ gB; omega, by show gB < wx.heap.size + 1; omega⟩, ⟨Nat.le_refl _, by show w.heap.size < wx.heap.size + 1; omega⟩, ⟨by show w.heap.size ≤ wx.heap.size; omega, by show wx.heap.size < wx.heap.size + 1; omega⟩, by show gB ≠ w.heap.size; omega, by show gB ≠ wx.heap.size; omega, by show w.heap.size ≠ wx.heap.size; omega⟩
    have h3 := hlow i h1 (by omega)
    have h4 := hap i 10 h1 (by omega) (by omega) (by omega) (by omega)
    rw [e10] at h4
    exact ⟨by show w.heap.size ≤ bkL l i; omega, by show bkL l i < wx.heap.size + 1; omega, h4, by show bkL l i ≠ w.heap.size; omega, by show bkL l i ≠ wx.heap.size; omega⟩
  · have st1 : bkL l 1 = start := rfl
    have hne : ∀ i, 2 ≤ i → i ≤ 10 → bkL l i ≠ start := fun i h1 h2 => by rw [← st1]; exact hap i 1 (by omega) h2 (by omega) (by omega) (by omega)
    have hgs : gB ≠ start := by have := hne 10 (by omega) (by omega); rwa [e10] at this
    have hws : w.heap.size ≠ start := by have := hlow 1 (by omega) (by omega); rw [st1] at this; omega
    have kp : ∀ b, b < wv.heap.size → b ≠ start → (wx.alloc (.map #[] 0)).heap[b]? = wv.heap[b]? := fun b hb hn => (Below.heap_alloc _ _ _ (by omega)).trans (hS.oth b hn)
    have rr : ∀ i, 2 ≤ i → i ≤ 9 → ∀ t n f, wv.rowIs (bkL l i) t n f → (wx.alloc (.map #[] 0)).rowIs (bkL l i) t n f := fun i h1 h2 t n f hr => hr.of_block (kp _ hr.lt (hne i h1 (by omega)))
    refine ⟨?_, fun i h1 h2 => ?_, ?_, MapFn.made wx 100, Fam.start, ?_, ?_⟩
    · show (wx.alloc (.map #[] 0)).heap[gB]? = _
      rw [kp gB (by omega) hgs]
      exact h0.cells
    · match i, h1, h2 with
      | 1, _, _ => exact hS.row.alloc _
      | 2, _, _ => exact rr 2 (by omega) (by omega) _ _ _ h0.r2
      | 3, _, _ => exact rr 3 (by omega) (by omega) _ _ _ h0.r3
      | 4, _, _ => exact rr 4 (by omega) (by omega) _ _ _ h0.r4
      | 5, _, _ => exact rr 5 (by omega) (by omega) _ _ _ h0.r5
      | 6, _, _ => exact rr 6 (by omega) (by omega) _ _ _ h0.r6
      | 7, _, _ => exact rr 7 (by omega) (by omega) _ _ _ h0.r7
      | 8, _, _ => exact rr 8 (by omega) (by omega) _ _ _ h0.r8
      | 9, _, _ => exact rr 9 (by omega) (by omega) _ _ _ h0.r9
    · refine hM.block ?_
      show (wx.alloc (.map #[] 0)).heap[w.heap.size]? = _
      rw [kp w.heap.size (by omega) hws]
      exact h0.bel.block _ (by show w.heap.size < wr.heap.size; exact hmp)
    · have hb1 : Below w.heap.size w wv := hB.trans ((show Below w.heap.size wr wr.drew from ⟨rfl, rfl, rfl, Nat.le_refl _, fun _ _ => rfl⟩).trans (h0.bel.mono (by show w.heap.size ≤ wr.heap.size; omega)))
      have hb2 : Below w.heap.size w wx := hb1.trans ⟨hS.os, hS.tape, hS.output, by omega, fun c hc => hS.oth c (by have := hlow 1 (by omega) (by omega); rw [st1] at this; omega)⟩
      exact hb2.alloc (by omega) _
    · show wx.heap.size + 1 ≤ (wx.alloc (.map #[] 0)).heap.size
      simp
/-- The map of the index in the round of the starts. -/
theorem Sv.map {w wr wv wx : World} {m ni xc gB start reads seenBy writes writers final placed pending armed : Nat} {xa : Option Addr} {f : Value → Option Int} {fs : Nat → Value}
    (hM : MapFn wr 3 w.heap.size m f) (hB : Below w.heap.size w wr) (h0 : Vs0 wr.drew m ni xa xc gB start reads seenBy writes writers final placed pending armed wv) (hS : Sv wv start m fs wx) : MapFn wx 3 w.heap.size m f ∧ Below w.heap.size w wx ∧ wx.cell? ⟨gB, 1, none⟩ = some (.slice (some ⟨start, 0, none⟩) m m) := by
  have hmp := hM.lt
  have hl := h0.low start (by simp)
  have hdz : wr.drew.heap.size = wr.heap.size := rfl
  have hss := hS.size
  have hbz := h0.bel.size
  have hbz2 := hB.size
  have hd : gB ≠ start := by have := h0.dif; simp at this; intro e; exact this.1.2.2.2.2.2.2.2.2 e.symm
  refine ⟨hM.block ?_, ?_, ?_⟩
  · rw [hS.oth _ (by omega)]
    exact h0.bel.block _ (by show w.heap.size < wr.heap.size; exact hmp)
  · have hb1 : Below w.heap.size w wv := hB.trans ((show Below w.heap.size wr wr.drew from ⟨rfl, rfl, rfl, Nat.le_refl _, fun _ _ => rfl⟩).trans (h0.bel.mono (by show w.heap.size ≤ wr.heap.size; omega)))
    exact hb1.trans ⟨hS.os, hS.tape, hS.output, by omega, fun c hc => hS.oth c (by omega)⟩
  · have := cell_of_row wx gB 1 _ 92 (0, 0) ((hS.oth gB hd).trans h0.cells)
    exact this
end Go.Proofs.Qxb6603374a
