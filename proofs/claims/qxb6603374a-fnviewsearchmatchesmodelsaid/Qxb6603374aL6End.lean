/- For FnViewSearchMatchesModel: the ten rows at the end of the reads' loop. -/
import Derived.Test.Qxb6603374aL6Pos
namespace Go.Proofs.Qxb6603374a
open Go.ChangeShapes Go.WideShapes Go.ChangeAt Go.RowKit

theorem srcZ_i64 {V : VIn} (hV : V.Fits) (bm : V.m ≤ 1048576) {i : Nat} (hi : i < V.nr) : I64 (V.srcZ i) := by
  unfold VIn.srcZ
  cases hs : V.src i with
  | none => exact ⟨by simp only; omega, by simp only; omega⟩
  | some s => have := VIn.src_lt hV hi hs; exact ⟨by simp only; omega, by simp only; omega⟩
theorem rt_i64 {V : VIn} (hV : V.Fits) (bm : V.m ≤ 1048576) {i : Nat} (hi : i < V.nr) : I64 (V.rt i : Int) := range_nat_i64 (by have := hV.rt i hi; omega)
theorem it_i64 {V : VIn} (hV : V.Fits) (bm : V.ni ≤ 1048576) {i : Nat} (hi : i < V.nr) : I64 (V.it i : Int) := range_nat_i64 (by have := hV.it i hi; omega)
/-- The rows of family f, read off the memory at its end. -/
theorem gmD_rows {V : VIn} {D m ni : Nat} {w0 w : World} {ct : Nat → Nat → Value} {v : Nat → Value} {L : Nat → List Nat} (hG : Gm (cD V D m ni) w0 ct v L w) (hm : V.m = m) {f : Nat} (hf : f < 8) (g : Nat → Int) (hg : cellF V (f % 4) = fun y => .int .i64 (g y)) (h4 : f % 4 ≠ 3) (M : Nat → List Nat) (hM : ∀ t, t < V.m → L (f * V.m + t) = M t) (hb : ∀ t y, t < m → y ∈ M t → I64 (g y)) (hl : ∀ t, t < m → (M t).length ≤ 1048576) :
    ∃ ra rc, RowsAt w (some ⟨D + f, 0, none⟩) m ra rc (fun t => (M t).map g) := by
  subst hm
  exact ⟨_, _, hG.rows (cD_ok V D V.m ni) (i := f) (n := V.m) (by show f < 10; omega) (by show (if f = 9 then ni else V.m) = V.m; rw [if_neg (by omega)]) (fun t => f * V.m + t) (fun t _ => by show (if f < 8 then some (f * V.m + t) else none) = _; rw [if_pos hf]) (fun t ht => by rw [cD_eT ht, if_neg h4]) g (fun t ht => by rw [cD_cl ht]; exact hg) M hM (fun t ht y hy => hb t y ht hy) hl⟩
theorem gmD_rowsB {V : VIn} {D m ni : Nat} {w0 w : World} {ct : Nat → Nat → Value} {v : Nat → Value} {L : Nat → List Nat} (hG : Gm (cD V D m ni) w0 ct v L w) (hm : V.m = m) {f : Nat} (hf : f < 8) (g : Nat → Bool) (hg : cellF V (f % 4) = fun y => .bool (g y)) (h4 : f % 4 = 3) (M : Nat → List Nat) (hM : ∀ t, t < V.m → L (f * V.m + t) = M t) (hl : ∀ t, t < m → (M t).length ≤ 1048576) :
    ∃ ra rc, BRowsAt w (some ⟨D + f, 0, none⟩) m ra rc (fun t => (M t).map g) := by
  subst hm
  exact ⟨_, _, hG.rowsB (cD_ok V D V.m ni) (i := f) (n := V.m) (by show f < 10; omega) (by show (if f = 9 then ni else V.m) = V.m; rw [if_neg (by omega)]) (fun t => f * V.m + t) (fun t _ => by show (if f < 8 then some (f * V.m + t) else none) = _; rw [if_pos hf]) (fun t ht => by rw [cD_eT ht, if_pos h4]) g (fun t ht => by rw [cD_cl ht]; exact hg) M hM hl⟩
/-- All ten rows at the end. -/
structure End6 (V : VIn) (D m ni : Nat) (w : World) : Prop where
  e0 : ∃ ra rc, RowsAt w (some ⟨D, 0, none⟩) m ra rc (fun t => (V.reads t V.nr).map (fun i => (V.rt i : Int)))
  e1 : ∃ ra rc, RowsAt w (some ⟨D + 1, 0, none⟩) m ra rc (fun t => (V.reads t V.nr).map (fun i => (V.it i : Int)))
  e2 : ∃ ra rc, RowsAt w (some ⟨D + 1 + 1, 0, none⟩) m ra rc (fun t => (V.reads t V.nr).map V.srcZ)
  e3 : ∃ ra rc, BRowsAt w (some ⟨D + 1 + 1 + 1, 0, none⟩) m ra rc (fun t => (V.reads t V.nr).map V.wr)
  e4 : ∃ ra rc, RowsAt w (some ⟨D + 1 + 1 + 1 + 1, 0, none⟩) m ra rc (fun t => (V.seenBy t V.nr).map (fun i => (V.rt i : Int)))
  e5 : ∃ ra rc, RowsAt w (some ⟨D + 1 + 1 + 1 + 1 + 1, 0, none⟩) m ra rc (fun t => (V.seenBy t V.nr).map (fun i => (V.it i : Int)))
  e6 : ∃ ra rc, RowsAt w (some ⟨D + 1 + 1 + 1 + 1 + 1 + 1, 0, none⟩) m ra rc (fun t => (V.seenBy t V.nr).map V.srcZ)
  e7 : ∃ ra rc, BRowsAt w (some ⟨D + 1 + 1 + 1 + 1 + 1 + 1 + 1, 0, none⟩) m ra rc (fun t => (V.seenBy t V.nr).map V.wr)
  e8 : Row w (some ⟨D + 1 + 1 + 1 + 1 + 1 + 1 + 1 + 1, 0, none⟩) ((List.range m).map (fun t => (V.pending t V.nr : Int)))
  e9 : Row w (some ⟨D + 1 + 1 + 1 + 1 + 1 + 1 + 1 + 1 + 1, 0, none⟩) ((List.range ni).map (fun t => (V.armed t V.nr : Int)))
theorem End6.of {V : VIn} {D m ni : Nat} {w0 w : World} {ct : Nat → Nat → Value} {v : Nat → Value} {L : Nat → List Nat} (hG : Gm (cD V D m ni) w0 ct v L w) (hD : Dd V V.nr 0 0 0 L ct) (hm : V.m = m) (hn : V.ni = ni) (hV : V.Fits) (b1 : V.m ≤ 1048576) (b2 : V.ni ≤ 1048576) (b3 : V.nr ≤ 1048576) : End6 V D m ni w := by
  have hr : ∀ f, f < 4 → ∀ t, t < V.m → L (f * V.m + t) = V.reads t V.nr := fun f hf t ht => by rw [hD.lr f t hf ht, if_neg (by omega)]
  have hs : ∀ f, f < 4 → ∀ t, t < V.m → L ((4 + f) * V.m + t) = V.seenBy t V.nr := fun f hf t ht => by rw [hD.ls f t hf ht, if_neg (by omega)]
  have lr : ∀ t, t < m → (V.reads t V.nr).length ≤ 1048576 := fun t _ => Nat.le_trans (V.reads_len t _) b3
  have ls : ∀ t, t < m → (V.seenBy t V.nr).length ≤ 1048576 := fun t _ => Nat.le_trans (V.seenBy_len t _) b3
  refine ⟨gmD_rows hG hm (f := 0) (by omega) _ rfl (by omega) _ (hr 0 (by omega)) (fun t y _ hy => rt_i64 hV b1 (reads_mem hy)) lr, gmD_rows hG hm (f := 1) (by omega) _ rfl (by omega) _ (hr 1 (by omega)) (fun t y _ hy => it_i64 hV b2 (reads_mem hy)) lr, gmD_rows hG hm (f := 2) (by omega) _ rfl (by omega) _ (hr 2 (by omega)) (fun t y _ hy => srcZ_i64 hV b1 (reads_mem hy)) lr, gmD_rowsB hG hm (f := 3) (by omega) _ rfl (by omega) _ (hr 3 (by omega)) lr,
    gmD_rows hG hm (f := 4) (by omega) _ rfl (by omega) _ (hs 0 (by omega)) (fun t y _ hy => rt_i64 hV b1 (seenBy_mem hy)) ls, gmD_rows hG hm (f := 5) (by omega) _ rfl (by omega) _ (hs 1 (by omega)) (fun t y _ hy => it_i64 hV b2 (seenBy_mem hy)) ls, gmD_rows hG hm (f := 6) (by omega) _ rfl (by omega) _ (hs 2 (by omega)) (fun t y _ hy => srcZ_i64 hV b1 (seenBy_mem hy)) ls, gmD_rowsB hG hm (f := 7) (by omega) _ rfl (by omega) _ (hs 3 (by omega)) ls, ?_, ?_⟩
  · have h8 : w.rowIs (D + 1 + 1 + 1 + 1 + 1 + 1 + 1 + 1) 3 m (ct 8) := hG.fix 8 (by show 8 < 10; omega)
    exact row_of_rowIs h8 (fun t ht => by rw [hD.c8 t (by rw [hm]; exact ht), Nat.add_zero]) (fun t _ => range_nat_i64 (by have : V.pending t V.nr ≤ V.nr := cnt_le _ _; omega))
  · have h9 : w.rowIs (D + 1 + 1 + 1 + 1 + 1 + 1 + 1 + 1 + 1) 3 ni (ct 9) := hG.fix 9 (by show 9 < 10; omega)
    exact row_of_rowIs h9 (fun t ht => by rw [hD.c9 t (by rw [hn]; exact ht), Nat.add_zero]) (fun t _ => range_nat_i64 (by have : V.armed t V.nr ≤ V.nr := cnt_le _ _; omega))
theorem End6.kept {V : VIn} {D m ni : Nat} {w w' : World} (h : End6 V D m ni w) (hb : Below w.heap.size w w') : End6 V D m ni w' := by
  obtain ⟨⟨_, _, h0⟩, ⟨_, _, h1⟩, ⟨_, _, h2⟩, ⟨_, _, h3⟩, ⟨_, _, h4⟩, ⟨_, _, h5⟩, ⟨_, _, h6⟩, ⟨_, _, h7⟩, h8, h9⟩ := h
  exact ⟨⟨_, _, h0.kept hb⟩, ⟨_, _, h1.kept hb⟩, ⟨_, _, h2.kept hb⟩, ⟨_, _, h3.kept hb⟩, ⟨_, _, h4.kept hb⟩, ⟨_, _, h5.kept hb⟩, ⟨_, _, h6.kept hb⟩, ⟨_, _, h7.kept hb⟩, h8.kept hb, h9.kept hb⟩
/-- Two rows of rows found the same: the pair. -/
theorem pair_of {w : World} {b b' : Option Addr} {n : Nat} {ra rc} {R : Nat → List Int} (h : RowsAt w b n ra rc R) (h' : ∃ ra' rc', RowsAt w b' n ra' rc' R) : ∃ ra ra' rc rc' R, RowsAt w b n ra rc R ∧ RowsAt w b' n ra' rc' R := by
  obtain ⟨ra', rc', h2⟩ := h'
  exact ⟨ra, ra', rc, rc', R, h, h2⟩
theorem pairB_of {w : World} {b b' : Option Addr} {n : Nat} {ra rc} {R : Nat → List Bool} (h : BRowsAt w b n ra rc R) (h' : ∃ ra' rc', BRowsAt w b' n ra' rc' R) : ∃ ra ra' rc rc' R, BRowsAt w b n ra rc R ∧ BRowsAt w b' n ra' rc' R := by
  obtain ⟨ra', rc', h2⟩ := h'
  exact ⟨ra, ra', rc, rc', R, h, h2⟩
end Go.Proofs.Qxb6603374a
