/- For FnViewSearchMatchesModel: the place of a transaction, and the two memories at their start. -/
import Derived.Test.Qxb6603374aL6Mem
namespace Go.Proofs.Qxb6603374a
open Go.ChangeShapes Go.WideShapes Go.ChangeAt Go.RowKit

theorem posOf_any (xa : Option Addr) (xc m : Nat) (txns : List Int) (T : Int) (w : World) (hX : Row w xa txns) (hxn : txns.length = m) (b1 : m ≤ 1048576) (hA : Asc txns) (hh : Has txns T) :
    Calls Try.prog 26 #[.slice xa m xc, .int .i64 T] w fun e w' => e = .returned (.int .i64 ((posOf txns T : Nat) : Int)) ∧ w' = w :=
  (pos_any xa xc m txns T w hX hxn b1 hA).mono fun e w' ⟨r, h1, h2, h3⟩ => by
    rcases h2 with ⟨-, h2⟩ | ⟨i, h4, h5, h6⟩
    · obtain ⟨i, h4, h5⟩ := hh
      exact absurd h5 (h2 i h4)
    · obtain ⟨p1, p2⟩ := posOf_has hh
      have : i = posOf txns T := asc_inj hA h4 p1 (h6.trans p2.symm)
      exact ⟨by rw [h1, h5, this], h3⟩
theorem posOf_quiet {xa : Option Addr} {xc m : Nat} {txns : List Int} {T : Int} {w : World} (hX : Row w xa txns) (hxn : txns.length = m) (b1 : m ≤ 1048576) (hA : Asc txns) (hh : Has txns T) (d : Nat) :
    Calls Try.prog 26 #[.slice xa m xc, .int .i64 T] (w.drewN d) fun e w' => e = .returned (.int .i64 ((posOf txns T : Nat) : Int)) ∧ ∃ n, w' = w.drewN n :=
  (posOf_any xa xc m txns T (w.drewN d) (hX.drewN d) hxn b1 hA hh).mono fun _ _ ⟨h1, h2⟩ => ⟨h1, d, h2⟩
theorem posOf_lt {txns : List Int} {m : Nat} {T : Int} (hh : Has txns T) (hxn : txns.length = m) : posOf txns T < m := by rw [← hxn]; exact (posOf_has hh).1

theorem rowIs_at {w : World} {z : Value} {n : Nat} {t : TypeId} {b : Nat} (hb : w.heap.size = b) : (w.alloc (.cells (madeCells #[z] n) t)).rowIs b t n (fun _ => z) := by
  subst hb; exact World.rowIs_made _ _ _ _
def ctC : Nat → Nat → Value := fun i _ => if i = 1 then .slice none 0 0 else if i = 2 then .slice none 0 0 else .int .i64 0
theorem gmC_start {w : World} {B m ni : Nat} (hB : w.heap.size = B) : Gm (cC B m ni) w ctC (fun _ => .slice none 0 0) (fun _ => [])
    ((((w.alloc (.cells (madeCells #[.int .i64 0] ni) 3)).alloc (.cells (madeCells #[.slice none 0 0] m) 24)).alloc (.cells (madeCells #[.slice none 0 0] ni) 24)).alloc (.cells (madeCells #[.int .i64 0] m) 3)) := by
  obtain ⟨w1, hw1⟩ : ∃ x, w.alloc (.cells (madeCells #[.int .i64 0] ni) 3) = x := ⟨_, rfl⟩
  have s1 : w1.heap.size = B + 1 := by rw [← hw1]; simp [hB]
  have r0 : w1.rowIs B 3 ni (fun _ => .int .i64 0) := by rw [← hw1]; exact rowIs_at hB
  have b1 : Below B w w1 := by rw [← hw1]; exact (Below.refl _ _).alloc (by omega) _
  rw [hw1]
  obtain ⟨w2, hw2⟩ : ∃ x, w1.alloc (.cells (madeCells #[.slice none 0 0] m) 24) = x := ⟨_, rfl⟩
  have s2 : w2.heap.size = B + 2 := by rw [← hw2]; simp [s1]
  have r0 : w2.rowIs B 3 ni (fun _ => .int .i64 0) := by rw [← hw2]; exact r0.alloc _
  have r1 : w2.rowIs (B + 1) 24 m (fun _ => .slice none 0 0) := by rw [← hw2]; exact rowIs_at s1
  have b2 : Below B w w2 := by rw [← hw2]; exact b1.alloc (by omega) _
  rw [hw2]
  obtain ⟨w3, hw3⟩ : ∃ x, w2.alloc (.cells (madeCells #[.slice none 0 0] ni) 24) = x := ⟨_, rfl⟩
  have s3 : w3.heap.size = B + 3 := by rw [← hw3]; simp [s2]
  have r0 : w3.rowIs B 3 ni (fun _ => .int .i64 0) := by rw [← hw3]; exact r0.alloc _
  have r1 : w3.rowIs (B + 1) 24 m (fun _ => .slice none 0 0) := by rw [← hw3]; exact r1.alloc _
  have r2 : w3.rowIs (B + 2) 24 ni (fun _ => .slice none 0 0) := by rw [← hw3]; exact rowIs_at s2
  have b3 : Below B w w3 := by rw [← hw3]; exact b2.alloc (by omega) _
  rw [hw3]
  have r3 : (w3.alloc (.cells (madeCells #[.int .i64 0] m) 3)).rowIs (B + 3) 3 m (fun _ => .int .i64 0) := rowIs_at s3
  refine ⟨fun i hi => ?_, Fam.start, fun i t j hi ht hx => ?_, b3.alloc (by show B ≤ _; omega) _, by simp [s3, cC]⟩
  · match i, hi with
    | 0, _ => exact r0.alloc _
    | 1, _ => exact r1.alloc _
    | 2, _ => exact r2.alloc _
    | 3, _ => exact r3
    | n + 4, h => exact absurd h (by show ¬ n + 4 < 4; omega)
  · simp only [cC] at hx
    by_cases e1 : i = 1
    · subst e1; rfl
    · by_cases e2 : i = 2
      · subst e2; rfl
      · simp [e1, e2] at hx
def ctD : Nat → Nat → Value := fun i _ => if i < 8 then .slice none 0 0 else .int .i64 0
/-- What stands after the first n of the ten makes. -/
structure Mk10 (V : VIn) (B m ni n : Nat) (w0 w : World) : Prop where
  fix : ∀ i, i < n → w.rowIs (B + i) ((cD V B m ni).ty i) ((cD V B m ni).ln i) (ctD i)
  bel : Below B w0 w
  sz : w.heap.size = B + n
theorem Mk10.start {V : VIn} {B m ni : Nat} {w : World} (hB : w.heap.size = B) : Mk10 V B m ni 0 w w := ⟨fun _ hi => absurd hi (Nat.not_lt_zero _), Below.refl _ _, hB⟩
theorem Mk10.next {V : VIn} {B m ni n : Nat} {w0 w : World} (h : Mk10 V B m ni n w0 w) {z : Value} {l : Nat} {t : TypeId} (hz : ctD n = fun _ => z) (hl : (cD V B m ni).ln n = l) (ht : (cD V B m ni).ty n = t) : Mk10 V B m ni (n + 1) w0 (w.alloc (.cells (madeCells #[z] l) t)) := by
  refine ⟨fun i hi => ?_, h.bel.alloc (by have := h.sz; omega) _, by have := h.sz; simp; omega⟩
  by_cases e : i = n
  · subst e
    rw [hz, hl, ht]
    exact rowIs_at h.sz
  · exact (h.fix i (by omega)).alloc _
theorem Mk10.gm {V : VIn} {B m ni : Nat} {w0 w : World} (h : Mk10 V B m ni 10 w0 w) : Gm (cD V B m ni) w0 ctD (fun _ => .slice none 0 0) (fun _ => []) w := by
  refine ⟨h.fix, Fam.start, fun i t j hi ht hx => ?_, h.bel, by have := h.sz; show B + 10 ≤ _; omega⟩
  simp only [cD] at hx
  by_cases e : i < 8
  · show (if i < 8 then Value.slice none 0 0 else .int .i64 0) = _
    rw [if_pos e]
  · simp [e] at hx
theorem once_len (l : List Nat) : (once l).length ≤ l.length := by
  induction l using snoc_ind with
  | h0 => simp [once]
  | h1 l a ih =>
    rw [once_snoc]
    split
    · rw [List.length_append]; omega
    · rw [List.length_append, List.length_append]; exact Nat.add_le_add_right ih 1
theorem VIn.xTo_len (V : VIn) (x s : Nat) : (V.xTo x x s).length ≤ s := by
  unfold VIn.xTo
  rw [if_neg (Nat.lt_irrefl _), if_pos rfl]
  have h1 := once_len ((V.row x).take s)
  have h2 := List.length_take_le s (V.row x)
  omega
theorem VIn.wTo_len (V : VIn) (t x s : Nat) : (V.wTo t x s).length ≤ x + 1 := by
  unfold VIn.wTo
  rw [List.length_append]
  have h1 : (V.writes t x).length ≤ x := V.writes_len t x
  split <;> simp <;> omega
theorem cD_eT {V : VIn} {B m ni f t : Nat} (ht : t < m) : (cD V B m ni).eT (f * m + t) = if f % 4 = 3 then 4 else 3 := by
  show (if ((f * m + t) / m) % 4 = 3 then (4 : TypeId) else 3) = _
  rw [div_row ht]
theorem cD_cl {V : VIn} {B m ni f t : Nat} (ht : t < m) : (cD V B m ni).cl (f * m + t) = cellF V (f % 4) := by
  show cellF V (((f * m + t) / m) % 4) = _
  rw [div_row ht]
theorem Dd.len_r {V : VIn} {j e pe ae m : Nat} {L : Nat → List Nat} {ct : Nat → Nat → Value} (h : Dd V j e pe ae L ct) (hm : V.m = m) {f t : Nat} (hf : f < 4) (ht : t < m) : (L (f * m + t)).length ≤ j + 1 := by
  subst hm
  rw [h.lr f t hf ht]
  exact Nat.le_trans (V.reads_len t _) (by split <;> omega)
theorem Dd.len_s {V : VIn} {j e pe ae m : Nat} {L : Nat → List Nat} {ct : Nat → Nat → Value} (h : Dd V j e pe ae L ct) (hm : V.m = m) {f t : Nat} (hf : f < 4) (ht : t < m) : (L ((4 + f) * m + t)).length ≤ j + 1 := by
  subst hm
  rw [h.ls f t hf ht]
  exact Nat.le_trans (V.seenBy_len t _) (by split <;> omega)
theorem srcZ_of {V : VIn} {i s : Nat} (h : V.src i = some s) : V.srcZ i = (s : Int) := by unfold VIn.srcZ; rw [h]
theorem srcZ_no {V : VIn} {i : Nat} (h : V.src i = none) : V.srcZ i = -1 := by unfold VIn.srcZ; rw [h]
theorem range_nat_i64 {z : Nat} (h : z ≤ 1048576) : I64 (z : Int) := ⟨by omega, by omega⟩
theorem eqrows_at {w : World} {b b' n c c' : Nat} (h : ∃ ra ra' rc rc' R, RowsAt w (some ⟨b, 0, none⟩) n ra rc R ∧ RowsAt w (some ⟨b', 0, none⟩) n ra' rc' R) (hb : n ≤ 1048576) (d : Nat) :
    Calls Try.prog 27 #[.slice (some ⟨b, 0, none⟩) n c, .slice (some ⟨b', 0, none⟩) n c'] (w.drewN d) fun e w' => e = .returned (.bool true) ∧ ∃ m, w' = w.drewN m := by
  obtain ⟨ra, ra', rc, rc', R, h1, h2⟩ := h
  exact (eqrows_same _ _ c c' n ra ra' rc rc' R (w.drewN d) (h1.drewN d) (h2.drewN d) (by omega)).mono fun e w' ⟨g1, m, g2⟩ => ⟨g1, d + m, by rw [g2, drewN_two]⟩
theorem BRowsAt.drewN' {w : World} {a : Option Addr} {n : Nat} {ra : Nat → Option Addr} {rc : Nat → Nat} {R : Nat → List Bool} (h : BRowsAt w a n ra rc R) (d : Nat) : BRowsAt (w.drewN d) a n ra rc R := fun v hv => h v hv
theorem eqbools_at {w : World} {b b' n c c' : Nat} (h : ∃ ra ra' rc rc' R, BRowsAt w (some ⟨b, 0, none⟩) n ra rc R ∧ BRowsAt w (some ⟨b', 0, none⟩) n ra' rc' R) (hb : n ≤ 1048576) (d : Nat) :
    Calls Try.prog 29 #[.slice (some ⟨b, 0, none⟩) n c, .slice (some ⟨b', 0, none⟩) n c'] (w.drewN d) fun e w' => e = .returned (.bool true) ∧ Below w.heap.size w w' := by
  obtain ⟨ra, ra', rc, rc', R, h1, h2⟩ := h
  refine (eqbools_same _ _ c c' n ra ra' rc rc' R (w.drewN d) (h1.drewN' d) (h2.drewN' d) (by omega)).mono fun e w' ⟨r, g1, g2, g3⟩ => ?_
  have e2 : r = true := g2
  subst e2
  exact ⟨g1, (below_drewN (Below.refl _ _) d).trans g3⟩
theorem eqints_at {w : World} {b b' n c c' : Nat} (h : ∃ zs, Row w (some ⟨b, 0, none⟩) zs ∧ Row w (some ⟨b', 0, none⟩) zs ∧ zs.length = n) (hb : n ≤ 1048576) (d : Nat) :
    Calls Try.prog 25 #[.slice (some ⟨b, 0, none⟩) n c, .slice (some ⟨b', 0, none⟩) n c'] (w.drewN d) fun e w' => e = .returned (.bool true) ∧ ∃ m, w' = w.drewN m := by
  obtain ⟨zs, h1, h2, h3⟩ := h
  exact eq_quiet h1 h2 h3 (by omega) d
theorem drewN_zero (w : World) : w.drewN 0 = w := rfl
end Go.Proofs.Qxb6603374a
