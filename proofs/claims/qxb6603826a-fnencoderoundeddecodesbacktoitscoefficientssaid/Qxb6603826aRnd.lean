/- The contract of encodeRounded. -/
import Derived.Test.Qxb6603826aRounded
import Derived.Deep.MidRow
import Derived.Deep.WholeRow
import Derived.Deep.RegionWith
namespace Go.Proofs.Qxb6603826a
open Go.ChangeShapes Go.WideShapes Go.ChangeAt Go.RowKit

/-- The zero values of the three arrays. -/
def Z8 : Array Value := Array.replicate 1007 (.int .u8 0)
def Z32 : Array Value := Array.replicate 761 (.int .u32 0)
def Z16 : Array Value := Array.replicate 761 (.int .i16 0)

theorem inf41 : (Try.prog.info? 41).map (fun i => (i.zero, i.size)) = some (some (.agg Z8), 1007) := by kernel_rfl
theorem inf47 : (Try.prog.info? 47).map (fun i => (i.zero, i.size)) = some (some (.agg Z32), 761) := by kernel_rfl
theorem inf40 : (Try.prog.info? 40).map (fun i => (i.zero, i.size)) = some (some (.agg Z16), 761) := by kernel_rfl
theorem und41 : Try.prog.underlying 41 = some (.array 1007 5) := by kernel_rfl
theorem und40 : Try.prog.underlying 40 = some (.array 761 39) := by kernel_rfl
theorem und47 : Try.prog.underlying 47 = some (.array 761 24) := by kernel_rfl

theorem cellOld {w w' : World} (h : Below w.heap.size w w') {a : Addr} {v : Value} (hc : w.cell? a = some v) : w'.cell? a = some v := by
  rw [h.cell (p := a) ?_, hc]
  by_cases hlt : a.block < w.heap.size
  · exact hlt
  · simp [World.cell?, Array.getElem?_eq_none (Nat.le_of_not_lt hlt)] at hc

/-- The i-th number that encodeRounded lays down. -/
def valOf (C : Nat → Int) (i : Nat) : Nat := ((C i + 2295) / 3).toNat

theorem valOf_at {C : Nat → Int} (h : Good C) {i : Nat} (hi : i < 761) : valOf C i ≤ 1530 ∧ C i = 3 * (valOf C i : Int) - 2295 := by
  obtain ⟨h1, h2, h3⟩ := h i hi
  unfold valOf
  have h4 : (3 : Int) ∣ C i := Int.dvd_of_tmod_eq_zero h3
  omega

def ValsTo (w : World) (C : Nat → Int) (i : Value) (wr : World) : Prop :=
  ∃ k : Nat, k ≤ 761 ∧ i = .int .i64 k ∧ wr.rowIs (w.heap.size + 1) 47 761 (fun j => .int .u32 (if j < k then (valOf C j : Int) else 0)) ∧ Below w.heap.size w wr ∧
    wr.heap[w.heap.size]? = some (.cells Z8 41) ∧ wr.heap.size = w.heap.size + 2

theorem ValsTo.start (w : World) (C : Nat → Int) : ValsTo w C (.int .i64 0) ((w.alloc (.cells Z8 41)).alloc (.cells Z32 47)) := by
  refine ⟨0, by omega, rfl, ?_, ((Below.refl _ _).alloc (Nat.le_refl _) _).alloc (by simp) _, ?_, by simp⟩
  · have h := World.rowIs_alloc (w.alloc (.cells Z8 41)) Z32 47 (fun _ => .int .u32 0) (fun i hi => by unfold Z32 at hi ⊢; simp only [Array.size_replicate] at hi; rw [Array.getElem?_replicate, if_pos hi])
    have e1 : (w.alloc (.cells Z8 41)).heap.size = w.heap.size + 1 := by simp
    have e2 : Z32.size = 761 := by unfold Z32; simp
    rw [e1, e2] at h
    exact h.congr (fun i _ => by simp)
  · exact heap_alloc2_old w _ _

theorem ValsTo.step {w wr : World} {C : Nat → Int} {k X n : Nat} {y : Int} (hlt : k < 761) (hrow : wr.rowIs (w.heap.size + 1) 47 761 fun j => .int .u32 (if j < k then (valOf C j : Int) else 0))
    (hbel : Below w.heap.size w wr) (hres : wr.heap[w.heap.size]? = some (.cells Z8 41)) (HZ : Hid (wr.heap.size = w.heap.size + 2)) (HX : Hid (valOf C k = X)) (hX : X ≤ 1530) (hy : y = 3 * (X : Int) * 10923 / 32768) :
    ValsTo w C (.int .i64 ((k : Int) + 1)) ((wr.drewN n).setCell ⟨w.heap.size + 1, k, none⟩ (.int .u32 y)) := by
  have hrow' : (wr.drewN n).rowIs (w.heap.size + 1) 47 761 fun j => .int .u32 (if j < k then (valOf C j : Int) else 0) := hrow.of_block rfl
  have hbel' : Below w.heap.size w (wr.drewN n) := ⟨hbel.os, hbel.tape, hbel.output, hbel.size, hbel.block⟩
  refine ⟨k + 1, by omega, by go_num, (hrow'.set k _).congr (fun j _ => ?_), hbel'.setCell (by simp) _, ?_, ?_⟩
  · by_cases e : j = k
    · subst e
      have h2 : valOf C j = X := HX
      have h3 := rounded X hX
      have h4 : y = (X : Int) := by omega
      rw [if_pos rfl, if_pos (by omega), h2, h4]
    · rw [if_neg e]
      by_cases h : j < k
      · rw [if_pos h, if_pos (by omega)]
      · rw [if_neg h, if_neg (by omega)]
  · rw [Below.heap_setCell _ _ _ _ (by simp)]; exact hres
  · have : wr.heap.size = w.heap.size + 2 := HZ
    simpa using this

/-- The numbers, and the bytes that are their code. -/
def vals (C : Nat → Int) : List Nat := (List.range 761).map (valOf C)
def code (C : Nat → Int) : List Nat := enc 20 (List.replicate 761 1531) (vals C)
def cells8 (l : List Nat) : List Value := l.map fun (n : Nat) => Value.int .u8 (n : Int)
theorem vals_length (C : Nat → Int) : (vals C).length = 761 := by simp [vals]
theorem code_length (C : Nat → Int) : (code C).length = 1007 := by unfold code; rw [enc_length]; exact len_1007
theorem vals_get (C : Nat → Int) {i : Nat} (h : i < 761) : (vals C).getD i 0 = valOf C i := by simp [vals, List.getD, h]

/-- The world ahead of the call of encode: R the result's block, the numbers behind it, then the row to be written. -/
structure Here (w : World) (C : Nat → Int) (R : Nat) (W : World) : Prop where
  res : W.heap[R]? = some (.cells Z8 41)
  row : W.rowIs (R + 1) 47 761 (fun j => .int .u32 (if j < 761 then (valOf C j : Int) else 0))
  out : Out W (R + 2) 1007 0 []
  bel : Below R w W
theorem Here.drew {w W : World} {C : Nat → Int} {R : Nat} (h : Here w C R W) : Here w C R W.drew := ⟨h.res, h.row.drew, h.out.drew, h.bel.drew⟩
theorem Z8_size : Z8.size = 1007 := by unfold Z8; simp
theorem Here.mk' {w wr : World} {C : Nat → Int} (hrow : wr.rowIs (w.heap.size + 1) 47 761 fun j => .int .u32 (if j < 761 then (valOf C j : Int) else 0))
    (hbel : Below w.heap.size w wr) (hres : wr.heap[w.heap.size]? = some (.cells Z8 41)) (HZ : Hid (wr.heap.size = w.heap.size + 2)) : Here w C w.heap.size (wr.alloc (.cells Z8 41)) := by
  have hz : wr.heap.size = w.heap.size + 2 := HZ
  have hr : (wr.alloc (.cells Z8 41)).rowIs (w.heap.size + 2) 41 1007 (fun _ => .int .u8 0) := by
    have h := World.rowIs_alloc wr Z8 41 (fun _ => .int .u8 0) (fun i hi => by unfold Z8 at hi ⊢; simp only [Array.size_replicate] at hi; rw [Array.getElem?_replicate, if_pos hi])
    rw [hz, Z8_size] at h
    exact h
  refine ⟨by rw [Below.heap_alloc wr _ w.heap.size (by omega)]; exact hres, hrow.alloc _, ⟨rfl, hr.lt, fun i hi => absurd hi (Nat.not_lt_zero i), fun i hi => ⟨by rw [hr.cell hi]; rfl, hr.frozen i⟩⟩, hbel.alloc (by omega) _⟩

theorem encode_here {w W : World} {C : Nat → Int} {R : Nat} (hG : Good C) (h : Here w C R W) :
    Calls Try.prog 20 #[.slice (some ⟨R + 2, 0, none⟩) 0 1007, .slice (some ⟨R + 1, 0, none⟩) 761 761, .int .u32 1531] W fun e w' => EncEnd W (R + 2) 1007 (code C) e w' := by
  have h1 := encode_any (R + 2) 1007 (R + 1) 761 1531 (vals C) W h.out (by omega) (fun i hi => by
    rw [vals_length] at hi
    rw [vals_get C hi, h.row.cell hi, if_pos hi]) h.row.lt (by rw [vals_length]; omega) (by rw [vals_length]; omega) (by omega) (by omega) (fun i hi => by
    rw [vals_length] at hi
    rw [vals_get C hi]
    have := (valOf_at hG hi).1
    omega) (by rw [vals_length]; exact Nat.le_of_eq len_1007)
  rw [vals_length] at h1
  exact h1

/-- Behind the call. -/
structure Done (w : World) (C : Nat → Int) (R : Nat) (W : World) : Prop where
  res : W.there R 0 1007
  out : W.rangeAt (R + 2) 0 (cells8 (code C))
  bel : Below R w W
theorem cells8_length (l : List Nat) : (cells8 l).length = l.length := by simp [cells8]
theorem cells8_get {l : List Nat} {j : Nat} {v : Value} (h : (cells8 l)[j]? = some v) : j < l.length ∧ v = .int .u8 (l.getD j 0 : Nat) := by
  unfold cells8 at h
  rw [List.getElem?_map] at h
  cases hj : l[j]? with
  | none => simp [hj] at h
  | some x =>
    simp [hj] at h
    have := (List.getElem?_eq_some_iff.1 hj).1
    exact ⟨this, by rw [← h]; simp [List.getD, hj]⟩
theorem Here.done {w W W' : World} {C : Nat → Int} {R : Nat} {e : Ending} (h : Here w C R W) (he : EncEnd W (R + 2) 1007 (code C) e W') : Done w C R W' := by
  obtain ⟨-, ho, hg⟩ := he
  have h2 := h.out.lt
  have hb := hg.block R (by omega) (by simp)
  have hr : W'.rowIs R 41 1007 (fun _ => .int .u8 0) := by
    have h3 : W'.heap[R]? = some (.cells Z8 41) := by rw [hb]; exact h.res
    refine ⟨Z8, h3, Z8_size, fun i hi => ?_⟩
    unfold Z8
    rw [Array.getElem?_replicate, if_pos hi]
  refine ⟨fun j hj => ⟨by rw [hr.cell (i := 0 + j) (by omega)]; rfl, hr.frozen _⟩, fun j v hv => ?_, h.bel.grown hg (by omega) (fun k hk => by simp at hk; omega)⟩
  obtain ⟨h4, rfl⟩ := cells8_get hv
  rw [Nat.zero_add]
  exact ho.cells j h4

theorem size41 (C : Nat → Int) : (Try.prog.info? 41).map (·.size) = some (cells8 (code C)).length := by rw [(zero_of_info inf41).2, cells8_length, code_length]
theorem size41' (C : Nat → Int) : (Try.prog.info? 41).map (·.size) = some (cells8 (code C)).toArray.size := by rw [List.size_toArray]; exact size41 C
theorem one8 (l : List Nat) : (cells8 l).toArray.all (·.oneCell') = true := all_oneCell_toArray (fun v hv => by
  obtain ⟨x, -, rfl⟩ := List.mem_map.1 hv
  rfl)
theorem there_size {W : World} {R : Nat} (C : Nat → Int) (h : W.there R 0 1007) : W.there R 0 (cells8 (code C)).toArray.size := by rw [List.size_toArray, cells8_length, code_length]; exact h
theorem there_len {W : World} {R : Nat} (C : Nat → Int) (h : W.there R 0 1007) : W.there R 0 (cells8 (code C)).length := by rw [cells8_length, code_length]; exact h
theorem below_setCells {B : Nat} {a : World} (b : Nat) (hb : B ≤ b) : ∀ (vs : List Value) (o : Nat) {w : World}, Below B a w → Below B a (w.setCells b o vs)
  | [], _, _, h => h
  | v :: r, o, _, h => below_setCells b hb r (o + 1) (h.setCell (p := ⟨b, o, none⟩) hb v)

/-- The whole array into its block. -/
theorem stored {W : World} {R : Nat} (C : Nat → Int) (h : W.there R 0 1007) : (storeCells ⟨R, 0, none⟩ (cells8 (code C)) 0).run Try.prog W = .ok () (W.setCells R 0 (cells8 (code C))) := by
  have h' := there_len C h
  exact run_storeCells_cells (P := Try.prog) R 0 (cells8 (code C)) 0 W (fun j hj => by simpa using (h' j hj).1) (fun j hj => by simpa using (h' j hj).2) (fun v hv => by
    obtain ⟨x, -, rfl⟩ := List.mem_map.1 hv
    rfl)
theorem clen (C : Nat → Int) : (cells8 (code C)).length = 1007 := by rw [cells8_length, code_length]
theorem got_cells {fn : Func} {p : Tmp} (h : fn.results = #[.cell p 41]) (tmps : Array Value) (w : World) (g : Nat) (C : Nat → Int) (hp : tmps.getD p undef = .pointer (some ⟨g, 0, none⟩)) (hg : w.rangeAt g 0 (cells8 (code C))) :
    (results fn tmps).run Try.prog w = .ok (.agg (cells8 (code C)).toArray) w := by
  have hp' : tmps[p]?.getD undef = .pointer (some ⟨g, 0, none⟩) := by simpa using hp
  simp [results, h, hp', asAddr, run_loadVar_mid w g 0 41 (cells8 (code C)) (.array 1007 5) hg und41 rfl (size41 C)]

attribute [irreducible] code vals Z8 Z32 Z16

/-- What encodeRounded hands back. -/
def RndEnd (w : World) (C : Nat → Int) (e : Ending) (w' : World) : Prop := e = .returned (.agg (cells8 (code C)).toArray) ∧ Below w.heap.size w w'

set_option maxRecDepth 100000 in
set_option maxHeartbeats 1000000 in
theorem rounded_any (b off : Nat) (C : Nat → Int) (w : World) (hC : Coefs w b off C) (hG : Good C) :
    Calls Try.prog 22 #[.pointer (some ⟨b, off, none⟩)] w fun e w' => RndEnd w C e w' := by
  have z41 := (zero_of_info inf41).1
  have z47 := (zero_of_info inf47).1
  go_enter Try.func22, Try.ntmps22
  go_wp2
  go_loopw [8] (fun i wr => ValsTo w C i wr) (fun i _ => 761 - (intOf i).toNat)
  case atStart => exact ValsTo.start w C
  case round =>
    obtain ⟨k, hk, rfl, hrow, hbel, hres, hz⟩ := hrel
    by_cases hlt : (k : Int) < 761
    · have hc := hrow.cell (i := k) (by omega)
      have hf := hrow.frozen k
      obtain ⟨hx, h1, h2⟩ := hC k (by omega)
      have hx' := cellOld hbel hx
      obtain ⟨v1, v2⟩ := valOf_at hG (show k < 761 by omega)
      have HZ := hidden hz
      clear hz hx
      rw [v2] at hx'
      have hc' : wr.cell? ⟨w.heap.size + 1, k, none⟩ = some (.int .u32 0) := by rw [hc]; simp
      clear hc
      obtain ⟨X, HX⟩ : ∃ X : Nat, valOf C k = X := ⟨_, rfl⟩
      rw [HX] at hx' v1 v2
      have HX2 := hidden HX
      have HX3 := hidden v2
      clear HX v2 h1 h2
      go_wp2
      go_quiet (fail)
      go_wp2
      go_roundw
      case rel => exact ValsTo.step (by omega) hrow hbel hres HZ HX2 v1 rfl
      case measure => simp [intOf]; omega
    · have e : k = 761 := by omega
      subst e
      have HH := hidden (Here.mk' hrow hbel hres (hidden hz))
      go_wp2
      clear hrow hbel hres hz
      go_region_with (go_at_call 20; refine (encode_here hG (Here.drew HH.out)).mono ?_; intro e w1 h1; have HD := hidden (Here.done (Here.drew HH.out) h1); obtain ⟨he, -, -⟩ := h1; subst he)
      all_goals
        go_wp2
        refine wp_load_mid 41 _ rfl (w.heap.size + 2) 0 rfl (cells8 (code C)) (.array 1007 5) HD.out.out und41 rfl (size41 C) ?_
        have hst := stored C HD.out.res
        have hlen := clen C
        go_wp2
        refine bodyPost_ret (got_cells rfl _ _ w.heap.size C rfl (World.rangeAt_setCells_same _ _ _ _ (there_len C HD.out.res))) rfl ?_
        exact ⟨rfl, below_setCells _ (Nat.le_refl _) _ _ HD.out.bel⟩

theorem Coefs.kept {w w' : World} {b off : Nat} {C : Nat → Int} (h : Coefs w b off C) (hb : Below w.heap.size w w') : Coefs w' b off C := fun i hi => ⟨cellOld hb (h i hi).1, (h i hi).2⟩

theorem room_kept {w w' : World} (hb : Below (w.alloc (.cells Z8 41)).heap.size (w.alloc (.cells Z8 41)) w') : w'.there w.heap.size 0 1007 := fun j hj => by
  have e : w'.heap[w.heap.size]? = some (.cells Z8 41) := by rw [hb.block w.heap.size (by simp)]; exact heap_alloc_last w _
  have hr : w'.rowIs w.heap.size 41 1007 (fun _ => .int .u8 0) := ⟨Z8, e, Z8_size, fun i hi => by
    unfold Z8
    rw [Array.getElem?_replicate, if_pos hi]⟩
  exact ⟨by rw [hr.cell (i := 0 + j) (by omega)]; rfl, hr.frozen _⟩

theorem below_alloc {w w' : World} (o : Obj) (hb : Below (w.alloc o).heap.size (w.alloc o) w') : Below w.heap.size w w' :=
  ((Below.refl _ w).alloc (Nat.le_refl _) o).trans (hb.mono (by simp))

set_option maxRecDepth 100000 in
set_option maxHeartbeats 1000000 in
theorem zzRounded_any (b off : Nat) (C : Nat → Int) (w : World) (hC : Coefs w b off C) (hG : Good C) :
    Calls Try.prog 19 #[.pointer (some ⟨b, off, none⟩)] w fun e w' => RndEnd w C e w' := by
  have z41 := (zero_of_info inf41).1
  have hlen := clen C
  go_enter Try.func19, Try.ntmps19
  go_wp2_with (first
    | (go_at_call 22; refine (rounded_any b off C _ ?_ hG).mono ?_; exact hC.kept ((Below.refl _ _).alloc (Nat.le_refl _) _); intro e w1 h1; have HR := hidden (room_kept h1.2); have HB := hidden (below_alloc _ h1.2); obtain ⟨he, -⟩ := h1; subst he; have hst := stored C HR.out)
    | fail)
  refine bodyPost_ret (got_cells rfl _ _ w.heap.size C rfl (World.rangeAt_setCells_same _ _ _ _ (there_len C HR.out))) rfl ?_
  exact ⟨rfl, below_setCells _ (Nat.le_refl _) _ _ HB.out⟩
end Go.Proofs.Qxb6603826a
