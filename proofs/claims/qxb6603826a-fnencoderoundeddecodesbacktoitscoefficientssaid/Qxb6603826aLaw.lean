/- The law's own walk. -/
import Derived.Test.Qxb6603826aRnd
import Derived.Test.Qxb6603826aDec
namespace Go.Proofs.Qxb6603826a
open Go.ChangeShapes Go.WideShapes Go.ChangeAt Go.RowKit

/-- The law answers true, and what was there is as it was. -/
def TrueEnd (w : World) (e : Ending) (w' : World) : Prop := e = .returned (.bool true) ∧ Below w.heap.size w w'

set_option maxRecDepth 100000 in
set_option maxHeartbeats 1000000 in
theorem law_nil (w : World) : Calls Try.prog 6 #[.pointer none] w fun e w' => TrueEnd w e w' := by
  go_enter Try.func6, Try.ntmps6
  go_wp2
  go_ret
  exact ⟨rfl, Below.refl _ _⟩

def cells16 (C : Nat → Int) : List Value := (List.range 761).map fun i => Value.int .i16 (C i)
theorem cells16_length (C : Nat → Int) : (cells16 C).length = 761 := by simp [cells16]
theorem cells16_get (C : Nat → Int) {j : Nat} {v : Value} (h : (cells16 C)[j]? = some v) : j < 761 ∧ v = .int .i16 (C j) := by
  have hj : j < (cells16 C).length := (List.getElem?_eq_some_iff.1 h).1
  rw [cells16_length] at hj
  refine ⟨hj, ?_⟩
  simp [cells16, hj] at h
  exact h.symm
theorem cells16_at (C : Nat → Int) {j : Nat} (h : j < 761) : (cells16 C)[j]? = some (.int .i16 (C j)) := by simp [cells16, h]
theorem coefs_range {w : World} {b off : Nat} {C : Nat → Int} (h : Coefs w b off C) : w.rangeAt b off (cells16 C) := fun j v hv => by
  obtain ⟨hj, rfl⟩ := cells16_get C hv
  exact (h j hj).1
theorem size40 (C : Nat → Int) : (Try.prog.info? 40).map (·.size) = some (cells16 C).length := by rw [(zero_of_info inf40).2, cells16_length]
theorem there_made (w : World) (n : Nat) (z : Value) (t : TypeId) : (w.alloc (.cells (Array.replicate n z) t)).there w.heap.size 0 n := fun j hj => by
  have h := World.rowIs_alloc w (Array.replicate n z) t (fun _ => z) (fun i hi => by simp only [Array.size_replicate] at hi; rw [Array.getElem?_replicate, if_pos hi])
  rw [Array.size_replicate] at h
  exact ⟨by rw [h.cell (i := 0 + j) (by omega)]; rfl, h.frozen _⟩
theorem there40 (w : World) : (w.alloc (.cells Z16 40)).there w.heap.size 0 761 := by unfold Z16; exact there_made w 761 _ _
theorem there41 (w : World) : (w.alloc (.cells Z8 41)).there w.heap.size 0 1007 := by unfold Z8; exact there_made w 1007 _ _
theorem stored40 {W : World} {R : Nat} (C : Nat → Int) (h : W.there R 0 761) : (storeCells ⟨R, 0, none⟩ (cells16 C) 0).run Try.prog W = .ok () (W.setCells R 0 (cells16 C)) :=
  run_storeCells_cells (P := Try.prog) R 0 (cells16 C) 0 W (fun j hj => by rw [cells16_length] at hj; simpa using (h j hj).1) (fun j hj => by rw [cells16_length] at hj; simpa using (h j hj).2) (fun v hv => by
    obtain ⟨x, -, rfl⟩ := List.mem_map.1 hv
    rfl)
attribute [irreducible] cells16

theorem blk_setCells {b : Nat} : ∀ (vs : List Value) (o : Nat) (w : World) (k : Nat), k ≠ b → (w.setCells b o vs).heap[k]? = w.heap[k]?
  | [], _, _, _, _ => rfl
  | v :: r, o, w, k, h => by
    show ((w.setCell ⟨b, o, none⟩ v).setCells b (o + 1) r).heap[k]? = _
    rw [blk_setCells r (o + 1) _ k h]
    exact Below.heap_setCell _ _ _ _ h
theorem size_setCells {b : Nat} : ∀ (vs : List Value) (o : Nat) (w : World), (w.setCells b o vs).heap.size = w.heap.size
  | [], _, _ => rfl
  | v :: r, o, w => by
    show ((w.setCell ⟨b, o, none⟩ v).setCells b (o + 1) r).heap.size = _
    rw [size_setCells r (o + 1) _]
    simp

/-- Behind 'cc := *c'. -/
theorem stage1 {w : World} {b off : Nat} {C : Nat → Int} (hC : Coefs w b off C) : Coefs ((w.alloc (.cells Z16 40)).setCells w.heap.size 0 (cells16 C)) w.heap.size 0 C := fun i hi => by
  have h := World.rangeAt_setCells_same (w.alloc (.cells Z16 40)) w.heap.size 0 (cells16 C) (by rw [cells16_length]; exact there40 w)
  exact ⟨h i _ (cells16_at C hi), (hC i hi).2⟩

/-- Behind the code. -/
structure S2 (w : World) (C : Nat → Int) (w2 : World) : Prop where
  cs : Coefs w2 w.heap.size 0 C
  bel : Below w.heap.size w w2
  lt : w.heap.size < w2.heap.size
theorem stage2 {w w2 : World} {b off : Nat} {C : Nat → Int} (hC : Coefs w b off C) (h : Below ((w.alloc (.cells Z16 40)).setCells w.heap.size 0 (cells16 C)).heap.size ((w.alloc (.cells Z16 40)).setCells w.heap.size 0 (cells16 C)) w2) : S2 w C w2 := by
  have e : ((w.alloc (.cells Z16 40)).setCells w.heap.size 0 (cells16 C)).heap.size = w.heap.size + 1 := by rw [size_setCells]; simp
  refine ⟨(stage1 hC).kept h, ?_, ?_⟩
  · exact (below_setCells w.heap.size (Nat.le_refl _) _ _ ((Below.refl _ w).alloc (Nat.le_refl _) _)).trans (h.mono (by omega))
  · have := h.size
    omega

/-- Behind the moduli. -/
structure S4 (w w2 : World) (C : Nat → Int) (w4 : World) : Prop where
  cs : Coefs w4 w.heap.size 0 C
  bel : Below w.heap.size w w4
  bs : BytesAt w4 w2.heap.size (code C)
  ms : Reads w4 (w2.heap.size + 1) (List.replicate 761 1531)
  lt : w2.heap.size + 1 < w4.heap.size
  lt0 : w.heap.size < w4.heap.size
def UniHere (w w2 : World) (C : Nat → Int) (e : Ending) (w4 : World) : Prop := e = .returned (.slice (some ⟨w2.heap.size + 1, 0, none⟩) 761 761) ∧ S4 w w2 C w4
theorem uni_here {w w2 : World} {C : Nat → Int} (h : S2 w C w2) : Calls Try.prog 12 #[.int .i64 761, .int .u32 1531] ((w2.alloc (.cells Z8 41)).setCells w2.heap.size 0 (cells8 (code C))) fun e w' => UniHere w w2 C e w' := by
  have e1 : ((w2.alloc (.cells Z8 41)).setCells w2.heap.size 0 (cells8 (code C))).heap.size = w2.heap.size + 1 := by rw [size_setCells]; simp
  have hb : Below w2.heap.size w2 ((w2.alloc (.cells Z8 41)).setCells w2.heap.size 0 (cells8 (code C))) := below_setCells w2.heap.size (Nat.le_refl _) _ _ ((Below.refl _ w2).alloc (Nat.le_refl _) _)
  have hr := World.rangeAt_setCells_same (w2.alloc (.cells Z8 41)) w2.heap.size 0 (cells8 (code C)) (there_len C (there41 w2))
  have h0 := h.lt
  generalize ((w2.alloc (.cells Z8 41)).setCells w2.heap.size 0 (cells8 (code C))) = W3 at *
  refine (uniform_any W3).mono ?_
  rintro e w4 ⟨he, hm, hbel, hz⟩
  rw [e1] at he hm hbel hz
  have hbt : Below w2.heap.size w2 w4 := hb.trans (hbel.mono (by omega))
  refine ⟨he, h.cs.kept hbt, h.bel.trans (hbt.mono (by omega)), fun i hi => ?_, hm, by omega, by omega⟩
  rw [hbel.cell (by simp)]
  have := hr i (.int .u8 ((code C).getD i 0 : Nat)) (by simp [cells8, List.getD, hi])
  rwa [Nat.zero_add] at this

/-- Behind the way back. -/
structure S5 (w : World) (C : Nat → Int) (g : Nat) (w5 : World) : Prop where
  cs : Coefs w5 w.heap.size 0 C
  bel : Below w.heap.size w w5
  vs : Reads w5 g (vals C)
theorem S5.drewN {w w5 : World} {C : Nat → Int} {g : Nat} (h : S5 w C g w5) (n : Nat) : S5 w C g (w5.drewN n) := ⟨h.cs, ⟨h.bel.os, h.bel.tape, h.bel.output, h.bel.size, h.bel.block⟩, h.vs⟩
def DecHere (w : World) (C : Nat → Int) (e : Ending) (w5 : World) : Prop := ∃ g c a, e = .returned (.tuple #[.slice (some ⟨g, 0, none⟩) 761 c, .slice (some ⟨a, 1006, none⟩) 0 0]) ∧ S5 w C g w5
theorem dec_here {w w2 w4 : World} {C : Nat → Int} (hG : Good C) (h : S4 w w2 C w4) : Calls Try.prog 14 #[.slice (some ⟨w2.heap.size, 0, none⟩) 1007 1007, .slice (some ⟨w2.heap.size + 1, 0, none⟩) 761 761] w4 fun e w' => DecHere w C e w' := by
  have hl := h.lt
  have h0 := h.lt0
  have hcl := code_length C
  have hrl : (List.replicate 761 1531).length = 761 := List.length_replicate
  have hrg : ∀ i, i < 761 → (List.replicate 761 1531).getD i 0 = 1531 := fun i hi => by rw [List.getD_eq_getElem?_getD, List.getElem?_replicate, if_pos hi]; rfl
  have h1 := zzDec_any (code C) w2.heap.size (by omega) 20 0 1007 (w2.heap.size + 1) 761 0 (List.replicate 761 1531) (vals C) [] w4 h.bs (by omega) (by omega) (by omega) h.ms h.lt
    (fun i hi => by rw [hrl] at hi; rw [hrg i hi]; omega)
    ⟨by rw [vals_length, hrl], fun i hi => by
      rw [hrl] at hi
      rw [hrg i hi, vals_get C hi]
      have := (valOf_at hG hi).1
      omega⟩ (by rw [hrl]; omega) (by rw [hrl]; omega) (by rw [hrl]; decide) (by rw [List.drop_zero, List.append_nil]; unfold code; rfl)
  rw [hrl, hcl, len_1007] at h1
  refine h1.mono ?_
  rintro e w5 ⟨v, he, hv, hb⟩
  rw [vals_length] at hv
  obtain ⟨g, c, rfl, -, -, hr⟩ := own_reads hv (by omega)
  exact ⟨g, c, w2.heap.size, he, h.cs.kept hb, h.bel.trans (hb.mono (by omega)), hr⟩

set_option maxRecDepth 100000 in
set_option maxHeartbeats 1000000 in
theorem law_some (b off : Nat) (C : Nat → Int) (w : World) (hC : Coefs w b off C) : Calls Try.prog 6 #[.pointer (some ⟨b, off, none⟩)] w fun e w' => TrueEnd w e w' := by
  have z41 := (zero_of_info inf41).1
  have z40 := (zero_of_info inf40).1
  have hlen := clen C
  have hlen16 := cells16_length C
  have hs40 := stored40 C (there40 w)
  go_enter Try.func6, Try.ntmps6
  go_wp2_with (first | (go_at_call 18; refine (domain_any b off C _ hC).mono ?_; intro e w0 h0; obtain ⟨r, he, hq, hw⟩ := h0; subst he; subst hw; cases r) | fail)
  · go_ret
    exact ⟨rfl, Below.refl _ _⟩
  · have hG := hq (by trivial)
    refine wp_load_mid 40 _ rfl b off rfl (cells16 C) (.array 761 39) (coefs_range hC) und40 rfl (size40 C) ?_
    go_wp2_with (first
      | (go_at_call 19; refine (zzRounded_any w0.heap.size 0 C _ (stage1 hC) hG).mono ?_; intro e w2 h2; have H2 := hidden (stage2 hC h2.2); obtain ⟨he, -⟩ := h2; subst he; have hst := stored C (there41 w2))
      | (go_at_call 12; refine (uni_here H2.out).mono ?_; intro e w4 h4; have H4 := hidden h4.2; obtain ⟨he, -⟩ := h4; subst he)
      | (go_at_call 14; refine (dec_here hG H4.out).mono ?_; intro e w5 h5; obtain ⟨g, c, a, he, h6⟩ := h5; have H5 := hidden h6; clear h6; subst he)
      | fail)
    clear hs40 hst
    go_loopw [8] (fun i wr => ∃ k : Nat, k ≤ 761 ∧ i = .int .i64 k ∧ Hid (S5 w0 C g wr)) (fun i _ => 761 - (intOf i).toNat)
    case atStart => exact ⟨0, by omega, rfl, H5⟩
    case round =>
      obtain ⟨k, hk, rfl, HS⟩ := hrel
      by_cases hlt : (k : Int) < 761
      · obtain ⟨hx, h1, h2⟩ := HS.out.cs k (by omega)
        obtain ⟨v1, v2⟩ := valOf_at hG (show k < 761 by omega)
        have hv := HS.out.vs k (by rw [vals_length]; omega)
        rw [vals_get C (by omega)] at hv
        obtain ⟨X, HX⟩ : ∃ X : Nat, valOf C k = X := ⟨_, rfl⟩
        rw [HX] at hv v1 v2
        rw [v2] at hx
        rw [Nat.zero_add] at hx
        clear HX v2 h1 h2
        go_wp2
        go_quiet (fail)
        go_wp2
        go_roundw
        case rel => exact ⟨k + 1, by omega, by go_num, S5.drewN HS.out _⟩
        case measure => simp [intOf]; omega
      · go_wp2
        go_ret
        exact ⟨rfl, HS.out.bel⟩
end Go.Proofs.Qxb6603826a
