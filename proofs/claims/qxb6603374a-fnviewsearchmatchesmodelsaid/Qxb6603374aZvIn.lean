/- The places of the transactions: what the laws' arguments mean to newViewSearch. -/
import Derived.Test.Qxb6603374aNvIv
namespace Go.Proofs.Qxb6603374a
open Go.ChangeShapes Go.WideShapes Go.ChangeAt Go.RowKit

/-- The first place of z in a row. -/
def posOf (zs : List Int) (z : Int) : Nat := zs.findIdx (· == z)
theorem posOf_has {zs : List Int} {z : Int} (h : Has zs z) : posOf zs z < zs.length ∧ zs.getD (posOf zs z) 0 = z := by
  obtain ⟨i, h1, h2⟩ := h
  have hm : z ∈ zs := by rw [← h2]; simp [List.getD, List.getElem?_eq_getElem h1]
  have hl : posOf zs z < zs.length := List.findIdx_lt_length_of_exists ⟨z, hm, by simp⟩
  refine ⟨hl, ?_⟩
  have := List.findIdx_getElem (p := (· == z)) (xs := zs) (w := hl)
  simp only [beq_iff_eq] at this
  simp only [List.getD, List.getElem?_eq_getElem hl, Option.getD_some]
  exact this
/-- What newViewSearch is given, out of the laws' arguments. -/
def vinOf (txns : List Int) (ni : Nat) (IR : Nat → List Int) (rt ri rs : List Int) (bs : List Bool) : VIn where
  m := txns.length
  ni := ni
  row := fun x => (IR x).map (posOf txns)
  nr := rt.length
  rt := fun i => posOf txns (rt.getD i 0)
  it := fun i => (ri.getD i 0).toNat
  sn := fun i => rs.getD i 0
  own := fun i => bs.getD i false
section
variable {ops txns : List Int} {ni : Nat} {IR : Nat → List Int} {rt ri rs : List Int} {bs : List Bool}
theorem vin_fits (h : VDom ops txns ni IR rt ri rs) : (vinOf txns ni IR rt ri rs bs).Fits := by
  refine ⟨fun x hx t ht => ?_, fun i hi => ?_, fun i hi => ?_, fun i hi => ?_⟩
  · obtain ⟨z, hz, rfl⟩ := List.mem_map.1 ht
    obtain ⟨k, hk, e⟩ := List.getElem_of_mem hz
    have := h.inst x hx k hk
    simp only [List.getD, List.getElem?_eq_getElem hk, Option.getD_some, e] at this
    exact (posOf_has this).1
  · exact (posOf_has (h.rdr i hi)).1
  · have := h.item i hi
    show (ri.getD i 0).toNat < ni
    omega
  · have := h.seen i hi
    show rs.getD i 0 < (((IR (ri.getD i 0).toNat).map (posOf txns)).length : Int)
    rw [List.length_map]
    exact this
theorem vin_row (h : VDom ops txns ni IR rt ri rs) {x : Nat} (hx : x < ni) : IR x = ((vinOf txns ni IR rt ri rs bs).row x).map (fun t => txns.getD t 0) := by
  show IR x = ((IR x).map (posOf txns)).map _
  rw [List.map_map]
  have e : (IR x).map id = (IR x).map ((fun t => txns.getD t 0) ∘ posOf txns) := by
    refine List.map_congr_left (fun z hz => ?_)
    obtain ⟨k, hk, e⟩ := List.getElem_of_mem hz
    have := h.inst x hx k hk
    simp only [List.getD, List.getElem?_eq_getElem hk, Option.getD_some, e] at this
    exact (posOf_has this).2.symm
  rw [List.map_id] at e
  exact e
end
theorem range_getD {α : Type} (g : Nat → α) (l : List Nat) : (List.range l.length).map (fun k => g (l.getD k 0)) = l.map g := by
  refine List.ext_getElem (by simp) (fun i h1 h2 => ?_)
  have : i < l.length := by simpa using h1
  simp [List.getD, List.getElem?_eq_getElem this]
/-- Unzipped rows of reads. -/
def URows (V : VIn) (L : Nat → List Nat) (H : Nat) (w : World) : Prop :=
  RowsAt w (some ⟨H, 0, none⟩) V.m (fun j => some ⟨H + 4 + 4 * j, 0, none⟩) (fun j => (L j).length) (fun j => (L j).map (fun i => (V.rt i : Int))) ∧
  RowsAt w (some ⟨H + 1, 0, none⟩) V.m (fun j => some ⟨H + 5 + 4 * j, 0, none⟩) (fun j => (L j).length) (fun j => (L j).map (fun i => (V.it i : Int))) ∧
  RowsAt w (some ⟨H + 2, 0, none⟩) V.m (fun j => some ⟨H + 6 + 4 * j, 0, none⟩) (fun j => (L j).length) (fun j => (L j).map V.srcZ) ∧
  BRowsAt w (some ⟨H + 3, 0, none⟩) V.m (fun j => some ⟨H + 7 + 4 * j, 0, none⟩) (fun j => (L j).length) (fun j => (L j).map V.wr)
theorem rows_of_is {w : World} {b n : Nat} {ln : Nat → Nat} {ad : Nat → Nat} {F : Nat → Nat → Int} {L : Nat → List Nat} {g : Nat → Int} (h0 : w.rowIs b 24 n (fun j => .slice (some ⟨ad j, 0, none⟩) (ln j) (ln j))) (h1 : ∀ j, j < n → w.rowIs (ad j) 3 (ln j) (fun k => .int .i64 (F j k)))
    (hln : ∀ j, j < n → ln j = (L j).length) (hF : ∀ j k, j < n → k < ln j → F j k = g ((L j).getD k 0)) (hg : ∀ j i, j < n → i ∈ L j → I64 (g i)) (hm : ∀ j, j < n → (L j).length ≤ 9223372036854775807) :
    RowsAt w (some ⟨b, 0, none⟩) n (fun j => some ⟨ad j, 0, none⟩) (fun j => (L j).length) (fun j => (L j).map g) := fun j hj => by
  refine ⟨b, 0, rfl, ?_, fun k hk => ?_, by rw [List.length_map]; exact hm j hj⟩
  · rw [Nat.zero_add, h0.cell hj, List.length_map, hln j hj]
  · rw [List.length_map] at hk
    have e : ((L j).map g).getD k 0 = g ((L j).getD k 0) := by simp [List.getD, List.getElem?_eq_getElem hk]
    have hk2 : k < ln j := by rw [hln j hj]; exact hk
    rw [e]
    refine ⟨ad j, 0, rfl, ?_, hg j _ hj (by simp [List.getD, List.getElem?_eq_getElem hk])⟩
    rw [Nat.zero_add, (h1 j hj).cell hk2, hF j k hj hk2]
theorem brows_of_is {w : World} {b n : Nat} {ln : Nat → Nat} {ad : Nat → Nat} {F : Nat → Nat → Bool} {L : Nat → List Nat} {g : Nat → Bool} (h0 : w.rowIs b 28 n (fun j => .slice (some ⟨ad j, 0, none⟩) (ln j) (ln j))) (h1 : ∀ j, j < n → w.rowIs (ad j) 4 (ln j) (fun k => .bool (F j k)))
    (hln : ∀ j, j < n → ln j = (L j).length) (hF : ∀ j k, j < n → k < ln j → F j k = g ((L j).getD k 0)) (hm : ∀ j, j < n → (L j).length ≤ 9223372036854775807) :
    BRowsAt w (some ⟨b, 0, none⟩) n (fun j => some ⟨ad j, 0, none⟩) (fun j => (L j).length) (fun j => (L j).map g) := fun j hj => by
  refine ⟨b, 0, rfl, ?_, fun k hk => ?_, by rw [List.length_map]; exact hm j hj⟩
  · rw [Nat.zero_add, h0.cell hj, List.length_map, hln j hj]
  · rw [List.length_map] at hk
    have e : ((L j).map g).getD k false = g ((L j).getD k 0) := by simp [List.getD, List.getElem?_eq_getElem hk]
    have hk2 : k < ln j := by rw [hln j hj]; exact hk
    rw [e]
    refine ⟨ad j, 0, rfl, ?_⟩
    rw [Nat.zero_add, (h1 j hj).cell hk2, hF j k hj hk2]
theorem urows_of {V : VIn} {L : Nat → List Nat} {H : Nat} {w0 wr w' : World} (hV : V.Fits) (b1 : V.m ≤ 1048576) (b2 : V.ni ≤ 1048576) (hL : ∀ j i, j < V.m → i ∈ L j → i < V.nr) (hm : ∀ j, j < V.m → (L j).length ≤ 1048576)
    (h : Uz H V.m (fun t => (L t).length) (fun t k => (V.rt ((L t).getD k 0) : Int)) (fun t k => (V.it ((L t).getD k 0) : Int)) (fun t k => V.srcZ ((L t).getD k 0)) (fun t k => V.wr ((L t).getD k 0)) w0 V.m 0 wr)
    (hk : ∀ k, H ≤ k → k < wr.heap.size → w'.heap[k]? = wr.heap[k]?) : URows V L H w' := by
  have hs := h.sz
  have kp : ∀ {b t n f}, H ≤ b → wr.rowIs b t n f → w'.rowIs b t n f := fun hb hr => hr.of_block (hk _ hb hr.lt)
  have hz : ∀ j, j < V.m → (L j).length ≤ 9223372036854775807 := fun j hj => by have := hm j hj; omega
  refine ⟨?_, ?_, ?_, ?_⟩
  · refine rows_of_is (ln := fun j => (L j).length) ((kp (Nat.le_refl _) h.h0).congr (fun j hj => if_pos hj)) (fun j hj => kp (by omega) (h.r0 j hj)) (fun _ _ => rfl) (fun _ _ _ _ => rfl) (fun j i hj hi => ?_) hz
    have := hV.rt i (hL j i hj hi)
    exact ⟨by omega, by omega⟩
  · refine rows_of_is (ln := fun j => (L j).length) ((kp (by omega) h.h1).congr (fun j hj => if_pos hj)) (fun j hj => kp (by omega) (h.r1 j hj)) (fun _ _ => rfl) (fun _ _ _ _ => rfl) (fun j i hj hi => ?_) hz
    have := hV.it i (hL j i hj hi)
    exact ⟨by omega, by omega⟩
  · refine rows_of_is (ln := fun j => (L j).length) ((kp (by omega) h.h2).congr (fun j hj => if_pos hj)) (fun j hj => kp (by omega) (h.r2 j hj)) (fun _ _ => rfl) (fun _ _ _ _ => rfl) (fun j i hj hi => ?_) hz
    unfold VIn.srcZ
    cases hs : V.src i with
    | none => exact ⟨by simp only; omega, by simp only; omega⟩
    | some s => have := VIn.src_lt hV (hL j i hj hi) hs; exact ⟨by simp only; omega, by simp only; omega⟩
  · exact brows_of_is (ln := fun j => (L j).length) ((kp (by omega) h.h3).congr (fun j hj => if_pos hj)) (fun j hj => kp (by omega) (h.r3 j hj)) (fun _ _ => rfl) (fun _ _ _ _ => rfl) hz
end Go.Proofs.Qxb6603374a
