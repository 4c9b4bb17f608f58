/- The viewSearch as newViewSearch first lays it. -/
import Derived.Test.Qxb6603374aMakes
import Derived.Deep.OwnRows
namespace Go.Proofs.Qxb6603374a
open Go.RowKit

/-- The nine makes of newViewSearch's region 7. -/
def nine (k ni : Nat) : List Mk :=
  [⟨9, 54, k, .cells (madeCells #[.slice none 0 0] k) 104⟩, ⟨15, 60, k, .cells (madeCells #[.slice none 0 0] k) 104⟩, ⟨21, 66, k, .cells (madeCells #[.slice none 0 0] k) 24⟩, ⟨27, 72, ni, .cells (madeCells #[.slice none 0 0] ni) 24⟩, ⟨33, 78, ni, .cells (madeCells #[.int .i64 0] ni) 3⟩, ⟨39, 84, k, .cells (madeCells #[.int .i64 0] k) 3⟩, ⟨45, 90, k, .cells (madeCells #[.bool false] k) 4⟩, ⟨51, 96, k, .cells (madeCells #[.int .i64 0] k) 3⟩, ⟨57, 102, ni, .cells (madeCells #[.int .i64 0] ni) 3⟩]
/-- A slice over a whole block. -/
def sl (b n : Nat) : Value := .slice (some ⟨b, 0, none⟩) n n
/-- The viewSearch: its struct's block, the nine rows' blocks (by field), all rows of zeros. -/
structure Vs0 (w0 : World) (m ni : Nat) (xa : Option Addr) (xc gB start reads seenBy writes writers final placed pending armed : Nat) (wx : World) : Prop where
  cells : wx.heap[gB]? = some (.cells #[.slice xa m xc, sl start m, sl reads m, sl seenBy m, sl writes m, sl writers ni, sl final ni, sl placed m, sl pending m, sl armed ni] 92)
  r1 : wx.rowIs start 3 m (fun _ => .int .i64 0)
  r2 : wx.rowIs reads 104 m (fun _ => .slice none 0 0)
  r3 : wx.rowIs seenBy 104 m (fun _ => .slice none 0 0)
  r4 : wx.rowIs writes 24 m (fun _ => .slice none 0 0)
  r5 : wx.rowIs writers 24 ni (fun _ => .slice none 0 0)
  r6 : wx.rowIs final 3 ni (fun _ => .int .i64 0)
  r7 : wx.rowIs placed 4 m (fun _ => .bool false)
  r8 : wx.rowIs pending 3 m (fun _ => .int .i64 0)
  r9 : wx.rowIs armed 3 ni (fun _ => .int .i64 0)
  dif : [start, reads, seenBy, writes, writers, final, placed, pending, armed, gB].Nodup
  low : ∀ b ∈ [start, reads, seenBy, writes, writers, final, placed, pending, armed, gB], w0.heap.size ≤ b
  bel : Below w0.heap.size w0 wx
  sz : wx.heap.size = gB + 1

theorem row_made {w : World} {b n : Nat} {z : Value} {t : TypeId} (h : w.heap[b]? = some (.cells (madeCells #[z] n) t)) : w.rowIs b t n (fun _ => z) :=
  ⟨_, h, size_madeCells _ _, fun i hi => by simp [madeCells, hi, Nat.mod_one]⟩

set_option linter.unusedSimpArgs false in
theorem vs0_of {w0 w2 : World} {k ni xc : Nat} {xa : Option Addr} {g : Nat → Option Nat} {b1 b2 b3 b4 b5 b6 b7 b8 b9 : Nat} (hI : MkInv (nine k ni) w0 g w2)
    (g1 : g 9 = some b1) (g2 : g 15 = some b2) (g3 : g 21 = some b3) (g4 : g 27 = some b4) (g5 : g 33 = some b5) (g6 : g 39 = some b6) (g7 : g 45 = some b7) (g8 : g 51 = some b8) (g9 : g 57 = some b9) :
    Vs0 w0 k ni xa xc w2.heap.size b6 b1 b2 b3 b4 b5 b7 b8 b9 (w2.alloc (.cells #[.slice xa k xc, sl b6 k, sl b1 k, sl b2 k, sl b3 k, sl b4 ni, sl b5 ni, sl b7 k, sl b8 k, sl b9 ni] 92)) := by
  have R : ∀ i s n o b, (⟨i, s, n, o⟩ : Mk) ∈ nine k ni → g i = some b → w0.heap.size ≤ b ∧ w2.heap[b]? = some o := fun i s n o b hm hb => hI.row ⟨i, s, n, o⟩ hm b hb
  have D : ∀ i s n o b i' s' n' o' b', (⟨i, s, n, o⟩ : Mk) ∈ nine k ni → (⟨i', s', n', o'⟩ : Mk) ∈ nine k ni → g i = some b → g i' = some b' → i ≠ i' → b ≠ b' := fun i s n o b i' s' n' o' b' hm hm' hb hb' hne e => by
    subst e
    exact hne (hI.inj ⟨i, s, n, o⟩ hm ⟨i', s', n', o'⟩ hm' b hb hb')
  have m1 : (⟨9, 54, k, (.cells (madeCells #[.slice none 0 0] k) 104)⟩ : Mk) ∈ nine k ni := by simp [nine]
  have m2 : (⟨15, 60, k, (.cells (madeCells #[.slice none 0 0] k) 104)⟩ : Mk) ∈ nine k ni := by simp [nine]
  have m3 : (⟨21, 66, k, (.cells (madeCells #[.slice none 0 0] k) 24)⟩ : Mk) ∈ nine k ni := by simp [nine]
  have m4 : (⟨27, 72, ni, (.cells (madeCells #[.slice none 0 0] ni) 24)⟩ : Mk) ∈ nine k ni := by simp [nine]
  have m5 : (⟨33, 78, ni, (.cells (madeCells #[.int .i64 0] ni) 3)⟩ : Mk) ∈ nine k ni := by simp [nine]
  have m6 : (⟨39, 84, k, (.cells (madeCells #[.int .i64 0] k) 3)⟩ : Mk) ∈ nine k ni := by simp [nine]
  have m7 : (⟨45, 90, k, (.cells (madeCells #[.bool false] k) 4)⟩ : Mk) ∈ nine k ni := by simp [nine]
  have m8 : (⟨51, 96, k, (.cells (madeCells #[.int .i64 0] k) 3)⟩ : Mk) ∈ nine k ni := by simp [nine]
  have m9 : (⟨57, 102, ni, (.cells (madeCells #[.int .i64 0] ni) 3)⟩ : Mk) ∈ nine k ni := by simp [nine]
  obtain ⟨l1, c1⟩ := R 9 54 k (.cells (madeCells #[.slice none 0 0] k) 104) b1 m1 g1
  have t1 : b1 < w2.heap.size := (Array.getElem?_eq_some_iff.1 c1).1
  obtain ⟨l2, c2⟩ := R 15 60 k (.cells (madeCells #[.slice none 0 0] k) 104) b2 m2 g2
  have t2 : b2 < w2.heap.size := (Array.getElem?_eq_some_iff.1 c2).1
  obtain ⟨l3, c3⟩ := R 21 66 k (.cells (madeCells #[.slice none 0 0] k) 24) b3 m3 g3
  have t3 : b3 < w2.heap.size := (Array.getElem?_eq_some_iff.1 c3).1
  obtain ⟨l4, c4⟩ := R 27 72 ni (.cells (madeCells #[.slice none 0 0] ni) 24) b4 m4 g4
  have t4 : b4 < w2.heap.size := (Array.getElem?_eq_some_iff.1 c4).1
  obtain ⟨l5, c5⟩ := R 33 78 ni (.cells (madeCells #[.int .i64 0] ni) 3) b5 m5 g5
  have t5 : b5 < w2.heap.size := (Array.getElem?_eq_some_iff.1 c5).1
  obtain ⟨l6, c6⟩ := R 39 84 k (.cells (madeCells #[.int .i64 0] k) 3) b6 m6 g6
  have t6 : b6 < w2.heap.size := (Array.getElem?_eq_some_iff.1 c6).1
  obtain ⟨l7, c7⟩ := R 45 90 k (.cells (madeCells #[.bool false] k) 4) b7 m7 g7
  have t7 : b7 < w2.heap.size := (Array.getElem?_eq_some_iff.1 c7).1
  obtain ⟨l8, c8⟩ := R 51 96 k (.cells (madeCells #[.int .i64 0] k) 3) b8 m8 g8
  have t8 : b8 < w2.heap.size := (Array.getElem?_eq_some_iff.1 c8).1
  obtain ⟨l9, c9⟩ := R 57 102 ni (.cells (madeCells #[.int .i64 0] ni) 3) b9 m9 g9
  have t9 : b9 < w2.heap.size := (Array.getElem?_eq_some_iff.1 c9).1
  have d12 : b1 ≠ b2 := D _ _ _ _ b1 _ _ _ _ b2 m1 m2 g1 g2 (by omega)
  have d13 : b1 ≠ b3 := D _ _ _ _ b1 _ _ _ _ b3 m1 m3 g1 g3 (by omega)
  have d14 : b1 ≠ b4 := D _ _ _ _ b1 _ _ _ _ b4 m1 m4 g1 g4 (by omega)
  have d15 : b1 ≠ b5 := D _ _ _ _ b1 _ _ _ _ b5 m1 m5 g1 g5 (by omega)
  have d16 : b1 ≠ b6 := D _ _ _ _ b1 _ _ _ _ b6 m1 m6 g1 g6 (by omega)
  have d17 : b1 ≠ b7 := D _ _ _ _ b1 _ _ _ _ b7 m1 m7 g1 g7 (by omega)
  have d18 : b1 ≠ b8 := D _ _ _ _ b1 _ _ _ _ b8 m1 m8 g1 g8 (by omega)
  have d19 : b1 ≠ b9 := D _ _ _ _ b1 _ _ _ _ b9 m1 m9 g1 g9 (by omega)
  have d23 : b2 ≠ b3 := D _ _ _ _ b2 _ _ _ _ b3 m2 m3 g2 g3 (by omega)
  have d24 : b2 ≠ b4 := D _ _ _ _ b2 _ _ _ _ b4 m2 m4 g2 g4 (by omega)
  have d25 : b2 ≠ b5 := D _ _ _ _ b2 _ _ _ _ b5 m2 m5 g2 g5 (by omega)
  have d26 : b2 ≠ b6 := D _ _ _ _ b2 _ _ _ _ b6 m2 m6 g2 g6 (by omega)
  have d27 : b2 ≠ b7 := D _ _ _ _ b2 _ _ _ _ b7 m2 m7 g2 g7 (by omega)
  have d28 : b2 ≠ b8 := D _ _ _ _ b2 _ _ _ _ b8 m2 m8 g2 g8 (by omega)
  have d29 : b2 ≠ b9 := D _ _ _ _ b2 _ _ _ _ b9 m2 m9 g2 g9 (by omega)
  have d34 : b3 ≠ b4 := D _ _ _ _ b3 _ _ _ _ b4 m3 m4 g3 g4 (by omega)
  have d35 : b3 ≠ b5 := D _ _ _ _ b3 _ _ _ _ b5 m3 m5 g3 g5 (by omega)
  have d36 : b3 ≠ b6 := D _ _ _ _ b3 _ _ _ _ b6 m3 m6 g3 g6 (by omega)
  have d37 : b3 ≠ b7 := D _ _ _ _ b3 _ _ _ _ b7 m3 m7 g3 g7 (by omega)
  have d38 : b3 ≠ b8 := D _ _ _ _ b3 _ _ _ _ b8 m3 m8 g3 g8 (by omega)
  have d39 : b3 ≠ b9 := D _ _ _ _ b3 _ _ _ _ b9 m3 m9 g3 g9 (by omega)
  have d45 : b4 ≠ b5 := D _ _ _ _ b4 _ _ _ _ b5 m4 m5 g4 g5 (by omega)
  have d46 : b4 ≠ b6 := D _ _ _ _ b4 _ _ _ _ b6 m4 m6 g4 g6 (by omega)
  have d47 : b4 ≠ b7 := D _ _ _ _ b4 _ _ _ _ b7 m4 m7 g4 g7 (by omega)
  have d48 : b4 ≠ b8 := D _ _ _ _ b4 _ _ _ _ b8 m4 m8 g4 g8 (by omega)
  have d49 : b4 ≠ b9 := D _ _ _ _ b4 _ _ _ _ b9 m4 m9 g4 g9 (by omega)
  have d56 : b5 ≠ b6 := D _ _ _ _ b5 _ _ _ _ b6 m5 m6 g5 g6 (by omega)
  have d57 : b5 ≠ b7 := D _ _ _ _ b5 _ _ _ _ b7 m5 m7 g5 g7 (by omega)
  have d58 : b5 ≠ b8 := D _ _ _ _ b5 _ _ _ _ b8 m5 m8 g5 g8 (by omega)
  have d59 : b5 ≠ b9 := D _ _ _ _ b5 _ _ _ _ b9 m5 m9 g5 g9 (by omega)
  have d67 : b6 ≠ b7 := D _ _ _ _ b6 _ _ _ _ b7 m6 m7 g6 g7 (by omega)
  have d68 : b6 ≠ b8 := D _ _ _ _ b6 _ _ _ _ b8 m6 m8 g6 g8 (by omega)
  have d69 : b6 ≠ b9 := D _ _ _ _ b6 _ _ _ _ b9 m6 m9 g6 g9 (by omega)
  have d78 : b7 ≠ b8 := D _ _ _ _ b7 _ _ _ _ b8 m7 m8 g7 g8 (by omega)
  have d79 : b7 ≠ b9 := D _ _ _ _ b7 _ _ _ _ b9 m7 m9 g7 g9 (by omega)
  have d89 : b8 ≠ b9 := D _ _ _ _ b8 _ _ _ _ b9 m8 m9 g8 g9 (by omega)
  refine ⟨heap_alloc_new _ _, ?_, ?_, ?_, ?_, ?_, ?_, ?_, ?_, ?_, ?_, ?_, hI.bel.alloc hI.bel.size _, by simp⟩
  · exact (row_made c6).alloc _
  · exact (row_made c1).alloc _
  · exact (row_made c2).alloc _
  · exact (row_made c3).alloc _
  · exact (row_made c4).alloc _
  · exact (row_made c5).alloc _
  · exact (row_made c7).alloc _
  · exact (row_made c8).alloc _
  · exact (row_made c9).alloc _
  · have nb : ∀ b, b < w2.heap.size → b ≠ w2.heap.size := fun b h => Nat.ne_of_lt h
    simp [d12, d13, d14, d15, d16, d17, d18, d19, d23, d24, d25, d26, d27, d28, d29, d34, d35, d36, d37, d38, d39, d45, d46, d47, d48, d49, d56, d57, d58, d59, d67, d68, d69, d78, d79, d89, Ne.symm d12, Ne.symm d13, Ne.symm d14, Ne.symm d15, Ne.symm d16, Ne.symm d17, Ne.symm d18, Ne.symm d19, Ne.symm d23, Ne.symm d24, Ne.symm d25, Ne.symm d26, Ne.symm d27, Ne.symm d28, Ne.symm d29, Ne.symm d34, Ne.symm d35, Ne.symm d36, Ne.symm d37, Ne.symm d38, Ne.symm d39, Ne.symm d45, Ne.symm d46, Ne.symm d47, Ne.symm d48, Ne.symm d49, Ne.symm d56, Ne.symm d57, Ne.symm d58, Ne.symm d59, Ne.symm d67, Ne.symm d68, Ne.symm d69, Ne.symm d78, Ne.symm d79, Ne.symm d89, nb b1 t1, nb b2 t2, nb b3 t3, nb b4 t4, nb b5 t5, nb b6 t6, nb b7 t7, nb b8 t8, nb b9 t9]
  · intro b hb
    simp at hb
    have hs := hI.bel.size
    rcases hb with rfl | rfl | rfl | rfl | rfl | rfl | rfl | rfl | rfl | rfl <;> omega
end Go.Proofs.Qxb6603374a
