/- The answer of ZZNewViewSearch is kept by whatever leaves the old blocks. -/
import Derived.Test.Qxb6603374aZvMem
namespace Go.Proofs.Qxb6603374a
open Go.ChangeShapes Go.WideShapes Go.ChangeAt Go.RowKit

theorem NvEnd.kept {V : VIn} {st : Nat → Int} {xa : Option Addr} {xc g : Nat} {b : Nat → Nat} {ra2 ra3 ra4 ra5 : Nat → Option Addr} {rc2 rc3 rc4 rc5 : Nat → Nat} {w w' : World} (h : NvEnd V st xa xc g b ra2 ra3 ra4 ra5 rc2 rc3 rc4 rc5 w) (hb : Below w.heap.size w w') : NvEnd V st xa xc g b ra2 ra3 ra4 ra5 rc2 rc3 rc4 rc5 w' :=
  ⟨cellOld hb h.g0, cellOld hb h.g1, cellOld hb h.g2, cellOld hb h.g3, cellOld hb h.g4, cellOld hb h.g5, cellOld hb h.g6, cellOld hb h.g7, cellOld hb h.g8, cellOld hb h.g9, h.r1.kept hb, h.r2.kept hb, h.r3.kept hb, h.r4.kept hb, h.r5.kept hb, h.r6.kept hb, fun t ht => cellOld hb (h.r7 t ht), h.r8.kept hb, h.r9.kept hb⟩
theorem URows.kept {V : VIn} {L : Nat → List Nat} {H : Nat} {w w' : World} (h : URows V L H w) (hb : Below w.heap.size w w') : URows V L H w' := ⟨h.1.kept hb, h.2.1.kept hb, h.2.2.1.kept hb, h.2.2.2.kept hb⟩
/-- What stands behind the call, in a world: the struct's cells in block oB, and the rows. -/
def OutRow (oB : Nat) (l : Array Value) (w : World) : Prop := w.rowIs oB 41 18 (fun i => l[i]?.getD default)
theorem below_new18 {w0 w : World} {B : Nat} (h : Below B w0 w) (hB : B ≤ w.heap.size) (v0 v1 v2 v3 v4 v5 v6 v7 v8 v9 v10 v11 v12 v13 v14 v15 v16 v17 : Value) : Below B w0 (((((((((((((((((((w.alloc (.cells #[.bool false, .bool false, .slice none 0 0, .slice none 0 0, .slice none 0 0, .slice none 0 0, .slice none 0 0, .slice none 0 0, .slice none 0 0, .slice none 0 0, .slice none 0 0, .slice none 0 0, .slice none 0 0, .slice none 0 0, .slice none 0 0, .slice none 0 0, .slice none 0 0, .slice none 0 0] 41)).setCell ⟨w.heap.size, 0, none⟩ v0).setCell ⟨w.heap.size, 1, none⟩ v1).setCell ⟨w.heap.size, 2, none⟩ v2).setCell ⟨w.heap.size, 3, none⟩ v3).setCell ⟨w.heap.size, 4, none⟩ v4).setCell ⟨w.heap.size, 5, none⟩ v5).setCell ⟨w.heap.size, 6, none⟩ v6).setCell ⟨w.heap.size, 7, none⟩ v7).setCell ⟨w.heap.size, 8, none⟩ v8).setCell ⟨w.heap.size, 9, none⟩ v9).setCell ⟨w.heap.size, 10, none⟩ v10).setCell ⟨w.heap.size, 11, none⟩ v11).setCell ⟨w.heap.size, 12, none⟩ v12).setCell ⟨w.heap.size, 13, none⟩ v13).setCell ⟨w.heap.size, 14, none⟩ v14).setCell ⟨w.heap.size, 15, none⟩ v15).setCell ⟨w.heap.size, 16, none⟩ v16).setCell ⟨w.heap.size, 17, none⟩ v17) := by
  iterate 18 refine Below.setCell ?_ hB _
  exact h.alloc hB _
end Go.Proofs.Qxb6603374a
