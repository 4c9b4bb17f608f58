/- Copies of rows, for the law FnCycleIsCheapestPath. -/
import Derived.Test.Qxb6603374aClone
import Derived.OwnWalk
import Derived.Laws.CopyOwn
import Derived.Laws.OwnMore
namespace Go.Proofs.Qxb6603374a
open Go.ChangeShapes Go.WideShapes Go.ChangeAt Go.RowKit

theorem made_list (n : Nat) : madeCells #[Value.int .i64 0] n = (List.replicate n (Value.int .i64 0)).toArray := by
  rw [← toList_madeCells_one]
theorem ints_at (ord : List Int) (i : Nat) (hi : i < ord.length) : (ord.map (Value.int .i64))[i]? = some (.int .i64 (ord.getD i 0)) := by
  simp [List.getElem?_map, List.getD, List.getElem?_eq_getElem hi]
/-- A row that is known whole. -/
theorem row_of_block {w : World} {g : Nat} {ord : List Int} (hg : w.heap[g]? = some (.cells (ord.map (Value.int .i64)).toArray 3 (0, 0))) (hi : ∀ i, i < ord.length → I64 (ord.getD i 0)) : Row w (some ⟨g, 0, none⟩) ord := fun i h => by
  refine ⟨g, 0, rfl, ?_, hi i h⟩
  rw [Nat.zero_add, cell_of_row w g i _ 3 (0, 0) hg]
  simpa using ints_at ord i h

/-- 'zzc := make([]int, len(xs)); copy(zzc, xs)'. -/
theorem copy_ints (w : World) {ops : Array Oper} {rest : List Oper} {o : Oper} {a : Act} {Q : Exit → Act → World → Prop} (hgd : o.guard = none) (d s : Operand)
    (ho : o.op = .call { callee := .builtin .copy, args := #[d, s], argTypes := #[24, 24] }) (oa : Option Addr) (oc n : Nat) (ord : List Int) (hn : ord.length = n) (hd : a.eval d = .slice (some ⟨w.heap.size, 0, none⟩) n n) (hs : a.eval s = .slice oa n oc) (hO : Row w oa ord)
    (h : ∀ w', Hid (Row w' (some ⟨w.heap.size, 0, none⟩) ord) → Hid (Below w.heap.size w w') → wpList Try.prog ops Q rest (a.put o.dst (goInt n)) w') :
    wpList Try.prog ops Q (o :: rest) a (w.alloc (.cells (madeCells #[.int .i64 0] n) 3)) := by
  subst hn
  obtain ⟨i, hi, hz, hsz, hb⟩ := info_parts Try.info3
  have hlen : (ord.map (Value.int .i64)).length = ord.length := by simp
  refine wpList_copy_splice hgd d s 24 24 ho 3 Try.underlying24 (by rw [hi]; simp [hsz]) _ _ _ _ _ _ hd hs w.heap.size 0 (List.replicate ord.length (Value.int .i64 0)) 3 (by rw [made_list]; exact heap_alloc_new _ _) (ord.map (Value.int .i64)) (by simp) (fun h0 => ⟨rfl, ?_⟩) (by simp) (by simp [Value.oneCell']) w.heap.size w ((Below.refl _ _).alloc (Nat.le_refl _) _) (Nat.le_refl _) ?_
  · rw [hlen] at h0
    obtain ⟨b, off, hoa, -, -⟩ := hO 0 h0
    refine ⟨⟨b, off, none⟩, hoa, fun j v hj => ?_⟩
    have hj2 : j < ord.length := by
      have := (List.getElem?_eq_some_iff.1 hj).1
      simpa using this
    obtain ⟨b', off', hoa', hc, -⟩ := hO j hj2
    rw [hoa] at hoa'
    cases hoa'
    rw [ints_at ord j hj2] at hj
    cases hj
    have hadd : (⟨b, off, none⟩ : Addr).add j = ⟨b, off + j, none⟩ := by unfold Addr.add; split <;> simp_all
    rw [hadd]
    exact cellOld ((Below.refl w.heap.size w).alloc (Nat.le_refl _) _) hc
  · intro w' hg hbel
    have e : splice (List.replicate ord.length (Value.int .i64 0)) 0 (ord.map (Value.int .i64)) = ord.map (Value.int .i64) := by simp [splice]
    have hg' := hg.out
    rw [e] at hg'
    have := h w' (row_of_block hg' (fun i hi => (hO i hi).choose_spec.choose_spec.2.2)) hbel
    rw [hlen]
    exact this
end Go.Proofs.Qxb6603374a
