/- The two maps of newViewSearch, told as functions of the key. -/
import Derived.Test.Qxb6603374aRows
import Derived.Maps.OwnSet
import Derived.Maps.OwnOps
import Derived.DeepKeys4
import Derived.WalkArith
import Derived.WalkKit
import Derived.ProofKit
namespace Go.Proofs.Qxb6603374a
open Go.ChangeShapes Go.WideShapes Go.ChangeAt Go.RowKit
open Go.Maps (Keyed)

/-- Block b is a map of at most n entries that holds f. -/
def MapFn (w : World) (k : TypeId) (b n : Nat) (f : Value → Option Int) : Prop :=
  ∃ D : DataW Unit, w.ownsMap Try.prog k (plainElem Try.prog 3) b n D ∧ Maps.IsMap D ∧ ∀ key kl, keyOf Try.prog k key = some kl → Maps.has D kl = (f key).isSome ∧ D.atKey kl (.lit (.int .i64 0)) = .lit (.int .i64 ((f key).getD 0))
open Classical in
noncomputable def updV (f : Value → Option Int) (key : Value) (v : Int) : Value → Option Int := fun x => if x = key then some v else f x
theorem updV_same (f : Value → Option Int) (key : Value) (v : Int) : updV f key v key = some v := by simp [updV]
theorem updV_other (f : Value → Option Int) {key x : Value} (v : Int) (h : x ≠ key) : updV f key v x = f x := by simp [updV, h]

theorem zero3 : ∀ w, (zeroValue 3).run Try.prog w = .ok (.int .i64 0) w := fun _ => by kernel_rfl

section
variable {w : World} {k t : TypeId} {b n : Nat} {f : Value → Option Int} {key : Value} {kl : Lit}
theorem MapFn.made (w : World) (k : TypeId) : MapFn (w.alloc (.map #[] 0)) k w.heap.size 0 (fun _ => none) :=
  ⟨.map [], World.ownsMap_made w Try.prog k _, ⟨[], rfl⟩, fun _ _ _ => ⟨rfl, rfl⟩⟩
theorem MapFn.kept {w' : World} {row : Option Nat} (h : MapFn w k b n f) (hg : w.grownBy w' row) (hne : some b ≠ row) : MapFn w' k b n f := by
  obtain ⟨D, h1, h2⟩ := h
  exact ⟨D, h1.kept hg hne, h2⟩
theorem MapFn.alloc (h : MapFn w k b n f) (o : Obj) : MapFn (w.alloc o) k b n f := by
  obtain ⟨D, h1, h2⟩ := h
  exact ⟨D, h1.alloc o, h2⟩
theorem MapFn.block {w' : World} (h : MapFn w k b n f) (hb : w'.heap[b]? = w.heap[b]?) : MapFn w' k b n f := by
  obtain ⟨D, ⟨es, clock, h1, h3⟩, h2⟩ := h
  exact ⟨D, ⟨es, clock, hb.trans h1, h3⟩, h2⟩
theorem MapFn.lt (h : MapFn w k b n f) : b < w.heap.size := by
  obtain ⟨D, h1, -⟩ := h
  exact h1.lt
/-- 'm[key]'. -/
theorem MapFn.look (h : MapFn w k b n f) (K : Keyed Try.prog k) (ht : Try.prog.underlying t = some (.map k 3)) (hk : keyOf Try.prog k key = some kl) : (Instr.lookup t (.map (some b)) key false).run Try.prog w = .ok (.int .i64 ((f key).getD 0)) w := by
  obtain ⟨D, h1, -, h2⟩ := h
  obtain ⟨c, hrun, hat, -⟩ := h1.lookup_int K ht Try.underlying3 (zero3 w) hk
  rw [(h2 key kl hk).2] at hat
  cases hat
  exact hrun
/-- 'v, ok := m[key]'. -/
theorem MapFn.look_ok (h : MapFn w k b n f) (K : Keyed Try.prog k) (ht : Try.prog.underlying t = some (.map k 3)) (hk : keyOf Try.prog k key = some kl) : (Instr.lookup t (.map (some b)) key true).run Try.prog w = .ok (.tuple #[.int .i64 ((f key).getD 0), .bool (f key).isSome]) w := by
  obtain ⟨D, h1, -, h2⟩ := h
  obtain ⟨v, ps, hrun, hv⟩ := h1.look_ok K ht (zero3 w) (plainElem_int Try.underlying3 (by decide)) hk
  obtain ⟨c, rfl, hc, -⟩ := plainElem_int_inv Try.underlying3 hv
  have hc' := congrArg Prod.fst hc
  simp only at hc'
  rw [(h2 key kl hk).2] at hc'
  cases hc'
  rw [hrun, (h2 key kl hk).1]
/-- 'm[key] = v'. -/
theorem MapFn.store (h : MapFn w k b n f) (K : Keyed Try.prog k) (ht : Try.prog.underlying t = some (.map k 3)) (hk : keyOf Try.prog k key = some kl) (hn : n < 1000000000) {v : Int} (hw : (Lit.int .i64 v).wf = true) :
    ∃ w', (Instr.mapUpdate t (.map (some b)) key (.int .i64 v)).run Try.prog w = .ok () w' ∧ MapFn w' k b (n + 1) (updV f key v) ∧ w.grownBy w' (some b) := by
  obtain ⟨D, h1, hm, h2⟩ := h
  obtain ⟨w', hrun, ho, hg⟩ := h1.update K ht (by simp only [maxLen]; omega) hk (plainElem_int (H := Unit) Try.underlying3 hw)
  refine ⟨w', hrun, ⟨D.put kl (.lit (.int .i64 v)), ho, ?_, fun key' kl' hk' => ?_⟩, hg⟩
  · obtain ⟨es, rfl⟩ := hm
    exact ⟨_, rfl⟩
  · by_cases e : key' = key
    · subst e
      rw [hk] at hk'
      cases hk'
      rw [updV_same, Maps.has_put_same hm (K.key hk), Maps.atKey_put_same hm (K.key hk)]
      exact ⟨rfl, rfl⟩
    · have hne : kl' ≠ kl := fun e2 => e (K.inj (by rw [hk', e2]) hk)
      rw [updV_other f v e, Maps.has_put_other hne, Maps.atKey_put_other hne]
      exact h2 key' kl' hk'
/-- 'm[key] = v' at the operation. -/
theorem put_map (w : World) {ops : Array Oper} {rest : List Oper} {o : Oper} {a : Act} {Q : Exit → Act → World → Prop} (hgd : o.guard = none) (m x y : Operand) (t : TypeId) (hop : o.op = Op.mapUpdate t m x y) (k : TypeId) (K : Keyed Try.prog k) (ht : Try.prog.underlying t = some (.map k 3))
    (b n : Nat) (f : Value → Option Int) (hm : a.eval m = .map (some b)) (h : MapFn w k b n f) (hn : n < 1000000000) (key : Value) (kl : Lit) (v : Int) (hx : a.eval x = key) (hv : a.eval y = .int .i64 v) (hk : keyOf Try.prog k key = some kl) (hw : (Lit.int .i64 v).wf = true)
    (hK : ∀ w', Hid (MapFn w' k b (n + 1) (updV f key v)) → w.grownBy w' (some b) → wpList Try.prog ops Q rest (a.put o.dst undef) w') : wpList Try.prog ops Q (o :: rest) a w := by
  refine wpList_plain hgd fun K' hK' => ?_
  obtain ⟨w', hrun, r1, r2⟩ := h.store K ht hk hn hw
  unfold Oper.wp
  simp [execOp, hop, hm, hx, hv, hrun, Result.andThen]
  exact hK' _ _ (hK w' r1 r2)
end

theorem keyed3 : Keyed Try.prog 3 := Maps.int_keyed Try.underlying3
theorem key3 {z : Int} (h : (Lit.int .i64 z).wf = true) : keyOf Try.prog 3 (.int .i64 z) = some (.int .i64 z) := Maps.keyOf_int_mk Try.underlying3 h
theorem laidOut' : laidOutB Try.prog = true := by kernel_rfl
theorem und60 : Try.prog.underlying 60 = some (.map 3 3) := by kernel_rfl
theorem und97 : Try.prog.underlying 97 = some (.map 100 3) := by kernel_rfl
theorem keyed100 : Keyed Try.prog 100 := Maps.Keyed.of_law (deep_law_laid laidOut' (m := 3) (by omega) (of_decide_eq_true (by kernel_rfl)) (by kernel_rfl) (by kernel_rfl))
/-- The key of a transaction's place and an item. -/
def key2 (t x : Nat) : Value := .agg #[.int .i64 (t : Int), .int .i64 (x : Int)]
theorem key2_inj {t x t' x' : Nat} (h : key2 t x = key2 t' x') : t = t' ∧ x = x' := by
  unfold key2 at h
  simp at h
  exact ⟨by omega, by omega⟩
theorem cells100 : Try.prog.cellsOf 100 = 2 := by kernel_rfl
theorem cells3' : Try.prog.cellsOf 3 = 1 := by kernel_rfl
theorem keyType100 : Try.prog.keyType 100 = true := by kernel_rfl
theorem key2_key {t x : Nat} (ht : t ≤ 1000000000) (hx : x ≤ 1000000000) : ∃ kl, keyOf Try.prog 100 (key2 t x) = some kl := by
  have h1 : (Lit.int .i64 (t : Int)).wf = true := Go.WalkArith.wf_i64 ⟨by omega, by omega⟩
  have h2 : (Lit.int .i64 (x : Int)).wf = true := Go.WalkArith.wf_i64 ⟨by omega, by omega⟩
  obtain ⟨N, hN⟩ : ∃ N, Try.prog.types.size = N + 1 := ⟨Try.prog.types.size - 1, by have : 0 < Try.prog.types.size := of_decide_eq_true (by kernel_rfl); omega⟩
  unfold keyOf
  rw [Try.underlying100]
  simp only [key2, keyType100, Value.formed, Try.underlying100, cells100, hN, Bool.true_and]
  simp [Program.keyLits, Try.underlying100, Try.underlying3, cells100, cells3', Value.cells, h1, h2]
end Go.Proofs.Qxb6603374a
