/- The memory of ZZNewViewSearch. -/
import Derived.Test.Qxb6603374aZvIn
import Derived.Test.Qxb6603374aUnzip
import Derived.Handy
namespace Go.Proofs.Qxb6603374a
open Go.ChangeShapes Go.WideShapes Go.ChangeAt Go.RowKit

def z73 : Array Value := #[.int .u8 0, .int .i64 0, .string ⟨#[]⟩, .pointer none]
def z76 : Array Value := #[.int .i64 0, .int .i64 0, .int .i64 0, .int .i64 0, .bool false]
theorem Try.info73 : (Try.prog.info? 73).map (fun i => (i.zero, i.size, i.bytes)) = some (some (.agg z73), 4, 40) := by kernel_rfl
theorem Try.info76 : (Try.prog.info? 76).map (fun i => (i.zero, i.size, i.bytes)) = some (some (.agg z76), 5, 40) := by kernel_rfl
theorem und69 : Try.prog.underlying 69 = some (.slice 73) := by kernel_rfl
theorem und74 : Try.prog.underlying 74 = some (.slice 76) := by kernel_rfl
theorem run_make_op (n : Nat) (hn : n ≤ 1048576) (w : World) : (Instr.makeSlice 69 (.int .i64 (n : Int)) (.int .i64 (n : Int))).run Try.prog w = .ok (.slice (some ⟨w.heap.size, 0, none⟩) n n) (w.alloc (.cells (madeCells z73 (n * 4)) 73)) := by
  obtain ⟨i, hi, hz, hs, hb⟩ := info_parts Try.info73
  have hr := run_make (P := Try.prog) w 69 73 i _ und69 hi hz .i64 .i64 (n : Int) (n : Int) (by omega) (Int.le_refl _) (by rw [hb]; omega) (by omega)
  simp only [Int.toNat_natCast, hs] at hr
  exact hr
theorem run_make_rd (n : Nat) (hn : n ≤ 1048576) (w : World) : (Instr.makeSlice 74 (.int .i64 (n : Int)) (.int .i64 (n : Int))).run Try.prog w = .ok (.slice (some ⟨w.heap.size, 0, none⟩) n n) (w.alloc (.cells (madeCells z76 (n * 5)) 76)) := by
  obtain ⟨i, hi, hz, hs, hb⟩ := info_parts Try.info76
  have hr := run_make (P := Try.prog) w 74 76 i _ und74 hi hz .i64 .i64 (n : Int) (n : Int) (by omega) (Int.le_refl _) (by rw [hb]; omega) (by omega)
  simp only [Int.toNat_natCast, hs] at hr
  exact hr
theorem rowIs_made_any (w : World) (z : Array Value) (n : Nat) (t : TypeId) : ∃ f, (w.alloc (.cells (madeCells z n) t)).rowIs w.heap.size t n f :=
  ⟨fun i => (madeCells z n)[i]?.getD default, _, heap_alloc_new _ _, size_madeCells _ _, fun i hi => by
    have : i < (madeCells z n).size := by rw [size_madeCells]; exact hi
    simp [Array.getElem?_eq_getElem this]⟩
theorem built73 (X : Int) : Try.prog.built 73 [(1, .int .i64 X)] = some #[.int .u8 0, .int .i64 X, .string ⟨#[]⟩, .pointer none] := by kernel_rfl
theorem run_73 (w : World) (X : Int) : (Instr.build 73 #[(1, .int .i64 X)]).run Try.prog w = .ok (.agg #[.int .u8 0, .int .i64 X, .string ⟨#[]⟩, .pointer none]) w := run_build w 73 _ _ (built73 X)
theorem built76 (a b c d : Int) (o : Bool) : Try.prog.built 76 [(0, .int .i64 a), (1, .int .i64 b), (2, .int .i64 c), (3, .int .i64 d), (4, .bool o)] = some #[.int .i64 a, .int .i64 b, .int .i64 c, .int .i64 d, .bool o] := by kernel_rfl
theorem run_76 (w : World) (a b c d : Int) (o : Bool) : (Instr.build 76 #[(0, .int .i64 a), (1, .int .i64 b), (2, .int .i64 c), (3, .int .i64 d), (4, .bool o)]).run Try.prog w = .ok (.agg #[.int .i64 a, .int .i64 b, .int .i64 c, .int .i64 d, .bool o]) w := run_build w 76 _ _ (built76 a b c d o)
theorem built82 (a0 a1 : Option Addr) (n0 n1 c0 c1 : Nat) : Try.prog.built 82 [(0, .slice a0 n0 c0), (1, .slice a1 n1 c1)] = some #[.slice a0 n0 c0, .slice a1 n1 c1, .map none, .string ⟨#[]⟩, .slice none 0 0] := by kernel_rfl
theorem run_82 (w : World) (a0 a1 : Option Addr) (n0 n1 c0 c1 : Nat) : (Instr.build 82 #[(0, .slice a0 n0 c0), (1, .slice a1 n1 c1)]).run Try.prog w = .ok (.agg #[.slice a0 n0 c0, .slice a1 n1 c1, .map none, .string ⟨#[]⟩, .slice none 0 0]) w := run_build w 82 _ _ (built82 a0 a1 n0 n1 c0 c1)
theorem built86 (a0 a1 : Option Addr) (n0 n1 c0 c1 : Nat) : Try.prog.built 86 [(1, .slice a0 n0 c0), (3, .slice a1 n1 c1)] = some #[.slice none 0 0, .slice a0 n0 c0, .slice none 0 0, .slice a1 n1 c1] := by kernel_rfl
theorem run_86 (w : World) (a0 a1 : Option Addr) (n0 n1 c0 c1 : Nat) : (Instr.build 86 #[(1, .slice a0 n0 c0), (3, .slice a1 n1 c1)]).run Try.prog w = .ok (.agg #[.slice none 0 0, .slice a0 n0 c0, .slice none 0 0, .slice a1 n1 c1]) w := run_build w 86 _ _ (built86 a0 a1 n0 n1 c0 c1)

/-- The operations' row, the first k in place. -/
def OpRow (b pn : Nat) (ops : List Int) (k : Nat) (w : World) : Prop := ∃ f, w.rowIs b 73 (pn * 4) f ∧ ∀ i, i < k → f (i * 4 + 1) = .int .i64 (ops.getD i 0)
theorem OpRow.put {b pn k : Nat} {ops : List Int} {w : World} (h : OpRow b pn ops k w) {X : Int} (hX : ops.getD k 0 = X) (u0 u2 u3 : Value) : OpRow b pn ops (k + 1) ((((w.setCell ⟨b, k * 4, none⟩ u0).setCell ⟨b, k * 4 + 1, none⟩ (.int .i64 X)).setCell ⟨b, k * 4 + 2, none⟩ u2).setCell ⟨b, k * 4 + 3, none⟩ u3) := by
  obtain ⟨f, h1, h2⟩ := h
  refine ⟨_, (((h1.set _ u0).set _ (.int .i64 X)).set _ u2).set _ u3, fun i hi => ?_⟩
  rw [if_neg (by omega), if_neg (by omega)]
  by_cases e : i = k
  · subst e; rw [if_pos rfl, hX]
  · rw [if_neg (by omega), if_neg (by omega)]; exact h2 i (by omega)
/-- The reads' row, the first k in place. -/
def RdRow (b nr : Nat) (ro rt ri rs : List Int) (bs : List Bool) (k : Nat) (w : World) : Prop := ∃ f, w.rowIs b 76 (nr * 5) f ∧ ∀ i, i < k → f (i * 5) = .int .i64 (ro.getD i 0) ∧ f (i * 5 + 1) = .int .i64 (rt.getD i 0) ∧ f (i * 5 + 2) = .int .i64 (ri.getD i 0) ∧ f (i * 5 + 3) = .int .i64 (rs.getD i 0) ∧ f (i * 5 + 4) = .bool (bs.getD i false)
theorem RdRow.put {b nr k : Nat} {ro rt ri rs : List Int} {bs : List Bool} {w : World} (h : RdRow b nr ro rt ri rs bs k w) {X0 X1 X2 X3 : Int} {X4 : Bool} (h0 : ro.getD k 0 = X0) (h1 : rt.getD k 0 = X1) (h2 : ri.getD k 0 = X2) (h3 : rs.getD k 0 = X3) (h4 : bs.getD k false = X4) :
    RdRow b nr ro rt ri rs bs (k + 1) (((((w.setCell ⟨b, k * 5, none⟩ (.int .i64 X0)).setCell ⟨b, k * 5 + 1, none⟩ (.int .i64 X1)).setCell ⟨b, k * 5 + 2, none⟩ (.int .i64 X2)).setCell ⟨b, k * 5 + 3, none⟩ (.int .i64 X3)).setCell ⟨b, k * 5 + 4, none⟩ (.bool X4)) := by
  obtain ⟨f, g1, g2⟩ := h
  refine ⟨_, ((((g1.set _ _).set _ _).set _ _).set _ _).set _ _, fun i hi => ?_⟩
  by_cases e : i = k
  · subst e
    refine ⟨?_, ?_, ?_, ?_, ?_⟩
    · rw [if_neg (by omega), if_neg (by omega), if_neg (by omega), if_neg (by omega), if_pos rfl, h0]
    · rw [if_neg (by omega), if_neg (by omega), if_neg (by omega), if_pos rfl, h1]
    · rw [if_neg (by omega), if_neg (by omega), if_pos rfl, h2]
    · rw [if_neg (by omega), if_pos rfl, h3]
    · rw [if_pos rfl, h4]
  · obtain ⟨q0, q1, q2, q3, q4⟩ := g2 i (by omega)
    refine ⟨?_, ?_, ?_, ?_, ?_⟩ <;> rw [if_neg (by omega), if_neg (by omega), if_neg (by omega), if_neg (by omega), if_neg (by omega)] <;> assumption
theorem OpRow.of {b pn k : Nat} {ops : List Int} {w w' : World} (h : OpRow b pn ops k w) (e : w'.heap[b]? = w.heap[b]?) : OpRow b pn ops k w' := by
  obtain ⟨f, h1, h2⟩ := h
  exact ⟨f, h1.of_block e, h2⟩
theorem RdRow.of {b nr k : Nat} {ro rt ri rs : List Int} {bs : List Bool} {w w' : World} (h : RdRow b nr ro rt ri rs bs k w) (e : w'.heap[b]? = w.heap[b]?) : RdRow b nr ro rt ri rs bs k w' := by
  obtain ⟨f, h1, h2⟩ := h
  exact ⟨f, h1.of_block e, h2⟩
/-- The zero value of the answer's struct. -/
def z41 : Nat → Value
  | 0 => .bool false
  | 1 => .bool false
  | _ => .slice none 0 0
theorem z41_row (w : World) : (w.alloc (.cells #[.bool false, .bool false, .slice none 0 0, .slice none 0 0, .slice none 0 0, .slice none 0 0, .slice none 0 0, .slice none 0 0, .slice none 0 0, .slice none 0 0, .slice none 0 0, .slice none 0 0, .slice none 0 0, .slice none 0 0, .slice none 0 0, .slice none 0 0, .slice none 0 0, .slice none 0 0] 41)).rowIs w.heap.size 41 18 z41 :=
  ⟨_, heap_alloc_new _ _, rfl, fun i hi => by
    match i, hi with
    | 0, _ => rfl
    | 1, _ => rfl
    | 2, _ => rfl
    | 3, _ => rfl
    | 4, _ => rfl
    | 5, _ => rfl
    | 6, _ => rfl
    | 7, _ => rfl
    | 8, _ => rfl
    | 9, _ => rfl
    | 10, _ => rfl
    | 11, _ => rfl
    | 12, _ => rfl
    | 13, _ => rfl
    | 14, _ => rfl
    | 15, _ => rfl
    | 16, _ => rfl
    | 17, _ => rfl
    | n + 18, h => exact absurd h (by omega)⟩
/-- What the call is given. -/
structure ZvIn (pa xa ia oa ta ma sa wa : Option Addr) (pn m ni nr : Nat) (ira : Nat → Option Addr) (irc : Nat → Nat) (IR : Nat → List Int) (ops txns ro rt ri rs : List Int) (bs : List Bool) (w : World) : Prop where
  hP : Row w pa ops
  hX : Row w xa txns
  hI : RowsAt w ia ni ira irc IR
  hO : Row w oa ro
  hT : Row w ta rt
  hM : Row w ma ri
  hS : Row w sa rs
  hW : BRow w wa bs
  lp : ops.length = pn
  lx : txns.length = m
  lo : ro.length = nr
  lt : rt.length = nr
  lm : ri.length = nr
  ls : rs.length = nr
  lw : bs.length = nr
  dom : VDom ops txns ni IR rt ri rs
  sum : sumTo (fun x => (IR x).length) ni ≤ 1048576
/-- What it answers. -/
def ZvPost (V : VIn) (st : Nat → Int) (xa : Option Addr) (xc : Nat) (w : World) (e : Ending) (w' : World) : Prop :=
  Below w.heap.size w w' ∧ ((e = .returned (.agg #[.bool false, .bool true, .slice none 0 0, .slice none 0 0, .slice none 0 0, .slice none 0 0, .slice none 0 0, .slice none 0 0, .slice none 0 0, .slice none 0 0, .slice none 0 0, .slice none 0 0, .slice none 0 0, .slice none 0 0, .slice none 0 0, .slice none 0 0, .slice none 0 0, .slice none 0 0]) ∧ ∃ i, i < V.nr ∧ V.Bad i) ∨
    ∃ g b ra2 ra3 ra4 ra5 rc2 rc3 rc4 rc5 H1 H2, e = .returned (.agg #[.bool true, .bool false, .slice xa V.m xc, .slice (some ⟨b 1, 0, none⟩) V.m V.m, .slice (some ⟨b 6, 0, none⟩) V.ni V.ni, .slice (some ⟨b 8, 0, none⟩) V.m V.m, .slice (some ⟨b 9, 0, none⟩) V.ni V.ni, .slice (some ⟨b 7, 0, none⟩) V.m V.m, .slice (some ⟨b 4, 0, none⟩) V.m V.m, .slice (some ⟨b 5, 0, none⟩) V.ni V.ni,
        .slice (some ⟨H1, 0, none⟩) V.m V.m, .slice (some ⟨H1 + 1, 0, none⟩) V.m V.m, .slice (some ⟨H1 + 2, 0, none⟩) V.m V.m, .slice (some ⟨H1 + 3, 0, none⟩) V.m V.m, .slice (some ⟨H2, 0, none⟩) V.m V.m, .slice (some ⟨H2 + 1, 0, none⟩) V.m V.m, .slice (some ⟨H2 + 2, 0, none⟩) V.m V.m, .slice (some ⟨H2 + 3, 0, none⟩) V.m V.m]) ∧
      (∀ i, i < V.nr → ¬ V.Bad i) ∧ NvEnd V st xa xc g b ra2 ra3 ra4 ra5 rc2 rc3 rc4 rc5 w' ∧ URows V (fun t => V.reads t V.nr) H1 w' ∧ URows V (fun t => V.seenBy t V.nr) H2 w')
/-- The places of the operations. -/
def opOf (ops txns : List Int) : Nat → Nat := fun i => posOf txns (ops.getD i 0)

/-- The memory ahead of the call of newViewSearch. -/
theorem zv_call {pa xa ia oa ta ma sa wa : Option Addr} {k m ni nr xc ic : Nat} {ira : Nat → Option Addr} {irc : Nat → Nat} {IR : Nat → List Int} {ops txns ro rt ri rs : List Int} {bs : List Bool} {R0 : Nat} {w wc w5 : World}
    (hR : w.heap.size = R0) (hZ : ZvIn pa xa ia oa ta ma sa wa k m ni nr ira irc IR ops txns ro rt ri rs bs w) (hD : RdRow (R0 + 2) nr ro rt ri rs bs nr wc) (hO : OpRow (R0 + 1) k ops k wc) (hR1 : wc.rowIs R0 41 18 z41) (hB : Below R0 w wc) (hsz : wc.heap.size = R0 + 3)
    (hw5 : (wc.alloc (.cells #[.slice (some ⟨R0 + 1, 0, none⟩) k k, .slice xa m xc, .map none, .string ⟨#[]⟩, .slice none 0 0] 82)).alloc (.cells #[.slice none 0 0, .slice ia ni ic, .slice none 0 0, .slice (some ⟨R0 + 2, 0, none⟩) nr nr] 86) = w5) :
    w5.cell? ⟨R0 + 3, 0, none⟩ = some (.slice (some ⟨R0 + 1, 0, none⟩) k k) ∧ w5.cell? ⟨R0 + 3, 1, none⟩ = some (.slice xa m xc) ∧ w5.cell? ⟨R0 + 3 + 1, 1, none⟩ = some (.slice ia ni ic) ∧ w5.cell? ⟨R0 + 3 + 1, 3, none⟩ = some (.slice (some ⟨R0 + 2, 0, none⟩) nr nr) ∧
      Hid (NvIn (vinOf txns ni IR rt ri rs bs) (R0 + 1) (R0 + 2) k m ni nr xa ia ira irc IR txns (opOf ops txns) (fun i => ro.getD i 0) w5) ∧ w5.heap.size = R0 + 5 ∧ Hid (w5.rowIs R0 41 18 z41) ∧ Hid (Below R0 w w5) := by
  have e1 : (wc.alloc (.cells #[.slice (some ⟨R0 + 1, 0, none⟩) k k, .slice xa m xc, .map none, .string ⟨#[]⟩, .slice none 0 0] 82)).heap.size = R0 + 4 := by simp [hsz]
  have hs : w5.heap[R0 + 3]? = some (.cells #[.slice (some ⟨R0 + 1, 0, none⟩) k k, .slice xa m xc, .map none, .string ⟨#[]⟩, .slice none 0 0] 82) := by
    rw [← hw5, Below.heap_alloc _ _ _ (by omega), ← hsz]
    exact heap_alloc_new _ _
  have hv : w5.heap[R0 + 3 + 1]? = some (.cells #[.slice none 0 0, .slice ia ni ic, .slice none 0 0, .slice (some ⟨R0 + 2, 0, none⟩) nr nr] 86) := by
    rw [← hw5, ← e1]
    exact heap_alloc_new _ _
  have old : ∀ b, b < R0 + 3 → w5.heap[b]? = wc.heap[b]? := fun b hb => by
    rw [← hw5, Below.heap_alloc _ _ _ (by omega), Below.heap_alloc _ _ _ (by omega)]
  have hB5 : Below R0 w w5 := by rw [← hw5]; exact (hB.alloc (by omega) _).alloc (by omega) _
  have hBw : Below w.heap.size w w5 := by rw [hR]; exact hB5
  have hd := hZ.dom
  have lt := hZ.lt
  refine ⟨cell_of_row _ _ 0 _ 82 (0, 0) hs, cell_of_row _ _ 1 _ 82 (0, 0) hs, cell_of_row _ _ 1 _ 86 (0, 0) hv, cell_of_row _ _ 3 _ 86 (0, 0) hv, ?_, by rw [← hw5]; simp [hsz], hR1.of_block (old _ (by omega)), hB5⟩
  obtain ⟨f, hf, hfo⟩ := hO.of (old _ (by omega))
  obtain ⟨f', hf', hfr⟩ := hD.of (old _ (by omega))
  refine ⟨hZ.lx, rfl, lt, vin_fits hd, hZ.hX.kept hBw, hZ.lx, hd.asc, fun i hi => hd.pos i (by rw [hZ.lx]; exact hi), fun i hi => ?_, fun i hi => ?_, hZ.hI.kept hBw, fun x hx => vin_row hd hx, fun i hi => ?_, fun i hi => ?_, fun i hi => ?_, fun i hi => ?_, fun i hi => ?_, fun i hi => ?_, ?_⟩
  · have := (posOf_has (hd.ops i (by rw [hZ.lp]; exact hi))).1
    rw [hZ.lx] at this
    exact this
  · rw [hf.cell (by omega), hfo i hi]
    have := (posOf_has (hd.ops i (by rw [hZ.lp]; exact hi))).2
    unfold opOf
    rw [this]
  · rw [hf'.cell (by omega), (hfr i hi).1]
  · rw [hf'.cell (by omega), (hfr i hi).2.1]
    have := (posOf_has (hd.rdr i (by rw [lt]; exact hi))).2
    show _ = some (Value.int .i64 (txns.getD (posOf txns (rt.getD i 0)) 0))
    rw [this]
  · rw [hf'.cell (by omega), (hfr i hi).2.2.1]
    have := hd.item i (by rw [lt]; exact hi)
    show _ = some (Value.int .i64 (((ri.getD i 0).toNat : Nat) : Int))
    congr 2
    omega
  · rw [hf'.cell (by omega), (hfr i hi).2.2.2.1]
    rfl
  · rw [hf'.cell (by omega), (hfr i hi).2.2.2.2]
    rfl
  · obtain ⟨_, _, _, _, h⟩ := hZ.hS i (by rw [hZ.ls]; exact hi)
    exact h
  · have := hZ.sum
    have e : sumTo (fun x => ((vinOf txns ni IR rt ri rs bs).row x).length) ni = sumTo (fun x => (IR x).length) ni := sumTo_congr (fun x _ => List.length_map _)
    rw [e]
    exact this

theorem row18 (w : World) (a : Array Value) (h : a.size = 18) : Hid ((w.alloc (.cells a 41)).rowIs w.heap.size 41 18 (fun i => a[i]?.getD default)) :=
  ⟨a, heap_alloc_new _ _, h, fun i hi => by simp [Array.getElem?_eq_getElem (show i < a.size by omega)]⟩

theorem row_set18 {w : World} {R : Nat} {f : Nat → Value} (h : w.rowIs R 41 18 f) (v0 v1 v2 v3 v4 v5 v6 v7 v8 v9 v10 v11 v12 v13 v14 v15 v16 v17 : Value) : (((((((((((((((((((w.setCell ⟨R, 0, none⟩ v0).setCell ⟨R, 1, none⟩ v1).setCell ⟨R, 2, none⟩ v2).setCell ⟨R, 3, none⟩ v3).setCell ⟨R, 4, none⟩ v4).setCell ⟨R, 5, none⟩ v5).setCell ⟨R, 6, none⟩ v6).setCell ⟨R, 7, none⟩ v7).setCell ⟨R, 8, none⟩ v8).setCell ⟨R, 9, none⟩ v9).setCell ⟨R, 10, none⟩ v10).setCell ⟨R, 11, none⟩ v11).setCell ⟨R, 12, none⟩ v12).setCell ⟨R, 13, none⟩ v13).setCell ⟨R, 14, none⟩ v14).setCell ⟨R, 15, none⟩ v15).setCell ⟨R, 16, none⟩ v16).setCell ⟨R, 17, none⟩ v17)).rowIs R 41 18 (fun i => (#[v0, v1, v2, v3, v4, v5, v6, v7, v8, v9, v10, v11, v12, v13, v14, v15, v16, v17] : Array Value)[i]?.getD default) := by
  refine World.rowIs.congr ((((((((((((((((((h.set 0 v0).set 1 v1).set 2 v2).set 3 v3).set 4 v4).set 5 v5).set 6 v6).set 7 v7).set 8 v8).set 9 v9).set 10 v10).set 11 v11).set 12 v12).set 13 v13).set 14 v14).set 15 v15).set 16 v16).set 17 v17) (fun i hi => ?_)
  match i, hi with
  | 0, _ => rfl
  | 1, _ => rfl
  | 2, _ => rfl
  | 3, _ => rfl
  | 4, _ => rfl
  | 5, _ => rfl
  | 6, _ => rfl
  | 7, _ => rfl
  | 8, _ => rfl
  | 9, _ => rfl
  | 10, _ => rfl
  | 11, _ => rfl
  | 12, _ => rfl
  | 13, _ => rfl
  | 14, _ => rfl
  | 15, _ => rfl
  | 16, _ => rfl
  | 17, _ => rfl
  | n + 18, h => exact absurd h (by omega)
theorem below_set18 {w0 w : World} {R : Nat} (h : Below R w0 w) (v0 v1 v2 v3 v4 v5 v6 v7 v8 v9 v10 v11 v12 v13 v14 v15 v16 v17 : Value) : Below R w0 (((((((((((((((((((w.setCell ⟨R, 0, none⟩ v0).setCell ⟨R, 1, none⟩ v1).setCell ⟨R, 2, none⟩ v2).setCell ⟨R, 3, none⟩ v3).setCell ⟨R, 4, none⟩ v4).setCell ⟨R, 5, none⟩ v5).setCell ⟨R, 6, none⟩ v6).setCell ⟨R, 7, none⟩ v7).setCell ⟨R, 8, none⟩ v8).setCell ⟨R, 9, none⟩ v9).setCell ⟨R, 10, none⟩ v10).setCell ⟨R, 11, none⟩ v11).setCell ⟨R, 12, none⟩ v12).setCell ⟨R, 13, none⟩ v13).setCell ⟨R, 14, none⟩ v14).setCell ⟨R, 15, none⟩ v15).setCell ⟨R, 16, none⟩ v16).setCell ⟨R, 17, none⟩ v17)) := by
  iterate 18 refine Below.setCell ?_ (Nat.le_refl R) _
  exact h
theorem blk_set18 {w : World} {R : Nat} (v0 v1 v2 v3 v4 v5 v6 v7 v8 v9 v10 v11 v12 v13 v14 v15 v16 v17 : Value) {k : Nat} (hk : k ≠ R) : (((((((((((((((((((w.setCell ⟨R, 0, none⟩ v0).setCell ⟨R, 1, none⟩ v1).setCell ⟨R, 2, none⟩ v2).setCell ⟨R, 3, none⟩ v3).setCell ⟨R, 4, none⟩ v4).setCell ⟨R, 5, none⟩ v5).setCell ⟨R, 6, none⟩ v6).setCell ⟨R, 7, none⟩ v7).setCell ⟨R, 8, none⟩ v8).setCell ⟨R, 9, none⟩ v9).setCell ⟨R, 10, none⟩ v10).setCell ⟨R, 11, none⟩ v11).setCell ⟨R, 12, none⟩ v12).setCell ⟨R, 13, none⟩ v13).setCell ⟨R, 14, none⟩ v14).setCell ⟨R, 15, none⟩ v15).setCell ⟨R, 16, none⟩ v16).setCell ⟨R, 17, none⟩ v17)).heap[k]? = w.heap[k]? := by
  iterate 18 rw [Below.heap_setCell _ _ _ _ hk]

theorem res23 : Try.f23.results = #[.cell 16 41] := by kernel_rfl
set_option maxHeartbeats 2000000 in
theorem ret23 (tmps : Array Value) (w : World) (R : Nat) (h16 : tmps[16]?.getD undef = .pointer (some ⟨R, 0, none⟩)) (v0 v1 v2 v3 v4 v5 v6 v7 v8 v9 v10 v11 v12 v13 v14 v15 v16 v17 : Value)
   (c0 : w.cell? ⟨R, 0, none⟩ = some v0) (c1 : w.cell? ⟨R, 1, none⟩ = some v1) (c2 : w.cell? ⟨R, 2, none⟩ = some v2) (c3 : w.cell? ⟨R, 3, none⟩ = some v3) (c4 : w.cell? ⟨R, 4, none⟩ = some v4) (c5 : w.cell? ⟨R, 5, none⟩ = some v5) (c6 : w.cell? ⟨R, 6, none⟩ = some v6) (c7 : w.cell? ⟨R, 7, none⟩ = some v7) (c8 : w.cell? ⟨R, 8, none⟩ = some v8) (c9 : w.cell? ⟨R, 9, none⟩ = some v9) (c10 : w.cell? ⟨R, 10, none⟩ = some v10) (c11 : w.cell? ⟨R, 11, none⟩ = some v11) (c12 : w.cell? ⟨R, 12, none⟩ = some v12) (c13 : w.cell? ⟨R, 13, none⟩ = some v13) (c14 : w.cell? ⟨R, 14, none⟩ = some v14) (c15 : w.cell? ⟨R, 15, none⟩ = some v15) (c16 : w.cell? ⟨R, 16, none⟩ = some v16) (c17 : w.cell? ⟨R, 17, none⟩ = some v17) :
   (results Try.f23 tmps).run Try.prog w = .ok (.agg #[v0, v1, v2, v3, v4, v5, v6, v7, v8, v9, v10, v11, v12, v13, v14, v15, v16, v17]) w := by
  unfold results
  rw [res23]
  simp [h16, go_sem, c0, c1, c2, c3, c4, c5, c6, c7, c8, c9, c10, c11, c12, c13, c14, c15, c16, c17]

theorem reads_mem {V : VIn} {t n i : Nat} (h : i ∈ V.reads t n) : i < n := List.mem_range.1 (List.mem_filter.1 h).1
theorem seenBy_mem {V : VIn} {t n i : Nat} (h : i ∈ V.seenBy t n) : i < n := List.mem_range.1 (List.mem_filter.1 h).1
theorem size_set18 {w : World} {R : Nat} (v0 v1 v2 v3 v4 v5 v6 v7 v8 v9 v10 v11 v12 v13 v14 v15 v16 v17 : Value) : ((((((((((((((((((w.setCell ⟨R, 0, none⟩ v0).setCell ⟨R, 1, none⟩ v1).setCell ⟨R, 2, none⟩ v2).setCell ⟨R, 3, none⟩ v3).setCell ⟨R, 4, none⟩ v4).setCell ⟨R, 5, none⟩ v5).setCell ⟨R, 6, none⟩ v6).setCell ⟨R, 7, none⟩ v7).setCell ⟨R, 8, none⟩ v8).setCell ⟨R, 9, none⟩ v9).setCell ⟨R, 10, none⟩ v10).setCell ⟨R, 11, none⟩ v11).setCell ⟨R, 12, none⟩ v12).setCell ⟨R, 13, none⟩ v13).setCell ⟨R, 14, none⟩ v14).setCell ⟨R, 15, none⟩ v15).setCell ⟨R, 16, none⟩ v16).setCell ⟨R, 17, none⟩ v17).heap.size = w.heap.size := by
  simp

theorem row_set4a {w : World} {R : Nat} {v0 v1 v2 v3 v4 v5 v6 v7 v8 v9 v10 v11 v12 v13 v14 v15 v16 v17 : Value} (h : w.rowIs R 41 18 (fun i => (#[v0, v1, v2, v3, v4, v5, v6, v7, v8, v9, v10, v11, v12, v13, v14, v15, v16, v17] : Array Value)[i]?.getD default)) (u0 u1 u2 u3 : Value) : (((((w.setCell ⟨R, 10, none⟩ u0).setCell ⟨R, 11, none⟩ u1).setCell ⟨R, 12, none⟩ u2).setCell ⟨R, 13, none⟩ u3)).rowIs R 41 18 (fun i => (#[v0, v1, v2, v3, v4, v5, v6, v7, v8, v9, u0, u1, u2, u3, v14, v15, v16, v17] : Array Value)[i]?.getD default) := by
  refine World.rowIs.congr ((((h.set 10 u0).set 11 u1).set 12 u2).set 13 u3) (fun i hi => ?_)
  match i, hi with
  | 0, _ => rfl
  | 1, _ => rfl
  | 2, _ => rfl
  | 3, _ => rfl
  | 4, _ => rfl
  | 5, _ => rfl
  | 6, _ => rfl
  | 7, _ => rfl
  | 8, _ => rfl
  | 9, _ => rfl
  | 10, _ => rfl
  | 11, _ => rfl
  | 12, _ => rfl
  | 13, _ => rfl
  | 14, _ => rfl
  | 15, _ => rfl
  | 16, _ => rfl
  | 17, _ => rfl
  | n + 18, h => exact absurd h (by omega)

theorem row_set4b {w : World} {R : Nat} {v0 v1 v2 v3 v4 v5 v6 v7 v8 v9 v10 v11 v12 v13 v14 v15 v16 v17 : Value} (h : w.rowIs R 41 18 (fun i => (#[v0, v1, v2, v3, v4, v5, v6, v7, v8, v9, v10, v11, v12, v13, v14, v15, v16, v17] : Array Value)[i]?.getD default)) (u0 u1 u2 u3 : Value) : (((((w.setCell ⟨R, 14, none⟩ u0).setCell ⟨R, 15, none⟩ u1).setCell ⟨R, 16, none⟩ u2).setCell ⟨R, 17, none⟩ u3)).rowIs R 41 18 (fun i => (#[v0, v1, v2, v3, v4, v5, v6, v7, v8, v9, v10, v11, v12, v13, u0, u1, u2, u3] : Array Value)[i]?.getD default) := by
  refine World.rowIs.congr ((((h.set 14 u0).set 15 u1).set 16 u2).set 17 u3) (fun i hi => ?_)
  match i, hi with
  | 0, _ => rfl
  | 1, _ => rfl
  | 2, _ => rfl
  | 3, _ => rfl
  | 4, _ => rfl
  | 5, _ => rfl
  | 6, _ => rfl
  | 7, _ => rfl
  | 8, _ => rfl
  | 9, _ => rfl
  | 10, _ => rfl
  | 11, _ => rfl
  | 12, _ => rfl
  | 13, _ => rfl
  | 14, _ => rfl
  | 15, _ => rfl
  | 16, _ => rfl
  | 17, _ => rfl
  | n + 18, h => exact absurd h (by omega)

set_option maxHeartbeats 2000000 in
theorem run_load18 (w : World) (ρ : Operand → Value) (o : Oper) (x : Operand) (hop : o.op = Op.load 41 x) (b : Nat) (hx : ρ x = .pointer (some ⟨b, 0, none⟩)) (v0 v1 v2 v3 v4 v5 v6 v7 v8 v9 v10 v11 v12 v13 v14 v15 v16 v17 : Value) (c0 : w.cell? ⟨b, 0, none⟩ = some v0) (c1 : w.cell? ⟨b, 1, none⟩ = some v1) (c2 : w.cell? ⟨b, 2, none⟩ = some v2) (c3 : w.cell? ⟨b, 3, none⟩ = some v3) (c4 : w.cell? ⟨b, 4, none⟩ = some v4) (c5 : w.cell? ⟨b, 5, none⟩ = some v5) (c6 : w.cell? ⟨b, 6, none⟩ = some v6) (c7 : w.cell? ⟨b, 7, none⟩ = some v7) (c8 : w.cell? ⟨b, 8, none⟩ = some v8) (c9 : w.cell? ⟨b, 9, none⟩ = some v9) (c10 : w.cell? ⟨b, 10, none⟩ = some v10) (c11 : w.cell? ⟨b, 11, none⟩ = some v11) (c12 : w.cell? ⟨b, 12, none⟩ = some v12) (c13 : w.cell? ⟨b, 13, none⟩ = some v13) (c14 : w.cell? ⟨b, 14, none⟩ = some v14) (c15 : w.cell? ⟨b, 15, none⟩ = some v15) (c16 : w.cell? ⟨b, 16, none⟩ = some v16) (c17 : w.cell? ⟨b, 17, none⟩ = some v17) : (execOp ρ o).run Try.prog w = .ok (.value (.agg #[v0, v1, v2, v3, v4, v5, v6, v7, v8, v9, v10, v11, v12, v13, v14, v15, v16, v17])) w := by
  unfold execOp
  rw [hop]
  simp [hx, go_sem, c0, c1, c2, c3, c4, c5, c6, c7, c8, c9, c10, c11, c12, c13, c14, c15, c16, c17]
theorem load18 (w : World) {ops : Array Oper} {rest : List Oper} {o : Oper} {a : Act} {Q : Exit → Act → World → Prop} (hgd : o.guard = none) (x : Operand) (hop : o.op = Op.load 41 x) (b : Nat) (hx : a.eval x = .pointer (some ⟨b, 0, none⟩)) (v0 v1 v2 v3 v4 v5 v6 v7 v8 v9 v10 v11 v12 v13 v14 v15 v16 v17 : Value) (c0 : w.cell? ⟨b, 0, none⟩ = some v0) (c1 : w.cell? ⟨b, 1, none⟩ = some v1) (c2 : w.cell? ⟨b, 2, none⟩ = some v2) (c3 : w.cell? ⟨b, 3, none⟩ = some v3) (c4 : w.cell? ⟨b, 4, none⟩ = some v4) (c5 : w.cell? ⟨b, 5, none⟩ = some v5) (c6 : w.cell? ⟨b, 6, none⟩ = some v6) (c7 : w.cell? ⟨b, 7, none⟩ = some v7) (c8 : w.cell? ⟨b, 8, none⟩ = some v8) (c9 : w.cell? ⟨b, 9, none⟩ = some v9) (c10 : w.cell? ⟨b, 10, none⟩ = some v10) (c11 : w.cell? ⟨b, 11, none⟩ = some v11) (c12 : w.cell? ⟨b, 12, none⟩ = some v12) (c13 : w.cell? ⟨b, 13, none⟩ = some v13) (c14 : w.cell? ⟨b, 14, none⟩ = some v14) (c15 : w.cell? ⟨b, 15, none⟩ = some v15) (c16 : w.cell? ⟨b, 16, none⟩ = some v16) (c17 : w.cell? ⟨b, 17, none⟩ = some v17)
    (hK : wpList Try.prog ops Q rest (a.put o.dst (.agg #[v0, v1, v2, v3, v4, v5, v6, v7, v8, v9, v10, v11, v12, v13, v14, v15, v16, v17])) w) : wpList Try.prog ops Q (o :: rest) a w := by
  refine wpList_plain hgd fun K hK' => ?_
  simp only [Oper.wp, run_load18 w a.eval o x hop b hx v0 v1 v2 v3 v4 v5 v6 v7 v8 v9 v10 v11 v12 v13 v14 v15 v16 v17 c0 c1 c2 c3 c4 c5 c6 c7 c8 c9 c10 c11 c12 c13 c14 c15 c16 c17, Oper.upon]
  first | exact hK' _ _ hK | exact .inl (hK' _ _ hK)
theorem run_st {w : World} {b n i : Nat} {t : TypeId} {f : Nat → Value} {v : Value} (h : w.rowIs b t n f) (hi : i < n) (hv : v.oneCell' = true) : (store ⟨b, i, none⟩ v).run Try.prog w = .ok () (w.setCell ⟨b, i, none⟩ v) := by
  rw [run_store _ _ _ _ _ hv]
  simp [h.cell hi, h.frozen i]
set_option maxHeartbeats 4000000 in
theorem run_store18 (w : World) (ρ : Operand → Value) (o : Oper) (x y : Operand) (hop : o.op = Op.store 41 x y) (b : Nat) (hx : ρ x = .pointer (some ⟨b, 0, none⟩)) (v0 v1 v2 v3 v4 v5 v6 v7 v8 v9 v10 v11 v12 v13 v14 v15 v16 v17 : Value) (hy : ρ y = .agg #[v0, v1, v2, v3, v4, v5, v6, v7, v8, v9, v10, v11, v12, v13, v14, v15, v16, v17]) {f : Nat → Value} (h0 : w.rowIs b 41 18 f) (e0 : v0.oneCell' = true) (e1 : v1.oneCell' = true) (e2 : v2.oneCell' = true) (e3 : v3.oneCell' = true) (e4 : v4.oneCell' = true) (e5 : v5.oneCell' = true) (e6 : v6.oneCell' = true) (e7 : v7.oneCell' = true) (e8 : v8.oneCell' = true) (e9 : v9.oneCell' = true) (e10 : v10.oneCell' = true) (e11 : v11.oneCell' = true) (e12 : v12.oneCell' = true) (e13 : v13.oneCell' = true) (e14 : v14.oneCell' = true) (e15 : v15.oneCell' = true) (e16 : v16.oneCell' = true) (e17 : v17.oneCell' = true) : (execOp ρ o).run Try.prog w = .ok .skip ((((((((((((((((((w.setCell ⟨b, 0, none⟩ v0).setCell ⟨b, 1, none⟩ v1).setCell ⟨b, 2, none⟩ v2).setCell ⟨b, 3, none⟩ v3).setCell ⟨b, 4, none⟩ v4).setCell ⟨b, 5, none⟩ v5).setCell ⟨b, 6, none⟩ v6).setCell ⟨b, 7, none⟩ v7).setCell ⟨b, 8, none⟩ v8).setCell ⟨b, 9, none⟩ v9).setCell ⟨b, 10, none⟩ v10).setCell ⟨b, 11, none⟩ v11).setCell ⟨b, 12, none⟩ v12).setCell ⟨b, 13, none⟩ v13).setCell ⟨b, 14, none⟩ v14).setCell ⟨b, 15, none⟩ v15).setCell ⟨b, 16, none⟩ v16).setCell ⟨b, 17, none⟩ v17) := by
  have h1 := h0.set 0 v0
  have h2 := h1.set 1 v1
  have h3 := h2.set 2 v2
  have h4 := h3.set 3 v3
  have h5 := h4.set 4 v4
  have h6 := h5.set 5 v5
  have h7 := h6.set 6 v6
  have h8 := h7.set 7 v7
  have h9 := h8.set 8 v8
  have h10 := h9.set 9 v9
  have h11 := h10.set 10 v10
  have h12 := h11.set 11 v11
  have h13 := h12.set 12 v12
  have h14 := h13.set 13 v13
  have h15 := h14.set 14 v14
  have h16 := h15.set 15 v15
  have h17 := h16.set 16 v16
  have h18 := h17.set 17 v17
  unfold execOp
  rw [hop]
  simp [hx, hy, go_sem]
  simp only [Result.andThen, run_st h0 (i := 0) (by omega) e0, run_st h1 (i := 1) (by omega) e1, run_st h2 (i := 2) (by omega) e2, run_st h3 (i := 3) (by omega) e3, run_st h4 (i := 4) (by omega) e4, run_st h5 (i := 5) (by omega) e5, run_st h6 (i := 6) (by omega) e6, run_st h7 (i := 7) (by omega) e7, run_st h8 (i := 8) (by omega) e8, run_st h9 (i := 9) (by omega) e9, run_st h10 (i := 10) (by omega) e10, run_st h11 (i := 11) (by omega) e11, run_st h12 (i := 12) (by omega) e12, run_st h13 (i := 13) (by omega) e13, run_st h14 (i := 14) (by omega) e14, run_st h15 (i := 15) (by omega) e15, run_st h16 (i := 16) (by omega) e16, run_st h17 (i := 17) (by omega) e17]
theorem store18 (w : World) {ops : Array Oper} {rest : List Oper} {o : Oper} {a : Act} {Q : Exit → Act → World → Prop} (hgd : o.guard = none) (x y : Operand) (hop : o.op = Op.store 41 x y) (b : Nat) (hx : a.eval x = .pointer (some ⟨b, 0, none⟩)) (v0 v1 v2 v3 v4 v5 v6 v7 v8 v9 v10 v11 v12 v13 v14 v15 v16 v17 : Value) (hy : a.eval y = .agg #[v0, v1, v2, v3, v4, v5, v6, v7, v8, v9, v10, v11, v12, v13, v14, v15, v16, v17]) {f : Nat → Value} (h0 : w.rowIs b 41 18 f) (e0 : v0.oneCell' = true) (e1 : v1.oneCell' = true) (e2 : v2.oneCell' = true) (e3 : v3.oneCell' = true) (e4 : v4.oneCell' = true) (e5 : v5.oneCell' = true) (e6 : v6.oneCell' = true) (e7 : v7.oneCell' = true) (e8 : v8.oneCell' = true) (e9 : v9.oneCell' = true) (e10 : v10.oneCell' = true) (e11 : v11.oneCell' = true) (e12 : v12.oneCell' = true) (e13 : v13.oneCell' = true) (e14 : v14.oneCell' = true) (e15 : v15.oneCell' = true) (e16 : v16.oneCell' = true) (e17 : v17.oneCell' = true)
    (hK : wpList Try.prog ops Q rest (a.put o.dst undef) ((((((((((((((((((w.setCell ⟨b, 0, none⟩ v0).setCell ⟨b, 1, none⟩ v1).setCell ⟨b, 2, none⟩ v2).setCell ⟨b, 3, none⟩ v3).setCell ⟨b, 4, none⟩ v4).setCell ⟨b, 5, none⟩ v5).setCell ⟨b, 6, none⟩ v6).setCell ⟨b, 7, none⟩ v7).setCell ⟨b, 8, none⟩ v8).setCell ⟨b, 9, none⟩ v9).setCell ⟨b, 10, none⟩ v10).setCell ⟨b, 11, none⟩ v11).setCell ⟨b, 12, none⟩ v12).setCell ⟨b, 13, none⟩ v13).setCell ⟨b, 14, none⟩ v14).setCell ⟨b, 15, none⟩ v15).setCell ⟨b, 16, none⟩ v16).setCell ⟨b, 17, none⟩ v17)) : wpList Try.prog ops Q (o :: rest) a w := by
  refine wpList_plain hgd fun K hK' => ?_
  simp only [Oper.wp, run_store18 w a.eval o x y hop b hx v0 v1 v2 v3 v4 v5 v6 v7 v8 v9 v10 v11 v12 v13 v14 v15 v16 v17 hy h0 e0 e1 e2 e3 e4 e5 e6 e7 e8 e9 e10 e11 e12 e13 e14 e15 e16 e17, Oper.upon]
  first | exact hK' _ _ hK | exact .inl (hK' _ _ hK)

theorem use_ret {P : Program} {Q : Exit → Act → World → Prop} {K : Act → World → Prop} (h : ∀ (a : Act) (w : World), Code.wp P Code.ret Q a w → K a w) {a : Act} {w : World} (hq : Q .ret a w) : K a w := h a w (wp_ret hq)
end Go.Proofs.Qxb6603374a
