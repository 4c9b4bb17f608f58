/- The memory of ZZCycle. -/
import Derived.Test.Qxb6603374aCycMem
import Derived.Laws.Tables
namespace Go.Proofs.Qxb6603374a
open Go.ChangeShapes Go.WideShapes Go.ChangeAt Go.RowKit

theorem Try.info57 : (Try.prog.info? 57).map (fun i => (i.zero, i.size, i.bytes)) = some (some (.agg #[.int .i64 0, .int .i64 0]), 2, 16) := by kernel_rfl
theorem Try.info55 : (Try.prog.info? 55).map (fun i => (i.zero, i.size, i.bytes)) = some (some (.slice none 0 0), 1, 24) := by kernel_rfl
theorem run_make_arc (n : Nat) (hn : n ≤ 1048576) (w : World) : (Instr.makeSlice 55 (.int .i64 (n : Int)) (.int .i64 (n : Int))).run Try.prog w = .ok (.slice (some ⟨w.heap.size, 0, none⟩) n n) (w.alloc (.cells (madeCells #[.int .i64 0, .int .i64 0] (n * 2)) 57)) := by
  obtain ⟨i, hi, hz, hs, hb⟩ := info_parts Try.info57
  have hr := run_make (P := Try.prog) w 55 57 i _ Try.underlying55 hi hz .i64 .i64 (n : Int) (n : Int) (by omega) (Int.le_refl _) (by rw [hb]; omega) (by omega)
  simp only [Int.toNat_natCast, hs] at hr
  exact hr
theorem made_arc (n i : Nat) (h : i < n) : (madeCells #[Value.int .i64 0, Value.int .i64 0] n)[i]? = some (.int .i64 0) := by
  have h2 : i % 2 = 0 ∨ i % 2 = 1 := by omega
  rcases h2 with e | e <;> simp [madeCells, h, e]
theorem rowIs_made_arc (w : World) (n : Nat) : (w.alloc (.cells (madeCells #[.int .i64 0, .int .i64 0] n) 57)).rowIs w.heap.size 57 n (fun _ => .int .i64 0) :=
  ⟨_, heap_alloc_new _ _, size_madeCells _ _, fun i hi => made_arc n i hi⟩

/-- A row of arcs, two cells each. -/
def arcCell (TR LR : Nat → List Int) (x c : Nat) : Value := .int .i64 (if c % 2 = 0 then (TR x).getD (c / 2) 0 else (LR x).getD (c / 2) 0)
theorem arcCell_to (TR LR : Nat → List Int) (x i : Nat) : arcCell TR LR x (i * 2) = .int .i64 ((TR x).getD i 0) := by
  unfold arcCell
  have h1 : i * 2 % 2 = 0 := by omega
  have h2 : i * 2 / 2 = i := by omega
  rw [if_pos h1, h2]
theorem arcCell_lit (TR LR : Nat → List Int) (x i : Nat) : arcCell TR LR x (i * 2 + 1) = .int .i64 ((LR x).getD i 0) := by
  unfold arcCell
  have h1 : ¬ (i * 2 + 1) % 2 = 0 := by omega
  have h2 : (i * 2 + 1) / 2 = i := by omega
  rw [if_neg h1, h2]

/-- The rows built so far: those of the first x vertices; m blocks more. -/
structure Built (oB n : Nat) (TR LR : Nat → List Int) (w : World) (x m : Nat) (wr : World) : Prop where
  out : wr.rowIs oB 55 n (fun v => if v < x then .slice (some ⟨oB + 1 + v, 0, none⟩) (TR v).length (TR v).length else .slice none 0 0)
  rows : ∀ v, v < x → wr.rowIs (oB + 1 + v) 57 ((TR v).length * 2) (arcCell TR LR v)
  bel : Below oB w wr
  sz : wr.heap.size = oB + 1 + x + m
section
variable {oB n : Nat} {TR LR : Nat → List Int} {w wr : World} {x m : Nat}
theorem Built.start (hw : w.heap.size = oB) : Built oB n TR LR w 0 0 (w.alloc (.cells (madeCells #[.slice none 0 0] n) 55)) := by
  subst hw
  exact ⟨(World.rowIs_made _ _ _ _).congr (fun i _ => by simp), fun v hv => absurd hv (Nat.not_lt_zero _), (Below.refl _ _).alloc (Nat.le_refl _) _, by simp⟩
theorem Built.make (h : Built oB n TR LR w x 0 wr) (o : Obj) : Built oB n TR LR w x 1 (wr.alloc o) :=
  ⟨h.out.alloc o, fun v hv => (h.rows v hv).alloc o, h.bel.alloc (by have := h.sz; omega) o, by have := h.sz; simp; omega⟩
theorem Built.drew (h : Built oB n TR LR w x m wr) : Built oB n TR LR w x m wr.drew := ⟨h.out.of_block rfl, fun v hv => (h.rows v hv).of_block rfl, h.bel.drew, h.sz⟩
theorem Built.set (h : Built oB n TR LR w x m wr) {a : Addr} (ha : a.block = oB + 1 + x) (u : Value) : Built oB n TR LR w x m (wr.setCell a u) :=
  ⟨h.out.setOther (by omega) u, fun v hv => (h.rows v hv).setOther (by omega) u, h.bel.setCell (by omega) u, by simpa using h.sz⟩
theorem Built.next (h : Built oB n TR LR w x 1 wr) (hr : wr.rowIs (oB + 1 + x) 57 ((TR x).length * 2) (arcCell TR LR x)) : Built oB n TR LR w (x + 1) 0 (wr.setCell ⟨oB, x, none⟩ (.slice (some ⟨oB + 1 + x, 0, none⟩) (TR x).length (TR x).length)) := by
  refine ⟨(h.out.set x _).congr (fun j _ => ?_), fun v hv => ?_, h.bel.setCell (Nat.le_refl _) _, by have := h.sz; simp; omega⟩
  · by_cases e : j = x
    · subst e; simp
    · rw [if_neg e]
      by_cases c : j < x
      · rw [if_pos c, if_pos (by omega)]
      · rw [if_neg c, if_neg (by omega)]
  · by_cases e : v = x
    · subst e; exact hr.setOther (by simp; omega) _
    · exact (h.rows v (by omega)).setOther (by simp; omega) _
end
/-- Row x, its first i arcs in place. -/
def Part (oB : Nat) (TR LR : Nat → List Int) (x i : Nat) (wr : World) : Prop := wr.rowIs (oB + 1 + x) 57 ((TR x).length * 2) (fun c => if c / 2 < i then arcCell TR LR x c else .int .i64 0)
theorem Part.put {oB : Nat} {TR LR : Nat → List Int} {x i : Nat} {wr : World} {Y Z : Int} (h : Part oB TR LR x i wr) (hy : (TR x).getD i 0 = Y) (hz : (LR x).getD i 0 = Z) :
    Part oB TR LR x (i + 1) ((wr.setCell ⟨oB + 1 + x, i * 2, none⟩ (.int .i64 Y)).setCell ⟨oB + 1 + x, i * 2 + 1, none⟩ (.int .i64 Z)) := by
  refine ((World.rowIs.set h (i * 2) _).set (i * 2 + 1) _).congr (fun c _ => ?_)
  by_cases e1 : c = i * 2 + 1
  · subst e1
    rw [if_pos rfl, if_pos (by omega), arcCell_lit, hz]
  · rw [if_neg e1]
    by_cases e2 : c = i * 2
    · subst e2
      rw [if_pos rfl, if_pos (by omega), arcCell_to, hy]
    · rw [if_neg e2]
      by_cases c1 : c / 2 < i
      · rw [if_pos c1, if_pos (by omega)]
      · rw [if_neg c1, if_neg (by omega)]
theorem Part.start {oB : Nat} {TR LR : Nat → List Int} {x : Nat} {wr : World} (hs : wr.heap.size = oB + 1 + x) : Part oB TR LR x 0 (wr.alloc (.cells (madeCells #[.int .i64 0, .int .i64 0] ((TR x).length * 2)) 57)) := by
  have := rowIs_made_arc wr ((TR x).length * 2)
  rw [hs] at this
  exact this.congr (fun c _ => by simp)
theorem Part.fin {oB : Nat} {TR LR : Nat → List Int} {x : Nat} {wr : World} (h : Part oB TR LR x (TR x).length wr) : wr.rowIs (oB + 1 + x) 57 ((TR x).length * 2) (arcCell TR LR x) :=
  World.rowIs.congr h (fun c hc => by rw [if_pos (by omega)])

/-- The cells of a polygraph with the seven fields that ZZCycle gives. -/
def poly (v0 v3 v18 v35 v36 v37 v38 : Value) : Array Value :=
  #[v0, .slice none 0 0, .slice none 0 0, v3, .slice none 0 0, .map none, .slice none 0 0, .slice none 0 0, .slice none 0 0, .slice none 0 0, .slice none 0 0, .slice none 0 0, .slice none 0 0, .slice none 0 0, .slice none 0 0, .slice none 0 0, .slice none 0 0, .slice none 0 0,
    v18, .slice none 0 0, .slice none 0 0, .slice none 0 0, .int .i64 0, .slice none 0 0, .slice none 0 0, .slice none 0 0, .float .f64 0, .slice none 0 0, .slice none 0 0, .slice none 0 0, .slice none 0 0, .slice none 0 0, .slice none 0 0, .slice none 0 0, .int .i64 0, v35, v36, v37, v38, .slice none 0 0, .slice none 0 0]
theorem built67 (a0 a3 a18 a35 a38 a37 : Option Addr) (n0 n3 n18 n35 n38 n37 c0 c3 c18 c35 c38 c37 : Nat) (st : Int) :
    Try.prog.built 67 [(0, .slice a0 n0 c0), (3, .slice a3 n3 c3), (18, .slice a18 n18 c18), (35, .slice a35 n35 c35), (36, .int .i64 st), (38, .slice a38 n38 c38), (37, .slice a37 n37 c37)] =
      some (poly (.slice a0 n0 c0) (.slice a3 n3 c3) (.slice a18 n18 c18) (.slice a35 n35 c35) (.int .i64 st) (.slice a37 n37 c37) (.slice a38 n38 c38)) := by kernel_rfl
theorem run_poly (w : World) (a0 a3 a18 a35 a38 a37 : Option Addr) (n0 n3 n18 n35 n38 n37 c0 c3 c18 c35 c38 c37 : Nat) (st : Int) :
    (Instr.build 67 #[(0, .slice a0 n0 c0), (3, .slice a3 n3 c3), (18, .slice a18 n18 c18), (35, .slice a35 n35 c35), (36, .int .i64 st), (38, .slice a38 n38 c38), (37, .slice a37 n37 c37)]).run Try.prog w =
      .ok (.agg (poly (.slice a0 n0 c0) (.slice a3 n3 c3) (.slice a18 n18 c18) (.slice a35 n35 c35) (.int .i64 st) (.slice a37 n37 c37) (.slice a38 n38 c38))) w := run_build w 67 _ _ (built67 a0 a3 a18 a35 a38 a37 n0 n3 n18 n35 n38 n37 c0 c3 c18 c35 c38 c37 st)
theorem built57 (Y Z : Int) : Try.prog.built 57 [(0, .int .i64 Y), (1, .int .i64 Z)] = some #[.int .i64 Y, .int .i64 Z] := by kernel_rfl
theorem run_arc (w : World) (Y Z : Int) : (Instr.build 57 #[(0, .int .i64 Y), (1, .int .i64 Z)]).run Try.prog w = .ok (.agg #[.int .i64 Y, .int .i64 Z]) w := run_build w 57 _ _ (built57 Y Z)
end Go.Proofs.Qxb6603374a
