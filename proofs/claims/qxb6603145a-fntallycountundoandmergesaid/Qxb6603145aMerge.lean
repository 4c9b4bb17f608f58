/- The walk of FnTallyCountUndoAndMerge. -/
import Derived.Test.Qxb6603145aRows
import Derived.Test.Qxb6603145aTally
import Derived.WalkKit
import Derived.ProofKit
import Derived.OpenShut
import Derived.ShutString
import Derived.WalkSpells
namespace Go.Proofs.Qxb6603145a.fnTallyCountUndoAndMerge
open Go.ChangeShapes Go.WideShapes Go.ChangeAt Go.RowKit

theorem grown_trans {a b c : World} (h : Grown a b) (k : Grown b c) : Grown a c :=
  ⟨World.keptBut_trans h.1 k.1, fun x => (k.2.1 x).trans (h.2.1 x), Nat.le_trans h.2.2 k.2.2⟩

theorem undo (x a : Int) (h1 : -9223372036854775808 ≤ x) (h2 : x ≤ 9223372036854775807) : (wrap64 (wrap64 (x + a) + wrap64 (-a)) != x) = false := by
  have e : wrap64 (wrap64 (x + a) + wrap64 (-a)) = x := by unfold wrap64; omega
  rw [e]; simp

theorem undoIf (b : Bool) (x a : Int) (h1 : -9223372036854775808 ≤ x) (h2 : x ≤ 9223372036854775807) : (addIf b (addIf b x a) (wrap64 (-a)) != x) = false := by
  cases b
  · simp [addIf]
  · exact undo x a h1 h2

theorem merge (x a b : Int) : (wrap64 (wrap64 (x + a) + b) != wrap64 (x + wrap64 (a + b))) = false := by
  have e : wrap64 (wrap64 (x + a) + b) = wrap64 (x + wrap64 (a + b)) := by unfold wrap64; omega
  rw [e]; simp

theorem mergeIf (t : Bool) (x a b : Int) : (addIf t (addIf t x a) b != addIf t x (wrap64 (a + b))) = false := by
  cases t
  · simp [addIf]
  · exact merge x a b

theorem zero (x : Int) (h1 : -9223372036854775808 ≤ x) (h2 : x ≤ 9223372036854775807) : (wrap64 (x + 0) == x) = true := by
  have e : wrap64 (x + 0) = x := by unfold wrap64; omega
  rw [e]; simp

theorem zeroIf (t : Bool) (x : Int) (h1 : -9223372036854775808 ≤ x) (h2 : x ≤ 9223372036854775807) : (addIf t x 0 == x) = true := by
  cases t
  · simp [addIf]
  · exact zero x h1 h2

set_option maxHeartbeats 1000000 in
theorem walk (a0 : Int) (a1 : Int) (a2 : Int) (a3 : Int) (a4 : Int) (a5 : Int) (w0 : (Lit.int .i64 a0).wf = true) (w1 : (Lit.int .i64 a1).wf = true) (w2 : (Lit.int .i64 a2).wf = true) (_w3 : (Lit.int .u8 a3).wf = true) (_w4 : (Lit.int .i64 a4).wf = true) (_w5 : (Lit.int .i64 a5).wf = true) (w : World) :
    Calls Try.prog 3 #[.int .i64 a0, .int .i64 a1, .int .i64 a2, .int .u8 a3, .int .i64 a4, .int .i64 a5] w fun e w' => e = .returned (.bool true) ∧ Grown w w' := by
  obtain ⟨p0, q0⟩ := bounds_i64 w0
  obtain ⟨p1, q1⟩ := bounds_i64 w1
  obtain ⟨p2, q2⟩ := bounds_i64 w2
  obtain ⟨b1, h1⟩ : ∃ b, (bits BinOp.and IntKind.u8 a3 1 != 0) = b := ⟨_, rfl⟩
  obtain ⟨b2, h2⟩ : ∃ b, (bits BinOp.and IntKind.u8 a3 2 != 0) = b := ⟨_, rfl⟩
  have e1 := undo a0 a4 p0 q0
  have e2 := undoIf b1 a1 a4 p1 q1
  have e3 := undoIf b2 a2 a4 p2 q2
  have e4 := merge a0 a4 a5
  have e5 := mergeIf b1 a1 a4 a5
  have e6 := mergeIf b2 a2 a4 a5
  have e7 : wrap64 a0 = a0 := IntWalk.wrap64_in _ ⟨p0, q0⟩
  have e8 := zeroIf b1 a1 p1 q1
  have e9 := zeroIf b2 a2 p2 q2
  clear w0 w1 w2 p0 p1 p2 q0 q1 q2 _w3 _w4 _w5
  go_enter Try.func3, Try.ntmps3
  go_wp2_with (go_at_call 5; refine (zzTally_any _ _ _ _ _ _ _ h1 h2 _).mono ?_; rintro e w' ⟨rfl, hg⟩)
  go_ret
  refine ⟨rfl, ?_⟩
  refine grown_trans ?_ (by assumption)
  refine grown_trans ?_ (by assumption)
  refine grown_trans ?_ (by assumption)
  refine grown_trans ?_ (by assumption)
  assumption
end Go.Proofs.Qxb6603145a.fnTallyCountUndoAndMerge
