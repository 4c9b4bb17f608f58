/- What the walks are told of the slices that came in; the small contracts: zzBytes, zzB1CycleDomain, zzB1CloneInts. -/
import Derived.Test.Qxb6603374aRows
import Derived.WalkKit
import Derived.ProofKit
import Derived.OpenShut
import Derived.WalkSpells
import Derived.Deep.OwnRows
import Derived.Deep.QuietTactic
import Derived.BigQuiet
namespace Go.Proofs.Qxb6603374a
open Go.ChangeShapes Go.WideShapes Go.ChangeAt Go.RowKit

theorem hidden {p : Prop} (h : p) : Hid p := h

/-- A number of Go's int. -/
def I64 (z : Int) : Prop := -9223372036854775808 ≤ z ∧ z ≤ 9223372036854775807

/-- The cells behind a slice's address are the numbers zs. -/
def Row (w : World) (a : Option Addr) (zs : List Int) : Prop :=
  ∀ i, i < zs.length → ∃ b o, a = some ⟨b, o, none⟩ ∧ w.cell? ⟨b, o + i, none⟩ = some (.int .i64 (zs.getD i 0)) ∧ I64 (zs.getD i 0)

/-- The cells behind a slice's address are n slices, the v-th the numbers R v. -/
def RowsAt (w : World) (a : Option Addr) (n : Nat) (ra : Nat → Option Addr) (rc : Nat → Nat) (R : Nat → List Int) : Prop :=
  ∀ v, v < n → ∃ b o, a = some ⟨b, o, none⟩ ∧ w.cell? ⟨b, o + v, none⟩ = some (.slice (ra v) (R v).length (rc v)) ∧ Row w (ra v) (R v) ∧ (R v).length ≤ 9223372036854775807

theorem cellOld {w w' : World} (h : Below w.heap.size w w') {a : Addr} {v : Value} (hc : w.cell? a = some v) : w'.cell? a = some v := by
  rw [h.cell (p := a) ?_, hc]
  by_cases hlt : a.block < w.heap.size
  · exact hlt
  · simp [World.cell?, Array.getElem?_eq_none (Nat.le_of_not_lt hlt)] at hc

theorem Row.kept {w w' : World} {a : Option Addr} {zs : List Int} (h : Row w a zs) (hb : Below w.heap.size w w') : Row w' a zs := fun i hi => by
  obtain ⟨b, o, h1, h2, h3⟩ := h i hi
  exact ⟨b, o, h1, cellOld hb h2, h3⟩
theorem RowsAt.kept {w w' : World} {a : Option Addr} {n : Nat} {ra : Nat → Option Addr} {rc : Nat → Nat} {R : Nat → List Int} (h : RowsAt w a n ra rc R) (hb : Below w.heap.size w w') : RowsAt w' a n ra rc R := fun v hv => by
  obtain ⟨b, o, h1, h2, h3, h4⟩ := h v hv
  exact ⟨b, o, h1, cellOld hb h2, h3.kept hb, h4⟩

/-- A call that answers some bool of which Q holds, in the world as it was. -/
def BoolEnd (Q : Bool → Prop) (w : World) (e : Ending) (w' : World) : Prop := ∃ r : Bool, e = .returned (.bool r) ∧ Q r ∧ w' = w
theorem BoolEnd.mk {Q : Bool → Prop} {w : World} {e : Ending} {w' : World} (r : Bool) (he : e = .returned (.bool r)) (hq : Q r) (hw : w' = w) : BoolEnd Q w e w' := ⟨r, he, hq, hw⟩

set_option maxRecDepth 100000 in
set_option maxHeartbeats 1000000 in
theorem bytes_any (ta la oa va ka : Option Addr) (tn tc ln lc on oc vn vc kn kc : Nat) (tra lra : Nat → Option Addr) (trc lrc : Nat → Nat) (TR LR : Nat → List Int) (st a b p : Int) (w : World)
    (hT : RowsAt w ta tn tra trc TR) (hL : RowsAt w la ln lra lrc LR) :
    Calls Try.prog 15 #[.slice ta tn tc, .slice la ln lc, .slice oa on oc, .slice va vn vc, .slice ka kn kc, .int .i64 st, .int .i64 a, .int .i64 b, .int .i64 p] w fun e w' => BoolEnd (fun _ => True) w e w' := by
  go_enter Try.func15, Try.ntmps15
  go_wp2
  · go_ret
    exact BoolEnd.mk false rfl trivial rfl
  · go_loop [19, 20] (fun s i => ∃ k z : Nat, k ≤ tn ∧ z ≤ 1048576 ∧ i = .int .i64 k ∧ s = .int .i64 z) (fun _ i => tn - (intOf i).toNat)
    case atStart => exact ⟨0, tn, by omega, by omega, rfl, rfl⟩
    case round =>
      obtain ⟨k, z, hk, hz, rfl, rfl⟩ := hrel
      by_cases hlt : (k : Int) < tn
      · obtain ⟨tb, to, rfl, hc, -, hm⟩ := hT k (by omega)
        go_wp2
        all_goals first
          | (go_ret; exact BoolEnd.mk false rfl trivial rfl)
          | skip
        go_round
        case rel => exact ⟨k + 1, z + (TR k).length, by omega, by omega, by go_num, by go_num⟩
        case measure => simp [intOf]; omega
      · go_wp2
        all_goals first
          | (go_ret; exact BoolEnd.mk false rfl trivial rfl)
          | skip
        go_loop [19, 21] (fun s i => ∃ k z : Nat, k ≤ ln ∧ z ≤ 1048576 ∧ i = .int .i64 k ∧ s = .int .i64 z) (fun _ i => ln - (intOf i).toNat)
        case atStart => exact ⟨0, z + ln, by omega, by omega, rfl, by go_num⟩
        case round =>
          clear hk hz hlt
          obtain ⟨k', z', hk, hz, rfl, rfl⟩ := hrel
          by_cases hlt : (k' : Int) < ln
          · obtain ⟨tb, to, rfl, hc, -, hm⟩ := hL k' (by omega)
            go_wp2
            all_goals first
              | (go_ret; exact BoolEnd.mk false rfl trivial rfl)
              | skip
            go_round
            case rel => exact ⟨k' + 1, z' + (LR k').length, by omega, by omega, by go_num, by go_num⟩
            case measure => simp [intOf]; omega
          · go_wp2
            all_goals (go_ret; first | exact BoolEnd.mk false rfl trivial rfl | exact BoolEnd.mk true rfl trivial rfl)

/-- A call that answers some bool of which Q holds, all that was there as it was. -/
def BoolKept (Q : Bool → Prop) (w : World) (e : Ending) (w' : World) : Prop := ∃ r : Bool, e = .returned (.bool r) ∧ Q r ∧ Below w.heap.size w w'
theorem BoolKept.mk {Q : Bool → Prop} {w : World} {e : Ending} {w' : World} (r : Bool) (he : e = .returned (.bool r)) (hq : Q r) (hw : Below w.heap.size w w') : BoolKept Q w e w' := ⟨r, he, hq, hw⟩
theorem below_drewN {B : Nat} {w w' : World} (h : Below B w w') (n : Nat) : Below B w (w'.drewN n) := ⟨h.os, h.tape, h.output, h.size, h.block⟩
end Go.Proofs.Qxb6603374a
