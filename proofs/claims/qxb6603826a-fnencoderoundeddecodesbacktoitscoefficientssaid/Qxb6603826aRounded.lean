/- The contracts of b1RoundedDomain, b1Uniform and encodeRounded. -/
import Derived.Test.Qxb6603826aRows
import Derived.Test.Qxb6603826aEncode
import Derived.WalkKit
import Derived.ProofKit
import Derived.OpenShut
import Derived.WalkSpells
import Derived.Deep.OwnRows
import Derived.Deep.QuietTactic
import Derived.BigQuiet
namespace Go.Proofs.Qxb6603826a
open Go.ChangeShapes Go.WideShapes Go.ChangeAt Go.RowKit

/-- The 761 coefficients in memory. -/
def Coefs (w : World) (b off : Nat) (C : Nat → Int) : Prop := ∀ i, i < 761 → w.cell? ⟨b, off + i, none⟩ = some (.int .i16 (C i)) ∧ -32768 ≤ C i ∧ C i ≤ 32767

/-- What the law's domain says. -/
def Good (C : Nat → Int) : Prop := ∀ i, i < 761 → -2295 ≤ C i ∧ C i ≤ 2295 ∧ (C i).tmod 3 = 0

/-- A call that answers some bool of which Q holds, in the world as it was. -/
def BoolEnd (Q : Bool → Prop) (w : World) (e : Ending) (w' : World) : Prop := ∃ r : Bool, e = .returned (.bool r) ∧ Q r ∧ w' = w
theorem BoolEnd.mk {Q : Bool → Prop} {w : World} {e : Ending} {w' : World} (r : Bool) (he : e = .returned (.bool r)) (hq : Q r) (hw : w' = w) : BoolEnd Q w e w' := ⟨r, he, hq, hw⟩

set_option maxRecDepth 100000 in
set_option maxHeartbeats 400000 in
theorem domain_any (b off : Nat) (C : Nat → Int) (w : World) (hC : Coefs w b off C) :
    Calls Try.prog 18 #[.pointer (some ⟨b, off, none⟩)] w fun e w' => BoolEnd (fun r => r = true → Good C) w e w' := by
  go_enter Try.func18, Try.ntmps18
  go_wp2
  go_loop [3] (fun i => ∃ k : Nat, k ≤ 761 ∧ i = .int .i64 k ∧ Hid (∀ j, j < k → -2295 ≤ C j ∧ C j ≤ 2295 ∧ (C j).tmod 3 = 0)) (fun i => 761 - (intOf i).toNat)
  case atStart => exact ⟨0, by omega, rfl, fun j hj => by omega⟩
  case round =>
    obtain ⟨k, hk, rfl, HG⟩ := hrel
    by_cases hlt : (k : Int) < 761
    · obtain ⟨hc, h1, h2⟩ := hC k (by omega)
      by_cases a1 : C k < -2295
      · go_wp2
        all_goals
          go_ret
          exact BoolEnd.mk false rfl (fun h => by cases h) rfl
      · by_cases a2 : 2295 < C k
        · go_wp2
          all_goals
            go_ret
            exact BoolEnd.mk false rfl (fun h => by cases h) rfl
        · obtain ⟨R, hR⟩ : ∃ R : Int, (C k).tmod 3 = R := ⟨_, rfl⟩
          have HR := hidden hR
          by_cases a3 : R = 0
          · subst a3
            have a4 : ((C k).tmod 3 != 0) = false := by rw [hR]; rfl
            clear hR
            go_wp2
            all_goals
              go_round
              case rel =>
                refine ⟨k + 1, by omega, by go_num, fun j hj => ?_⟩
                by_cases e : j = k
                · subst e; exact ⟨by omega, by omega, HR.out⟩
                · exact HG.out j (by omega)
              case measure => simp [intOf]; omega
          · have a4 : ((C k).tmod 3 != 0) = true := by rw [hR]; simpa using a3
            clear hR
            go_wp2
            all_goals
              go_ret
              exact BoolEnd.mk false rfl (fun h => by cases h) rfl
    · go_wp2
      go_ret
      exact BoolEnd.mk true rfl (fun _ i hi => HG.out i (by omega)) rfl

/-- What b1Uniform hands back. -/
def UniEnd (w : World) (n m : Nat) (e : Ending) (w' : World) : Prop :=
  e = .returned (.slice (some ⟨w.heap.size, 0, none⟩) n n) ∧ Reads w' w.heap.size (List.replicate n m) ∧ Below w.heap.size w w' ∧ w'.heap.size = w.heap.size + 1

set_option maxRecDepth 100000 in
set_option maxHeartbeats 400000 in
theorem uniform_gen (n m : Nat) (hn : n ≤ 100000) (w : World) : Calls Try.prog 12 #[.int .i64 (n : Int), .int .u32 (m : Int)] w fun e w' => UniEnd w n m e w' := by
  have hmk := run_make_row' (P := Try.prog) 23 24 (.int .u32 0) 4 Try.underlying23 Try.info24 rfl .i64 .i64 n (by omega) (by omega)
  go_enter Try.func12, Try.ntmps12
  go_wp2
  clear hmk
  go_loopw [6] (fun i wr => ∃ k : Nat, k ≤ n ∧ i = .int .i64 k ∧ wr.rowIs w.heap.size 24 n (fun j => .int .u32 (if j < k then (m : Int) else 0)) ∧ Below w.heap.size w wr ∧ wr.heap.size = w.heap.size + 1) (fun i _ => n - (intOf i).toNat)
  case atStart => exact ⟨0, by omega, rfl, (World.rowIs_made _ _ _ _).congr (fun i _ => by simp), (Below.refl _ _).alloc (Nat.le_refl _) _, by simp⟩
  case round =>
    obtain ⟨k, hk, rfl, hrow, hbel, hz⟩ := hrel
    by_cases hlt : (k : Int) < n
    · have hc := hrow.cell (i := k) (by omega)
      have hf := hrow.frozen k
      go_wp2
      go_roundw
      case rel =>
        refine ⟨k + 1, by omega, by go_num, (hrow.set k _).congr (fun j _ => ?_), hbel.setCell (Nat.le_refl _) _, by simpa using hz⟩
        by_cases e : j = k
        · subst e; simp
        · simp only [e, if_false]
          by_cases h : j < k
          · rw [if_pos h, if_pos (by omega)]
          · rw [if_neg h, if_neg (by omega)]
      case measure => simp [intOf]; omega
    · have e : k = n := by omega
      subst e
      go_wp2
      go_ret
      refine ⟨rfl, fun i hi => ?_, hbel, hz⟩
      rw [List.length_replicate] at hi
      rw [hrow.cell hi, if_pos hi]
      simp [List.getD, hi]

theorem uniform_any (w : World) : Calls Try.prog 12 #[.int .i64 761, .int .u32 1531] w fun e w' => UniEnd w 761 1531 e w' := uniform_gen 761 1531 (by omega) w
end Go.Proofs.Qxb6603826a
