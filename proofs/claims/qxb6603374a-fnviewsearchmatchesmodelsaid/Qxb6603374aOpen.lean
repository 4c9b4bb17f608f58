/-
  The arguments of the two FnViewSearch laws opened: slices of numbers, of slices, of bools.
-/
import Derived.Test.Qxb6603374aVLawMem
import Derived.WalkKit
import Derived.ProofKit
import Derived.OpenShut
import Derived.ShutString
import Derived.ChangeOld
import Derived.Below
import Derived.Deep.Slices
import Derived.Deep.Grids
namespace Go.Proofs.Qxb6603374a.VOpen
open Go.ChangeShapes Go.WideShapes Go.ChangeAt Go.RowKit
open Go.ChangeMaps (open_string shut_string)
open Go.Deep (open_slice1 open_bools)

theorem own : ownKnob Try.prog.godebug = none := by kernel_rfl
theorem laidOut : laidOutB Try.prog = true := by kernel_rfl
theorem cells24 : Try.prog.cellsOf 24 = 1 := by kernel_rfl
theorem cells4 : Try.prog.cellsOf 4 = 1 := by kernel_rfl
theorem cells3 : Try.prog.cellsOf 3 = 1 := by kernel_rfl

section
variable {H : Type} {enc : TypeId × Value → H} {w : World} {base : Nat} {spare : Nat → Bool} {held : Bool}

theorem addr_at {a : Addr} {v : Value} (h : w.cell? (a.add 0) = some v) : a = ⟨a.block, a.off, none⟩ := by
  have h1 : a.spot = none := World.cell?_spot (by simpa [Addr.add] using h)
  cases a
  simp at h1
  subst h1
  rfl
theorem add_at (b o i : Nat) : (⟨b, o, none⟩ : Addr).add i = ⟨b, o + i, none⟩ := by unfold Addr.add; split <;> simp_all

/-- A slice of numbers that came in. -/
theorem row_of {fuel : Nat} {v : Value} {x : DataW H × List MemPlace} (h : DataW.trod enc Try.prog w base spare held fuel 24 [v] = some x) :
    ∃ a c zs, v = .slice a (List.length zs) c ∧ Row w a zs ∧ zs.length ≤ 9223372036854775807 := by
  rcases open_ints Try.underlying24 Try.underlying3 cells3 h with ⟨h1, -⟩ | ⟨a, len, cap, zs, h1, -, hl, hm, hz, -, hc, hw⟩
  · simp at h1
    exact ⟨none, 0, [], h1, fun i hi => absurd hi (Nat.not_lt_zero _), by simp⟩
  · simp at h1
    have hlen : len ≤ zs.length := by rw [hz]; split <;> omega
    have htl : (zs.take len).length = len := by simp; omega
    refine ⟨some a, cap, zs.take len, by rw [htl]; exact h1, fun i hi => ?_, by rw [htl]; simp only [maxLen] at hm; omega⟩
    rw [htl] at hi
    have h0 := hc 0 (by omega)
    have ea := addr_at h0
    have hi2 : i < zs.length := by omega
    have eg : (zs.take len).getD i 0 = zs.getD i 0 := by simp [List.getD, hi]
    refine ⟨a.block, a.off, by rw [← ea], ?_, ?_⟩
    · have h2 := hc i hi2
      rw [ea, add_at] at h2
      rw [eg]; exact h2
    · rw [eg]
      have hmem : zs.getD i 0 ∈ zs := by simp [List.getD, List.getElem?_eq_getElem hi2]
      have h3 := hw _ hmem
      have h4 := bounds_i64 h3
      exact h4
/-- A slice of slices of numbers that came in. -/
theorem rows_of {fuel : Nat} {v : Value} {x : DataW H × List MemPlace} (h : DataW.trod enc Try.prog w base spare held fuel 22 [v] = some x) :
    ∃ a n c ra rc R, v = .slice a n c ∧ RowsAt w a n ra rc R := by
  rcases open_slice1 Try.underlying22 cells24 h with ⟨h1, -⟩ | ⟨a, len, cap, m, k, V, D, Pl, h1, -, hl, hm, hmm, -, hx⟩
  · simp at h1
    exact ⟨none, 0, 0, fun _ => none, fun _ => 0, fun _ => [], h1, fun i hi => absurd hi (Nat.not_lt_zero _)⟩
  · simp at h1
    have hlm : len ≤ m := by rw [hmm]; split <;> omega
    have hex : ∀ i, ∃ q : Option Addr × Nat × List Int, i < len → (V i = .slice q.1 q.2.2.length q.2.1 ∧ Row w q.1 q.2.2 ∧ q.2.2.length ≤ 9223372036854775807) := fun i => by
      by_cases hi : i < len
      · obtain ⟨a', c', zs, h2, h3, h4⟩ := row_of (hx i (by omega)).2
        exact ⟨(a', c', zs), fun _ => ⟨h2, h3, h4⟩⟩
      · exact ⟨(none, 0, []), fun h => absurd h hi⟩
    obtain ⟨f, hf⟩ := Classical.skolem.1 hex
    refine ⟨some a, len, cap, fun i => (f i).1, fun i => (f i).2.1, fun i => (f i).2.2, h1, fun i hi => ?_⟩
    obtain ⟨h2, h3, h4⟩ := hf i hi
    have ea := addr_at (hx 0 (by omega)).1
    have hci := (hx i (by omega)).1
    rw [ea, add_at, h2] at hci
    exact ⟨a.block, a.off, by rw [← ea], hci, h3, h4⟩
end

/-- A slice of bools that came in. -/
theorem brow_of {H : Type} {enc : TypeId × Value → H} {w : World} {base : Nat} {held : Bool} {fuel : Nat} {v : Value} {x : DataW H × List MemPlace} (h : DataW.trod enc Try.prog w base (fun _ => true) held fuel 28 [v] = some x) :
    ∃ a c bs, v = .slice a (List.length bs) c ∧ BRow w a bs := by
  rcases open_bools Try.underlying28 Try.underlying4 cells4 h with ⟨h1, -⟩ | ⟨a, len, cap, B, h1, -, hl, hm, -, hc⟩
  · simp at h1
    exact ⟨none, 0, [], h1, fun i hi => absurd hi (Nat.not_lt_zero _)⟩
  · simp at h1
    refine ⟨some a, cap, (List.range len).map B, by simp; exact h1, fun i hi => ?_⟩
    simp only [List.length_map, List.length_range] at hi
    have ea := addr_at (hc 0 (by omega))
    have hci := hc i (by omega)
    rw [ea, add_at] at hci
    refine ⟨a.block, a.off, by rw [← ea], ?_⟩
    have e : ((List.range len).map B).getD i false = B i := by simp [List.getD, hi]
    rw [e]; exact hci
end Go.Proofs.Qxb6603374a.VOpen
