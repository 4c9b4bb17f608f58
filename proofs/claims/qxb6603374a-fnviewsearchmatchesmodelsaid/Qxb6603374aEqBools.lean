/- Rows of bools; the contract of zzB1EqBoolRows. -/
import Derived.Test.Qxb6603374aEqRows
namespace Go.Proofs.Qxb6603374a
open Go.ChangeShapes Go.WideShapes Go.ChangeAt Go.RowKit

/-- The cells behind a slice's address are the bools bs. -/
def BRow (w : World) (a : Option Addr) (bs : List Bool) : Prop := ∀ i, i < bs.length → ∃ b o, a = some ⟨b, o, none⟩ ∧ w.cell? ⟨b, o + i, none⟩ = some (.bool (bs.getD i false))
/-- The cells behind a slice's address are n slices, the v-th the bools R v. -/
def BRowsAt (w : World) (a : Option Addr) (n : Nat) (ra : Nat → Option Addr) (rc : Nat → Nat) (R : Nat → List Bool) : Prop :=
  ∀ v, v < n → ∃ b o, a = some ⟨b, o, none⟩ ∧ w.cell? ⟨b, o + v, none⟩ = some (.slice (ra v) (R v).length (rc v)) ∧ BRow w (ra v) (R v) ∧ (R v).length ≤ 9223372036854775807
theorem BRow.kept {w w' : World} {a : Option Addr} {bs : List Bool} (h : BRow w a bs) (hb : Below w.heap.size w w') : BRow w' a bs := fun i hi => by
  obtain ⟨b, o, h1, h2⟩ := h i hi
  exact ⟨b, o, h1, cellOld hb h2⟩
theorem BRowsAt.kept {w w' : World} {a : Option Addr} {n : Nat} {ra : Nat → Option Addr} {rc : Nat → Nat} {R : Nat → List Bool} (h : BRowsAt w a n ra rc R) (hb : Below w.heap.size w w') : BRowsAt w' a n ra rc R := fun v hv => by
  obtain ⟨b, o, h1, h2, h3, h4⟩ := h v hv
  exact ⟨b, o, h1, cellOld hb h2, h3.kept hb, h4⟩

set_option maxRecDepth 100000 in
set_option maxHeartbeats 2000000 in
theorem eqbools_same (a a' : Option Addr) (c c' n : Nat) (ra ra' : Nat → Option Addr) (rc rc' : Nat → Nat) (R : Nat → List Bool) (w : World) (hR : BRowsAt w a n ra rc R) (hR' : BRowsAt w a' n ra' rc' R) (hb : n ≤ 9223372036854775807) :
    Calls Try.prog 29 #[.slice a n c, .slice a' n c'] w fun e w' => BoolKept (fun r => r = true) w e w' := by
  have HR := hidden hR
  have HR' := hidden hR'
  clear hR hR'
  go_enter Try.func29, Try.ntmps29
  go_wp2
  go_loopg [5] n (fun q i wr => ∃ k : Nat, k + q = n ∧ i = .int .i64 (k : Int) ∧ Hid (Below w.heap.size w wr))
  case atStart => exact ⟨0, by omega, rfl, Below.refl _ _⟩
  case round =>
    obtain ⟨k, hk, rfl, HB⟩ := hrel
    by_cases hlt : (k : Int) < n
    · obtain ⟨b, o, hra, hc, -, hm⟩ := HR.out.kept HB.out k (by omega)
      obtain ⟨b', o', hra', hc', -, -⟩ := HR'.out.kept HB.out k (by omega)
      subst hra hra'
      obtain ⟨z, hz⟩ : ∃ z, (R k).length = z := ⟨_, rfl⟩
      rw [hz] at hc hc' hm
      have HZ := hidden hz
      clear hz
      go_wp2
      go_quiet (fail)
      go_wp2
      clear hc hc'
      go_loopg [6] z (fun q i wr => ∃ j : Nat, j + q = z ∧ i = .int .i64 (j : Int) ∧ Hid (Below w.heap.size w wr))
      case atStart => exact ⟨0, by omega, rfl, below_drewN HB.out _⟩
      case round =>
        clear HB
        obtain ⟨j, hj, rfl, HB⟩ := hrel
        obtain ⟨b1, o1, hra1, hc, hr, -⟩ := HR.out.kept HB.out k (by omega)
        obtain ⟨b2, o2, hra2, hc', hr', -⟩ := HR'.out.kept HB.out k (by omega)
        cases hra1
        cases hra2
        rw [HZ.out] at hc hc'
        by_cases hlj : (j : Int) < z
        · obtain ⟨p, u, hp, hcp⟩ := hr j (by rw [HZ.out]; omega)
          obtain ⟨p', u', hp', hcp'⟩ := hr' j (by rw [HZ.out]; omega)
          rw [hp] at hc
          rw [hp'] at hc'
          obtain ⟨X, hX⟩ : ∃ X, (R k).getD j false = X := ⟨_, rfl⟩
          rw [hX] at hcp hcp'
          clear hX hr hr' hp hp'
          go_wp2
          go_quiet (fail)
          go_wp2
          go_roundg (gk - 1)
          case measure => omega
          case rel => exact ⟨j + 1, by omega, by go_num, below_drewN HB.out _⟩
        · go_wp2
          go_roundg (n - (k + 1))
          case measure => omega
          case rel => exact ⟨k + 1, by omega, by go_num, HB⟩
    · go_wp2
      go_ret
      exact BoolKept.mk true rfl rfl HB.out
end Go.Proofs.Qxb6603374a
