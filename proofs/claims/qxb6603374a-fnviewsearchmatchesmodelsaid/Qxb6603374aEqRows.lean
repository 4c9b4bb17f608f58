/- The contracts of zzB1EqInts (in the world as it was but for draws) and zzB1EqRows. -/
import Derived.Test.Qxb6603374aFind
import Derived.Deep.LoopGhost
namespace Go.Proofs.Qxb6603374a
open Go.ChangeShapes Go.WideShapes Go.ChangeAt Go.RowKit

/-- True, in the world as it was but for draws. -/
def TrueDrew (w : World) (e : Ending) (w' : World) : Prop := e = .returned (.bool true) ∧ ∃ n, w' = w.drewN n
theorem drewN_two (w : World) (a b : Nat) : (w.drewN a).drewN b = w.drewN (a + b) := by
  simp [World.drewN, Nat.add_assoc]
theorem Row.drewN {w : World} {a : Option Addr} {zs : List Int} (h : Row w a zs) (n : Nat) : Row (w.drewN n) a zs := fun i hi => h i hi

set_option maxRecDepth 100000 in
set_option maxHeartbeats 1000000 in
theorem eq_same (a a' : Option Addr) (c c' n : Nat) (zs : List Int) (w : World) (hR : Row w a zs) (hR' : Row w a' zs) (hn : zs.length = n) (hb : n ≤ 9223372036854775807) :
    Calls Try.prog 25 #[.slice a n c, .slice a' n c'] w fun e w' => TrueDrew w e w' := by
  have HR := hidden hR
  have HR' := hidden hR'
  have HN := hidden hn
  clear hR hn hR'
  go_enter Try.func25, Try.ntmps25
  go_wp2
  go_loopg [5] n (fun q i wr => ∃ k : Nat, k + q = n ∧ i = .int .i64 (k : Int) ∧ Hid (∃ d, wr = w.drewN d))
  case atStart => exact ⟨0, by omega, rfl, hidden ⟨0, rfl⟩⟩
  case round =>
    obtain ⟨k, hk, rfl, HD⟩ := hrel
    have HRr : Hid (Row wr a zs) := by obtain ⟨d, hd⟩ := HD.out; rw [hd]; exact HR.out.drewN d
    have HRr' : Hid (Row wr a' zs) := by obtain ⟨d, hd⟩ := HD.out; rw [hd]; exact HR'.out.drewN d
    by_cases hlt : (k : Int) < n
    · obtain ⟨b, o, hra, hc, hi64⟩ := HRr.out k (by rw [HN.out]; omega)
      obtain ⟨b', o', hra', hc', -⟩ := HRr'.out k (by rw [HN.out]; omega)
      subst hra hra'
      obtain ⟨X, hX⟩ : ∃ X, zs.getD k 0 = X := ⟨_, rfl⟩
      rw [hX] at hc hi64 hc'
      clear hX
      go_wp2
      go_quiet (fail)
      go_wp2
      go_roundg (gk - 1)
      case measure => omega
      case rel => exact ⟨k + 1, by omega, by go_num, hidden (by obtain ⟨d, hd⟩ := HD.out; exact ⟨d + nq, by rw [hd, drewN_two]⟩)⟩
    · go_wp2
      go_ret
      exact ⟨rfl, HD.out⟩
theorem eq_quiet {a a' : Option Addr} {c c' n : Nat} {zs : List Int} {w : World} (hR : Row w a zs) (hR' : Row w a' zs) (hn : zs.length = n) (hb : n ≤ 9223372036854775807) (d : Nat) :
    Calls Try.prog 25 #[.slice a n c, .slice a' n c'] (w.drewN d) fun e w' => e = .returned (.bool true) ∧ ∃ m, w' = w.drewN m :=
  (eq_same a a' c c' n zs (w.drewN d) (hR.drewN d) (hR'.drewN d) hn hb).mono fun e w' ⟨h1, m, h2⟩ => ⟨h1, d + m, by rw [h2, drewN_two]⟩
theorem RowsAt.drewN {w : World} {a : Option Addr} {n : Nat} {ra : Nat → Option Addr} {rc : Nat → Nat} {R : Nat → List Int} (h : RowsAt w a n ra rc R) (d : Nat) : RowsAt (w.drewN d) a n ra rc R := fun v hv => h v hv

set_option maxRecDepth 100000 in
set_option maxHeartbeats 1000000 in
/-- Two rows of rows of the same numbers are found the same. -/
theorem eqrows_same (a a' : Option Addr) (c c' n : Nat) (ra ra' : Nat → Option Addr) (rc rc' : Nat → Nat) (R : Nat → List Int) (w : World) (hR : RowsAt w a n ra rc R) (hR' : RowsAt w a' n ra' rc' R) (hb : n ≤ 9223372036854775807) :
    Calls Try.prog 27 #[.slice a n c, .slice a' n c'] w fun e w' => TrueDrew w e w' := by
  have HR := hidden hR
  have HR' := hidden hR'
  clear hR hR'
  go_enter Try.func27, Try.ntmps27
  go_wp2
  go_loopg [5] n (fun q i wr => ∃ k : Nat, k + q = n ∧ i = .int .i64 (k : Int) ∧ Hid (∃ d, wr = w.drewN d))
  case atStart => exact ⟨0, by omega, rfl, hidden ⟨0, rfl⟩⟩
  case round =>
    obtain ⟨k, hk, rfl, HD⟩ := hrel
    have HRr : Hid (RowsAt wr a n ra rc R) := by obtain ⟨d, hd⟩ := HD.out; rw [hd]; exact HR.out.drewN d
    have HRr' : Hid (RowsAt wr a' n ra' rc' R) := by obtain ⟨d, hd⟩ := HD.out; rw [hd]; exact HR'.out.drewN d
    by_cases hlt : (k : Int) < n
    · obtain ⟨b, o, hra, hc, hr, hm⟩ := HRr.out k (by omega)
      obtain ⟨b', o', hra', hc', hr', -⟩ := HRr'.out k (by omega)
      subst hra hra'
      have HQ := hidden (fun d => eq_quiet (c := rc k) (c' := rc' k) hr hr' rfl hm d)
      clear hr hr'
      obtain ⟨z, hz⟩ : ∃ z, (R k).length = z := ⟨_, rfl⟩
      rw [hz] at hc hc' HQ
      clear hz hm
      go_wp2
      go_quiet ((go_at_call 25; exact HQ.out _))
      go_wp2
      go_roundg (gk - 1)
      case measure => omega
      case rel => exact ⟨k + 1, by omega, by go_num, hidden (by obtain ⟨d, hd⟩ := HD.out; exact ⟨d + nq, by rw [hd, drewN_two]⟩)⟩
    · go_wp2
      go_ret
      exact ⟨rfl, HD.out⟩
end Go.Proofs.Qxb6603374a
