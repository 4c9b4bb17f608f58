import Derived.Test.Qxb6602993aRows
import Derived.Test.Qxb6602993aPlain
import Derived.WalkKit
import Derived.ProofKit
import Derived.OpenShut
import Derived.ShutString
import Derived.WalkSpells
namespace Go.Proofs.Qxb6602993a
open Go.ChangeShapes Go.WideShapes Go.ChangeAt Go.RowKit

theorem ret_int {k : IntKind} {a b : Int} (h : a = b) : Ending.returned (.int k a) = .returned (.int k b) := by rw [h]

set_option maxHeartbeats 400000 in
theorem groupOf_any (y g : Int) (w : World) (hy1 : -9223372036854775808 ≤ y) (hy2 : y ≤ 9223372036854775807)
    (hg2 : g ≤ 9223372036854775807) :
    Calls Try.prog 22 #[.int .i64 y, .int .i64 g] w fun e w' => e = .returned (.int .i64 (gOf y g)) ∧ w' = w := by
  go_enter Try.func22, Try.ntmps22
  go_wp2
  go_loop [0, 6] (fun t i => ∃ k : Nat, k ≤ g.toNat ∧ i = .int .i64 k ∧ t = .int .i64 (y.tdiv (10000 ^ k))) (fun _ i => g.toNat - (intOf i).toNat)
  case atStart => exact ⟨0, Nat.zero_le _, rfl, by simp⟩
  case round =>
    obtain ⟨k, hk, rfl, rfl⟩ := hrel
    by_cases hlt : (k : Int) < g
    · go_wp2
      go_round
      case rel => exact ⟨k + 1, by omega, by go_num, by rw [tdiv_wrap y k hy1 hy2]⟩
      case measure => simp [intOf]; omega
    · go_wp2
      go_ret
      have : k = g.toNat := by omega
      subst this
      exact ⟨rfl, rfl⟩

theorem zzGroupOf_any (y g : Int) (w : World) (hy1 : -9223372036854775808 ≤ y) (hy2 : y ≤ 9223372036854775807)
    (hg2 : g ≤ 9223372036854775807) :
    Calls Try.prog 9 #[.int .i64 y, .int .i64 g] w fun e w' => e = .returned (.int .i64 (gOf y g)) ∧ w' = w := by
  go_enter Try.func9, Try.ntmps9
  go_wp2_with (go_at_call 22; refine (groupOf_any _ _ _ hy1 hy2 hg2).mono ?_; rintro e w' ⟨rfl, rfl⟩)
  go_ret
  exact ⟨rfl, rfl⟩
end Go.Proofs.Qxb6602993a
