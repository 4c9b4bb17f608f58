import Derived.Test.Qxb6603145aRows
import Derived.WalkKit
import Derived.ProofKit
import Derived.OpenShut
import Derived.ShutString
import Derived.WalkSpells
namespace Go.Proofs.Qxb6603145a
open Go.ChangeShapes Go.WideShapes Go.ChangeAt Go.RowKit

/-- 'if b { x += d }' on an int. -/
def addIf (b : Bool) (x d : Int) : Int := bif b then wrap64 (x + d) else x

set_option maxHeartbeats 400000 in
theorem zzTally_any (c f s m d : Int) (b1 b2 : Bool) (h1 : (bits BinOp.and IntKind.u8 m 1 != 0) = b1) (h2 : (bits BinOp.and IntKind.u8 m 2 != 0) = b2) (w : World) :
    Calls Try.prog 5 #[.int .i64 c, .int .i64 f, .int .i64 s, .int .u8 m, .int .i64 d] w fun e w' => e = .returned (.tuple #[.int .i64 (wrap64 (c + d)), .int .i64 (addIf b1 f d), .int .i64 (addIf b2 s d)]) ∧ Grown w w' := by
  cases b1 <;> cases b2
  all_goals
    go_enter Try.func5, Try.ntmps5
    go_wp2
    go_end0
    go_wp2
    go_region
    all_goals
      go_wp2
      go_ret3
      exact ⟨rfl, by repeat (first | exact Grown.refl _ | apply Grown.drew | apply Grown.alloc)⟩
end Go.Proofs.Qxb6603145a
