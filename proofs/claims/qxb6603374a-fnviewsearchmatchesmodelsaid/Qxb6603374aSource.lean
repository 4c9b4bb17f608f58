/- The contract of (*versions).source. -/
import Derived.Test.Qxb6603374aFind
namespace Go.Proofs.Qxb6603374a
open Go.ChangeShapes Go.WideShapes Go.ChangeAt Go.RowKit

/-- The transaction whose version a read sees, 0 for the initial one. -/
def seenTxn (IR : Nat → List Int) (it : Nat) (sn : Int) : Int := if sn < 0 then 0 else (IR it).getD sn.toNat 0
def IntKept (z : Int) (w : World) (e : Ending) (w' : World) : Prop := e = .returned (.int .i64 z) ∧ Below w.heap.size w w'

set_option maxRecDepth 100000 in
set_option maxHeartbeats 1000000 in
theorem source_any (vB ni ic it : Nat) (ia : Option Addr) (ira : Nat → Option Addr) (irc : Nat → Nat) (IR : Nat → List Int) (op txn sn : Int) (own : Bool) (w : World)
    (v1 : w.cell? ⟨vB, 1, none⟩ = some (.slice ia ni ic)) (hI : RowsAt w ia ni ira irc IR) (hit : it < ni) (hsn : sn < (IR it).length) (hs : I64 sn) :
    Calls Try.prog 37 #[.pointer (some ⟨vB, 0, none⟩), .agg #[.int .i64 op, .int .i64 txn, .int .i64 (it : Int), .int .i64 sn, .bool own]] w fun e w' => IntKept (seenTxn IR it sn) w e w' := by
  have hbel := (Below.refl w.heap.size w).alloc (Nat.le_refl _) (.cells #[.int .i64 op, .int .i64 txn, .int .i64 (it : Int), .int .i64 sn, .bool own] 76)
  by_cases h0 : sn < 0
  · have HZ : Hid (seenTxn IR it sn = 0) := by show _ = 0; unfold seenTxn; rw [if_pos h0]
    have HB := hidden hbel
    clear hbel
    go_enter Try.func37, Try.ntmps37
    go_wp2
    go_ret
    exact ⟨by rw [HZ.out]; rfl, HB.out⟩
  · obtain ⟨q, hq⟩ : ∃ q : Nat, sn = (q : Int) := ⟨sn.toNat, by omega⟩
    subst hq
    have v1' := cellOld hbel v1
    obtain ⟨ib, io, hia, hci, hRi, -⟩ := hI.kept hbel it hit
    subst hia
    obtain ⟨rb, ro, hra, hc, -⟩ := hRi q (by omega)
    rw [hra] at hci
    obtain ⟨X, hX⟩ : ∃ X, (IR it).getD q 0 = X := ⟨_, rfl⟩
    rw [hX] at hc
    have HZ : Hid (seenTxn IR it (q : Int) = X) := by show _ = X; unfold seenTxn; rw [if_neg h0, Int.toNat_natCast]; exact hX
    have HB := hidden hbel
    have hitn : (it : Int) < ni := by omega
    have h0d : decide ((q : Int) < 0) = false := by simp
    clear hbel hX v1 hI hRi hra
    go_enter Try.func37, Try.ntmps37
    go_wp2
    go_quiet (fail)
    go_wp2
    go_ret
    exact ⟨by rw [HZ.out]; rfl, below_drewN HB.out _⟩
end Go.Proofs.Qxb6603374a
