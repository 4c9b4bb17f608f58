/- The contracts of the law's small callees. -/
import Derived.Test.Qxb6603145aDoorRows
import Derived.WalkKit
import Derived.ProofKit
import Derived.OpenShut
import Derived.ShutString
import Derived.WalkSpells
import Derived.Deep.OwnRows
namespace Go.Proofs.Qxb6603145aDoor
open Go.ChangeShapes Go.WideShapes Go.ChangeAt Go.RowKit

/-- What the walks are told of a slice of strings: it has no element, or its cells hold the strings S. -/
def StrRow (w : World) (a : Option Addr) (len : Nat) (S : Nat → ByteArray) : Prop :=
  len ≤ maxLen ∧ (len = 0 ∨ ∃ b off, a = some ⟨b, off, none⟩ ∧ b < w.heap.size ∧ ∀ i, i < len → w.cell? ⟨b, off + i, none⟩ = some (.string (S i)) ∧ (S i).size ≤ maxLen)

/-- A call that answers some bool of which Q holds, in the world as it was. -/
def BoolEnd (Q : Bool → Prop) (w : World) (e : Ending) (w' : World) : Prop := ∃ r : Bool, e = .returned (.bool r) ∧ Q r ∧ w' = w
theorem BoolEnd.mk {Q : Bool → Prop} {w : World} {e : Ending} {w' : World} (r : Bool) (he : e = .returned (.bool r)) (hq : Q r) (hw : w' = w) : BoolEnd Q w e w' := ⟨r, he, hq, hw⟩

set_option maxHeartbeats 400000 in
theorem bytes_any (a : Option Addr) (len cap : Nat) (t : ByteArray) (v : Int) (S : Nat → ByteArray) (w : World) (hS : StrRow w a len S) (ht : t.size ≤ maxLen) :
    Calls Tryd.prog 4 #[.slice a len cap, .string t, .int .i64 v] w fun e w' => BoolEnd (fun r => r = true → len ≤ 1048576 ∧ t.size ≤ 1048576 ∧ ∀ i, i < len → (S i).size ≤ 1048576) w e w' := by
  obtain ⟨hlen, hS⟩ := hS
  unfold maxLen at *
  by_cases hbig : 1048576 < (len : Int)
  · go_enter Tryd.func4, Tryd.ntmps4
    go_wp2
    go_ret
    exact BoolEnd.mk false rfl (fun h => by cases h) rfl
  · go_enter Tryd.func4, Tryd.ntmps4
    go_wp2
    go_loop [7, 8] (fun z i => ∃ (k : Nat) (y : Int), k ≤ len ∧ i = .int .i64 k ∧ z = .int .i64 y ∧ 0 ≤ y ∧ y ≤ 1048576 ∧ ∀ j, j < k → (S j).size ≤ 1048576) (fun _ i => len - (intOf i).toNat)
    case atStart => exact ⟨0, len, by omega, rfl, rfl, by omega, by omega, fun j hj => by omega⟩
    case round =>
      obtain ⟨k, y, hk, rfl, rfl, hy0, hy1, hall⟩ := hrel
      have HA : Hid (∀ j, j < k → (S j).size ≤ 1048576) := hall
      clear hall
      by_cases hlt : (k : Int) < len
      · rcases hS with h0 | ⟨b, off, rfl, hb, hc⟩
        · omega
        · obtain ⟨hck, hsz⟩ := hc k (by omega)
          go_wp2
          · go_ret
            exact BoolEnd.mk false rfl (fun h => by cases h) rfl
          · go_ret
            exact BoolEnd.mk false rfl (fun h => by cases h) rfl
          · go_round
            case rel =>
              refine ⟨k + 1, _, by omega, by go_num, rfl, by omega, by omega, fun j hj => ?_⟩
              by_cases e : j = k
              · subst e; omega
              · exact HA.out j (by omega)
            case measure => simp [intOf]; omega
      · by_cases hts : 1048576 < (t.size : Int)
        · go_wp2
          go_ret
          exact BoolEnd.mk false rfl (fun h => by cases h) rfl
        · go_wp2
          · go_ret
            exact BoolEnd.mk false rfl (fun h => by cases h) rfl
          · go_ret
            exact BoolEnd.mk true rfl (fun _ => ⟨by omega, by omega, fun j hj => HA.out j (by omega)⟩) rfl

set_option maxHeartbeats 400000 in
theorem sizeOK_any (a : Option Addr) (len cap : Nat) (t : ByteArray) (S : Nat → ByteArray) (w : World) (hS : StrRow w a len S) (hl : len ≤ 65536) (ht : t.size ≤ 1048576) (hsm : ∀ i, i < len → (S i).size ≤ 1048576) :
    Calls Tryd.prog 5 #[.slice a len cap, .string t] w fun e w' => BoolEnd (fun _ => True) w e w' := by
  obtain ⟨hlen, hS⟩ := hS
  unfold maxLen at *
  go_enter Tryd.func5, Tryd.ntmps5
  go_wp2
  go_loop [5, 6] (fun z i => ∃ (k : Nat) (y : Int), k ≤ len ∧ i = .int .i64 k ∧ z = .int .i64 y ∧ 0 ≤ y ∧ y ≤ 3000000) (fun _ i => len - (intOf i).toNat)
  case atStart => exact ⟨0, _, by omega, rfl, rfl, by omega, by omega⟩
  case round =>
    obtain ⟨k, y, hk, rfl, rfl, hy0, hy1⟩ := hrel
    by_cases hlt : (k : Int) < len
    · rcases hS with h0 | ⟨b, off, rfl, hb, hc⟩
      · omega
      · obtain ⟨hck, _⟩ := hc k (by omega)
        have hsz := hsm k (by omega)
        by_cases hbig : 1048576 < y + ((S k).size : Int)
        · go_wp2
          all_goals
            go_ret
            exact BoolEnd.mk false rfl trivial rfl
        · go_wp2
          go_round
          case rel => exact ⟨k + 1, _, by omega, by go_num, rfl, by omega, by omega⟩
          case measure => simp [intOf]; omega
    · go_wp2
      go_ret
      exact BoolEnd.mk _ rfl trivial rfl

theorem mag_wrap (v : Int) (h1 : -9223372036854775808 ≤ v) (h : v < 0) : IntKind.u64.wrap (-IntKind.u64.wrap v) = (v.natAbs : Int) := by
  rw [IntKind.wrap_u64, IntKind.wrap_u64]
  omega

theorem ret_int {k : IntKind} {a b : Int} (h : a = b) : Ending.returned (.int k a) = .returned (.int k b) := by rw [h]

theorem mag_any (v : Int) (h1 : -9223372036854775808 ≤ v) (h2 : v ≤ 9223372036854775807) (w : World) :
    Calls Tryd.prog 9 #[.int .i64 v] w fun e w' => e = .returned (.int .u64 v.natAbs) ∧ w' = w := by
  by_cases hneg : v < 0
  · go_enter Tryd.func9, Tryd.ntmps9
    go_wp2
    go_ret
    exact ⟨ret_int (mag_wrap v h1 hneg), rfl⟩
  · go_enter Tryd.func9, Tryd.ntmps9
    go_wp2
    go_ret
    exact ⟨ret_int (by omega), rfl⟩

/-- What the copy hands back: a slice of the same length, nothing old turned. -/
def CopyEnd (len : Nat) (w : World) (e : Ending) (w' : World) : Prop := ∃ a c, e = .returned (.slice a len c) ∧ Below w.heap.size w w'
theorem CopyEnd.mk {len : Nat} {w : World} {e : Ending} {w' : World} (a : Option Addr) (c : Nat) (he : e = .returned (.slice a len c)) (hb : Below w.heap.size w w') : CopyEnd len w e w' := ⟨a, c, he, hb⟩

theorem Tryd.info9 : (Tryd.prog.info? 9).map (fun i => (i.zero, i.size, i.bytes)) = some (some (.string ⟨#[]⟩), 1, 16) := by kernel_rfl

set_option maxHeartbeats 400000 in
theorem copy_any (a : Option Addr) (len cap : Nat) (S : Nat → ByteArray) (w : World) (hS : StrRow w a len S) (hl : len ≤ 65536) (hnil : a = none → len = 0) :
    Calls Tryd.prog 6 #[.slice a len cap] w fun e w' => CopyEnd len w e w' := by
  obtain ⟨hlen, hS⟩ := hS
  unfold maxLen at *
  have hq := fun (w : World) (a : Option Addr) (n c n' c' : Nat) => Lib.run_eql_slice_nil (P := Tryd.prog) w _ _ a n c n' c' Tryd.underlying22
  have hmk := run_make_row' (P := Tryd.prog) 22 9 (.string ⟨#[]⟩) 16 Tryd.underlying22 Tryd.info9 rfl .i64 .i64 len (by omega) (by omega)
  cases a with
  | none =>
    have h0 := hnil rfl
    subst h0
    go_enter Tryd.func6, Tryd.ntmps6
    go_wp2
    go_ret
    exact CopyEnd.mk _ _ rfl (Below.refl _ _)
  | some x =>
    go_enter Tryd.func6, Tryd.ntmps6
    go_wp2
    go_loopw [4] (fun i wr => ∃ (k : Nat) (f : Nat → Value), k ≤ len ∧ i = .int .i64 k ∧ wr.rowIs w.heap.size 9 len f ∧ (∀ j, ∃ s, f j = .string s) ∧ Below w.heap.size w wr) (fun i _ => len - (intOf i).toNat)
    case atStart => exact ⟨0, _, by omega, rfl, World.rowIs_made _ _ _ _, fun j => ⟨_, rfl⟩, (Below.refl _ _).alloc (Nat.le_refl _) _⟩
    case round =>
      obtain ⟨k, f, hk, rfl, hrow, hstr, hbel⟩ := hrel
      by_cases hlt : (k : Int) < len
      · rcases hS with h0 | ⟨b, off, hx, hb, hc⟩
        · omega
        · cases hx
          have hck := (hbel.cell (p := ⟨b, off + k, none⟩) hb).trans (hc k (by omega)).1
          have hc2 := hrow.cell (i := k) (by omega)
          obtain ⟨s, hs⟩ := hstr k
          rw [hs] at hc2
          have hfz := hrow.frozen k
          clear hc hmk hq hs
          go_wp2
          go_roundw
          case rel => exact ⟨k + 1, _, by omega, by go_num, hrow.set k _, fun j => by by_cases e : j = k <;> simp [e, hstr], hbel.setCell (Nat.le_refl _) _⟩
          case measure => simp [intOf]; omega
      · clear hmk hq
        go_wp2
        go_ret
        exact CopyEnd.mk _ _ rfl hbel
end Go.Proofs.Qxb6603145aDoor
