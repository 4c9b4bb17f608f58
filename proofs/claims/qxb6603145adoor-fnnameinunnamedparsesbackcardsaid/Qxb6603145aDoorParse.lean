/- The contract of zzParseCanonical at a decimal numeral. -/
import Derived.Test.Qxb6603145aDoorRows
import Derived.Test.Qxb6603145aDoorPlain
import Derived.WalkKit
import Derived.ProofKit
import Derived.OpenShut
import Derived.ShutString
import Derived.WalkSpells
namespace Go.Proofs.Qxb6603145aDoor
open Go.ChangeShapes Go.WideShapes Go.ChangeAt Go.RowKit

theorem ret_three {p q : Bool} {a b : Int} (h : a = b) : Ending.returned (.tuple #[.bool p, .int .u64 a, .bool q]) = .returned (.tuple #[.bool p, .int .u64 b, .bool q]) := by rw [h]

set_option maxHeartbeats 1000000 in
theorem parse0 (s : ByteArray) (u n : Nat) (hs : s.size = n) (hn1 : 1 ≤ n) (hn2 : n ≤ 20) (hb : ∀ t (h : t < s.size), (s[t]).toNat = 48 + digAt u n t)
    (hz : digAt u n 0 = 0 → n = 1) (h0 : readTo u n 0 = 0) (hu : u ≤ 9223372036854775808) (w : World) :
    Calls Tryd.prog 8 #[.string s] w fun e w' => e = .returned (.tuple #[.bool false, .int .u64 (u : Int), .bool true]) ∧ w' = w := by
  have hpos : 0 < s.size := by omega
  have hd0 := digAt_lt u n 0
  have HB : Hid (∀ t (h : t < s.size), (s[t]).toNat = 48 + digAt u n t) := hb
  have H0 : Hid (readTo u n 0 = 0) := h0
  have hs1 : s.size ≤ n := by omega
  have hs2 : n ≤ s.size := by omega
  have t1 : (((s[0]).toNat : Int) == 45) = false := by have := hb 0 hpos; simp; omega
  have t2 : (((s[0]).toNat : Int) == 48) = false ∨ ((((s[0]).toNat : Int) == 48) = true ∧ ¬ (1 : Int) < (s.size : Int)) := by
    have := hb 0 hpos
    by_cases e : digAt u n 0 = 0
    · have := hz e
      exact .inr ⟨by simp; omega, by omega⟩
    · exact .inl (by simp; omega)
  have hne : ¬ s = ByteArray.empty := by rintro rfl; exact absurd hpos (by decide)
  clear hb h0 hs hz hd0
  rcases t2 with t2 | ⟨t2, t3⟩
  all_goals
   go_enter Tryd.func8, Tryd.ntmps8
   go_wp2
   go_loop [5, 7, 8, 9] (fun i m _ _ => ∃ (k : Nat) (y : Int), k ≤ n ∧ i = .int .i64 (k : Int) ∧ m = .int .u64 y ∧ Hid (y = (readTo u n k : Int)) ∧ 0 ≤ y ∧ y ≤ 9223372036854775808) (fun i _ _ _ => n - (intOf i).toNat)
   case atStart => exact ⟨0, 0, by omega, rfl, rfl, by show (0 : Int) = _; rw [H0.out]; rfl, by omega, by omega⟩
   case round =>
     obtain ⟨k, y, hk, rfl, rfl, HY, hy0, hy1⟩ := hrel
     by_cases hlt : (k : Int) < n
     · have hlt' : k < s.size := by omega
       have HS : Hid ((readTo u n k * 10 + digAt u n k = readTo u n (k + 1)) ∧ readTo u n (k + 1) ≤ u ∧ (s[k]).toNat = 48 + digAt u n k ∧ digAt u n k ≤ 9) := ⟨readTo_step u n k (by omega), readTo_le u n (k + 1), HB.out k hlt', digAt_lt u n k⟩
       have c1 : 48 ≤ ((s[k]).toNat : Int) ∧ ((s[k]).toNat : Int) ≤ 57 := by have := HS.out; omega
       have c2 : y * 10 + (((s[k]).toNat : Int) - 48) ≤ 9223372036854775808 := by have := HS.out; have := HY.out; omega
       go_wp2
       go_round
       case rel => exact ⟨k + 1, _, by omega, by go_num, rfl, by have := HS.out; have := HY.out; show _ = _; omega, by omega, by omega⟩
       case measure => simp [intOf]; omega
     · have e : k = n := by omega
       subst e
       go_wp2
       go_ret3
       exact ⟨ret_three (by rw [HY.out, readTo_end]), rfl⟩

set_option maxHeartbeats 1000000 in
theorem parse1 (s : ByteArray) (u n : Nat) (hs : s.size = 1 + n) (hn1 : 1 ≤ n) (hn2 : n ≤ 20) (hb : ∀ t (h : 1 + t < s.size), (s[1 + t]).toNat = 48 + digAt u n t)
    (hm : ∀ h : 0 < s.size, (s[0]).toNat = 45) (hz : 1 ≤ digAt u n 0) (h0 : readTo u n 0 = 0) (hu : u ≤ 9223372036854775808) (w : World) :
    Calls Tryd.prog 8 #[.string s] w fun e w' => e = .returned (.tuple #[.bool true, .int .u64 (u : Int), .bool true]) ∧ w' = w := by
  have hpos : 0 < s.size := by omega
  have hd0 := digAt_lt u n 0
  have HB : Hid (∀ t (h : 1 + t < s.size), (s[1 + t]).toNat = 48 + digAt u n t) := hb
  have H0 : Hid (readTo u n 0 = 0) := h0
  have hs1 : s.size ≤ 1 + n := by omega
  have hs2 : 1 + n ≤ s.size := by omega
  have hpos1 : 1 < s.size := by omega
  have t1 : (((s[0]).toNat : Int) == 45) = true := by have := hm hpos; simp; omega
  have t2 : (((s[1]).toNat : Int) == 48) = false := by have := hb 0 (by omega); simp at this ⊢; omega
  clear hb hm h0 hs hz hd0
  go_enter Tryd.func8, Tryd.ntmps8
  go_wp2
  go_loop [5, 7, 8, 9] (fun i m _ _ => ∃ (k : Nat) (y : Int), k ≤ n ∧ i = .int .i64 (1 + k : Int) ∧ m = .int .u64 y ∧ Hid (y = (readTo u n k : Int)) ∧ 0 ≤ y ∧ y ≤ 9223372036854775808) (fun i _ _ _ => 1 + n - (intOf i).toNat)
  case atStart => exact ⟨0, 0, by omega, rfl, rfl, by show (0 : Int) = _; rw [H0.out]; rfl, by omega, by omega⟩
  case round =>
    obtain ⟨k, y, hk, rfl, rfl, HY, hy0, hy1⟩ := hrel
    by_cases hlt : (k : Int) < n
    · have hlt' : 1 + k < s.size := by omega
      have HS : Hid ((readTo u n k * 10 + digAt u n k = readTo u n (k + 1)) ∧ readTo u n (k + 1) ≤ u ∧ (s[1 + k]).toNat = 48 + digAt u n k ∧ digAt u n k ≤ 9) := ⟨readTo_step u n k (by omega), readTo_le u n (k + 1), HB.out k hlt', digAt_lt u n k⟩
      have c1 : 48 ≤ ((s[1 + k]).toNat : Int) ∧ ((s[1 + k]).toNat : Int) ≤ 57 := by have := HS.out; omega
      have c2 : y * 10 + (((s[1 + k]).toNat : Int) - 48) ≤ 9223372036854775808 := by have := HS.out; have := HY.out; omega
      go_wp2
      go_round
      case rel => exact ⟨k + 1, _, by omega, by go_num, rfl, by have := HS.out; have := HY.out; show _ = _; omega, by omega, by omega⟩
      case measure => simp [intOf]; omega
    · have e : k = n := by omega
      subst e
      go_wp2
      go_ret3
      exact ⟨ret_three (by rw [HY.out, readTo_end]), rfl⟩
end Go.Proofs.Qxb6603145aDoor
