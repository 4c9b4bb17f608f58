/- The contracts of nameIn at a value that has no name, and of zzParseCanonical at what it prints. -/
import Derived.Test.Qxb6603145aDoorRows
import Derived.Test.Qxb6603145aDoorShelf
import Derived.Test.Qxb6603145aDoorParse
import Derived.WalkKit
import Derived.ProofKit
import Derived.OpenShut
import Derived.ShutString
import Derived.WalkSpells
namespace Go.Proofs.Qxb6603145aDoor
open Go.ChangeShapes Go.WideShapes Go.ChangeAt Go.RowKit

/-- The numeral as a string. -/
def num (v : Int) : ByteArray := ⟨(Lib.itoa v).toArray⟩

theorem num_bytes_pos (u t : Nat) (h : t < (num (u : Int)).size) : ((num (u : Int))[t]).toNat = 48 + digAt u (Lib.nDigits u) t := by
  have e : Lib.itoa (u : Int) = Lib.decDigits u := Lib.itoa_nonneg u
  have hl : t < (Lib.decDigits u).length := by
    have : (num (u : Int)).size = (Lib.itoa (u : Int)).length := by simp [num, ByteArray.size]
    rw [this, e] at h; exact h
  rw [← digits_byte u t hl]
  show ((Lib.itoa (u : Int)).toArray[t]'_).toNat = _
  simp only [List.getElem_toArray, e]

theorem num_size_pos (u : Nat) : (num (u : Int)).size = Lib.nDigits u := by
  have : (num (u : Int)).size = (Lib.itoa (u : Int)).length := by simp [num, ByteArray.size]
  rw [this, Lib.itoa_nonneg, Lib.decDigits_length]

theorem num_size_neg (u : Nat) (hu : 1 ≤ u) : (num (-(u : Int))).size = 1 + Lib.nDigits u := by
  have : (num (-(u : Int))).size = (Lib.itoa (-(u : Int))).length := by simp [num, ByteArray.size]
  rw [this, Lib.itoa_neg u hu, List.length_cons, Lib.decDigits_length]; omega

theorem num_bytes_neg (u t : Nat) (hu : 1 ≤ u) (h : 1 + t < (num (-(u : Int))).size) : ((num (-(u : Int)))[1 + t]).toNat = 48 + digAt u (Lib.nDigits u) t := by
  have e : Lib.itoa (-(u : Int)) = 45 :: Lib.decDigits u := Lib.itoa_neg u hu
  have hl : t < (Lib.decDigits u).length := by
    rw [num_size_neg u hu] at h; rw [Lib.decDigits_length]; omega
  rw [← digits_byte u t hl]
  show ((Lib.itoa (-(u : Int))).toArray[1 + t]'_).toNat = _
  simp only [List.getElem_toArray, e, Nat.add_comm 1 t, List.getElem_cons_succ]

theorem num_minus (u : Nat) (hu : 1 ≤ u) (h : 0 < (num (-(u : Int))).size) : ((num (-(u : Int)))[0]).toNat = 45 := by
  have e : Lib.itoa (-(u : Int)) = 45 :: Lib.decDigits u := Lib.itoa_neg u hu
  show ((Lib.itoa (-(u : Int))).toArray[0]'_).toNat = _
  simp only [List.getElem_toArray, e, List.getElem_cons_zero]
  rfl

theorem num_size (v : Int) (h1 : -9223372036854775808 ≤ v) (h2 : v ≤ 9223372036854775807) : 1 ≤ (num v).size ∧ (num v).size ≤ 21 := by
  rcases Int.eq_nat_or_neg v with ⟨u, rfl | rfl⟩
  · rw [num_size_pos]
    have := nDigits_le u (by omega)
    have := Lib.nDigits_pos u
    omega
  · by_cases hu : 1 ≤ u
    · rw [num_size_neg u hu]
      have := nDigits_le u (by omega)
      have := Lib.nDigits_pos u
      omega
    · have : u = 0 := by omega
      subst this
      have e := num_size_pos 0
      rw [Lib.nDigits_small (by omega)] at e
      exact ⟨by show 1 ≤ (num 0).size; rw [show (num 0).size = 1 from e]; exact Nat.le_refl _, by show (num 0).size ≤ 21; rw [show (num 0).size = 1 from e]; omega⟩

/-- zzParseCanonical reads the numeral back. -/
theorem parse_num (v : Int) (h1 : -9223372036854775808 ≤ v) (h2 : v ≤ 9223372036854775807) (w : World) :
    Calls Tryd.prog 8 #[.string (num v)] w fun e w' => e = .returned (.tuple #[.bool (decide (v < 0)), .int .u64 (v.natAbs : Int), .bool true]) ∧ w' = w := by
  by_cases hneg : v < 0
  · obtain ⟨u, hu⟩ : ∃ u : Nat, v = -(u : Int) ∧ 1 ≤ u := ⟨v.natAbs, by omega, by omega⟩
    obtain ⟨rfl, hu1⟩ := hu
    have e1 : decide (-(u : Int) < 0) = true := by simp only [decide_eq_true_eq]; omega
    have e2 : (-(u : Int)).natAbs = u := by omega
    rw [e1, e2]
    exact parse1 _ u (Lib.nDigits u) (num_size_neg u hu1) (Lib.nDigits_pos u) (nDigits_le u (by omega)) (fun t h => num_bytes_neg u t hu1 h) (num_minus u hu1) (first_pos u hu1) (readTo_zero u) (by omega) w
  · obtain ⟨u, rfl⟩ : ∃ u : Nat, v = (u : Int) := ⟨v.toNat, by omega⟩
    have e1 : decide ((u : Int) < 0) = false := by simp only [decide_eq_false_iff_not]; omega
    have e2 : ((u : Int)).natAbs = u := by omega
    rw [e1, e2]
    refine parse0 _ u (Lib.nDigits u) (num_size_pos u) (Lib.nDigits_pos u) (nDigits_le u (by omega)) (fun t h => num_bytes_pos u t h) (fun hz => ?_) (readTo_zero u) (by omega) w
    by_cases h : 1 ≤ u
    · have := first_pos u h; omega
    · exact Lib.nDigits_small (by omega)

/-- What nameIn prints. -/
def nm (t : ByteArray) (v : Int) : ByteArray := t ++ ⟨#[40]⟩ ++ num v ++ ⟨#[41]⟩

theorem below_grow (w : World) (k : Nat) (os : Array Obj) : Below w.heap.size w (Go.Sort.grow (w.drewN k) os) :=
  ⟨rfl, rfl, rfl, by simp [Go.Sort.grow, World.drewN], fun j hj => by
    show (w.heap ++ os)[j]? = w.heap[j]?
    rw [Array.getElem?_append_left hj]⟩

theorem itoa_num (v : Int) (w : World) (h1 : -9223372036854775808 ≤ v) (h2 : v ≤ 9223372036854775807) (htab : Lib.TabIs Tryd.prog w Tryd.powName .u64 Lib.pow10Tab) :
    Calls Tryd.prog 11 #[.int .i64 v] w fun e w' => e = .returned (.string (num v)) ∧ Below w.heap.size w w' :=
  (Tryd.strconv_Itoa _ h1 h2 _ htab).mono fun e w' ⟨he, k, os, hw⟩ => ⟨he, by rw [hw]; exact below_grow w k os⟩

theorem app1 (t x y : ByteArray) : (t ++ ⟨#[40]⟩ ++ x ++ y).size = t.size + 1 + x.size + y.size := by
  simp [ByteArray.size_append]; rfl

theorem nm_size (t : ByteArray) (v : Int) : (nm t v).size = t.size + 2 + (num v).size := by
  unfold nm; rw [app1]; simp only [ByteArray.size]; simp; omega

set_option maxHeartbeats 400000 in
theorem nameIn_any (a : Option Addr) (len cap : Nat) (t : ByteArray) (v : Int) (w : World) (h1 : -9223372036854775808 ≤ v) (h2 : v ≤ 9223372036854775807) (hv : v < 0 ∨ (len : Int) ≤ v) (_hl : len ≤ 65536) (ht : t.size ≤ 1048576)
    (htab : Lib.TabIs Tryd.prog w Tryd.powName .u64 Lib.pow10Tab) :
    Calls Tryd.prog 10 #[.slice a len cap, .string t, .int .i64 v] w fun e w' => e = .returned (.string (nm t v)) ∧ Below w.heap.size w w' := by
  obtain ⟨hn1, hn2⟩ := num_size v h1 h2
  by_cases hneg : v < 0
  · go_enter Tryd.func10, Tryd.ntmps10
    go_wp2_with (go_at_call 11; refine (itoa_num _ _ h1 h2 htab).mono ?_; rintro e w' ⟨rfl, hb⟩)
    go_ret
    exact ⟨rfl, hb⟩
  · have hge : (len : Int) ≤ v := by omega
    go_enter Tryd.func10, Tryd.ntmps10
    go_wp2_with (go_at_call 11; refine (itoa_num _ _ h1 h2 htab).mono ?_; rintro e w' ⟨rfl, hb⟩)
    go_ret
    exact ⟨rfl, hb⟩

theorem zzNameIn_any (a : Option Addr) (len cap : Nat) (t : ByteArray) (v : Int) (w : World) (h1 : -9223372036854775808 ≤ v) (h2 : v ≤ 9223372036854775807) (hv : v < 0 ∨ (len : Int) ≤ v) (hl : len ≤ 65536) (ht : t.size ≤ 1048576)
    (htab : Lib.TabIs Tryd.prog w Tryd.powName .u64 Lib.pow10Tab) :
    Calls Tryd.prog 7 #[.slice a len cap, .string t, .int .i64 v] w fun e w' => e = .returned (.string (nm t v)) ∧ Below w.heap.size w w' := by
  go_enter Tryd.func7, Tryd.ntmps7
  go_wp2_with (go_at_call 10; refine (nameIn_any _ _ _ _ _ _ h1 h2 hv hl ht htab).mono ?_; rintro e w' ⟨rfl, hb⟩)
  go_ret
  exact ⟨rfl, hb⟩
end Go.Proofs.Qxb6603145aDoor
