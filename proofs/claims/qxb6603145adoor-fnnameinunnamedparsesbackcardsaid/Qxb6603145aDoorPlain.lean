/- The plain mathematics of the decimal numeral, read back place by place. -/
import Derived.Lib.ItoaNum
import Derived.Lib.ItoaMem
namespace Go.Proofs.Qxb6603145aDoor
open Go.Lib

/-- What has been read behind k of n digits. -/
def readTo (u n k : Nat) : Nat := u / 10 ^ (n - k)

/-- The digit at place t of n. -/
def digAt (u n t : Nat) : Nat := u / 10 ^ (n - 1 - t) % 10

theorem readTo_step (u n k : Nat) (h : k < n) : readTo u n k * 10 + digAt u n k = readTo u n (k + 1) := by
  unfold readTo digAt
  have e : n - k = (n - 1 - k) + 1 := by omega
  have e2 : n - (k + 1) = n - 1 - k := by omega
  rw [e, e2, Nat.pow_succ, ← Nat.div_div_eq_div_mul]
  omega

theorem readTo_le (u n k : Nat) : readTo u n k ≤ u := Nat.div_le_self _ _

theorem readTo_zero (u : Nat) : readTo u (nDigits u) 0 = 0 := by
  unfold readTo
  exact Nat.div_eq_of_lt (lt_pow_nDigits u)

theorem readTo_end (u n : Nat) : readTo u n n = u := by
  unfold readTo; simp

theorem pow_le (u : Nat) (h : 1 ≤ u) : 10 ^ (nDigits u - 1) ≤ u := by
  induction u using Nat.strongRecOn with
  | _ u ih =>
    by_cases h10 : u < 10
    · rw [nDigits_small h10]; simpa using h
    · rw [nDigits_big h10]
      have hp := nDigits_pos (u / 10)
      have := ih (u / 10) (by omega) (by omega)
      have e : nDigits (u / 10) + 1 - 1 = (nDigits (u / 10) - 1) + 1 := by omega
      rw [e, Nat.pow_succ]
      omega

/-- The first digit of a number that is not nought is not nought. -/
theorem first_pos (u : Nat) (h : 1 ≤ u) : 1 ≤ digAt u (nDigits u) 0 := by
  unfold digAt
  have h1 := pow_le u h
  have h2 := lt_pow_nDigits u
  have hp := nDigits_pos u
  have e : nDigits u = (nDigits u - 1) + 1 := by omega
  rw [e, Nat.pow_succ] at h2
  have hpos : 0 < 10 ^ (nDigits u - 1) := Nat.pow_pos (by omega)
  have h3 : 1 ≤ u / 10 ^ (nDigits u - 1) := (Nat.le_div_iff_mul_le hpos).2 (by omega)
  have h4 : u / 10 ^ (nDigits u - 1) < 10 := (Nat.div_lt_iff_lt_mul hpos).2 (by omega)
  rw [Nat.sub_zero, Nat.mod_eq_of_lt h4]
  exact h3

theorem digAt_lt (u n t : Nat) : digAt u n t ≤ 9 := by unfold digAt; omega

theorem nDigits_le (u : Nat) (h : u < 10 ^ 20) : nDigits u ≤ 20 := by
  by_cases h1 : 1 ≤ u
  · have := pow_le u h1
    have hlt : 10 ^ (nDigits u - 1) < 10 ^ 20 := by omega
    have := (Nat.pow_lt_pow_iff_right (by omega : 1 < 10)).1 hlt
    omega
  · have : u = 0 := by omega
    subst this
    rw [nDigits_small (by omega)]; omega

theorem digits_byte (u t : Nat) (h : t < (decDigits u).length) : ((decDigits u)[t]).toNat = 48 + digAt u (nDigits u) t := by
  have hd := digAt_lt u (nDigits u) t
  simp only [decDigits_eq, List.getElem_map, List.getElem_range, dg]
  unfold digAt at *
  simp
  omega

end Go.Proofs.Qxb6603145aDoor
