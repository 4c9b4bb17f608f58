/- The plain mathematics of groupOf: no Go in sight. -/
import Derived.RowKit
namespace Go.Proofs.Qxb6602993a
open Go.RowKit

/-- groupOf's answer. -/
def gOf (y g : Int) : Int := (y.tdiv (10000 ^ g.toNat)).tmod 10000

theorem tdiv_pos (n d : Nat) : (n : Int).tdiv (d : Int) = ((n / d : Nat) : Int) := by
  rw [Int.tdiv_eq_ediv_of_nonneg (by omega)]; rfl

theorem pow_cast (k : Nat) : (10000 : Int) ^ k = ((10000 ^ k : Nat) : Int) := by
  simp

theorem gOf_pos (n : Nat) (g : Int) : gOf (n : Int) g = ((n / 10000 ^ g.toNat % 10000 : Nat) : Int) := by
  unfold gOf
  rw [pow_cast, tdiv_pos, Int.tmod_eq_emod_of_nonneg (Int.natCast_nonneg _)]
  rfl

theorem gOf_neg (y g : Int) : gOf (-y) g = - gOf y g := by
  unfold gOf
  rw [Int.neg_tdiv, Int.neg_tmod]

/-- One division more. -/
theorem tdiv_step (y : Int) (k : Nat) : (y.tdiv (10000 ^ k)).tdiv 10000 = y.tdiv (10000 ^ (k + 1)) := by
  have pos : ∀ n : Nat, ((n : Int).tdiv (10000 ^ k)).tdiv 10000 = (n : Int).tdiv (10000 ^ (k + 1)) := by
    intro n
    rw [pow_cast, pow_cast, tdiv_pos, tdiv_pos]
    have h := tdiv_pos (n / 10000 ^ k) 10000
    have e : ((10000 : Nat) : Int) = 10000 := rfl
    rw [e] at h
    rw [h, Nat.div_div_eq_div_mul, Nat.pow_succ]
  rcases Int.eq_nat_or_neg y with ⟨n, rfl | rfl⟩
  · exact pos n
  · rw [Int.neg_tdiv, Int.neg_tdiv, Int.neg_tdiv, pos n]

theorem tdiv_bd (y d : Int) (h1 : -9223372036854775808 ≤ y) (h2 : y ≤ 9223372036854775807) (hd : 1 < d) :
    -9223372036854775808 ≤ y.tdiv d ∧ y.tdiv d ≤ 9223372036854775807 := by
  have pos : ∀ n : Nat, (n : Int).tdiv d ≤ n ∧ 0 ≤ (n : Int).tdiv d := by
    intro n
    rw [Int.tdiv_eq_ediv_of_nonneg (by omega)]
    exact ⟨Int.ediv_le_self _ (by omega), Int.ediv_nonneg (by omega) (by omega)⟩
  rcases Int.eq_nat_or_neg y with ⟨n, rfl | rfl⟩
  · have := pos n; omega
  · rw [Int.neg_tdiv]
    have := pos n
    omega

theorem tdiv_wrap (y : Int) (k : Nat) (h1 : -9223372036854775808 ≤ y) (h2 : y ≤ 9223372036854775807) :
    wrap64 ((y.tdiv (10000 ^ k)).tdiv 10000) = y.tdiv (10000 ^ (k + 1)) := by
  rw [tdiv_step]
  have h := tdiv_bd y (10000 ^ (k + 1)) h1 h2 (by
    rw [pow_cast]
    have : (1 : Nat) < 10000 ^ (k + 1) := Nat.one_lt_pow (by omega) (by omega)
    omega)
  unfold wrap64
  omega

/-! ### FnGroupOfRebuildsYuan -/
theorem gOf_bd (y g : Int) : -10000 < gOf y g ∧ gOf y g < 10000 := by
  rcases Int.eq_nat_or_neg y with ⟨n, rfl | rfl⟩
  · rw [gOf_pos]; omega
  · rw [gOf_neg, gOf_pos]; omega

theorem gOf_sign (y g : Int) : (0 ≤ y → 0 ≤ gOf y g) ∧ (y ≤ 0 → gOf y g ≤ 0) := by
  rcases Int.eq_nat_or_neg y with ⟨n, rfl | rfl⟩
  · rw [gOf_pos]
    refine ⟨fun _ => by omega, fun h => ?_⟩
    have : n = 0 := by omega
    subst this; simp
  · rw [gOf_neg, gOf_pos]
    refine ⟨fun h => ?_, fun _ => by omega⟩
    have : n = 0 := by omega
    subst this; simp

theorem tmod_step (y : Int) (k : Nat) : y.tmod (10000 ^ k) + gOf y k * 10000 ^ k = y.tmod (10000 ^ (k + 1)) := by
  have h1 := Int.mul_tdiv_add_tmod y (10000 ^ k)
  have h2 := Int.mul_tdiv_add_tmod y (10000 ^ (k + 1))
  have h3 := Int.mul_tdiv_add_tmod (y.tdiv (10000 ^ k)) 10000
  rw [tdiv_step] at h3
  have h4 : gOf y k = (y.tdiv (10000 ^ k)).tmod 10000 := by unfold gOf; simp
  rw [← h4] at h3
  rw [← h3, Int.mul_add] at h1
  have h5 : (10000 : Int) ^ k * (10000 * y.tdiv (10000 ^ (k + 1))) = 10000 ^ (k + 1) * y.tdiv (10000 ^ (k + 1)) := by
    rw [← Int.mul_assoc, ← Int.pow_succ]
  rw [h5] at h1
  rw [Int.mul_comm (gOf y k)]
  omega

theorem tmod_bd (y d : Int) : (0 ≤ y → 0 ≤ y.tmod d ∧ y.tmod d ≤ y) ∧ (y ≤ 0 → y ≤ y.tmod d ∧ y.tmod d ≤ 0) := by
  have pos : ∀ n : Nat, 0 ≤ (n : Int).tmod d ∧ (n : Int).tmod d ≤ n := by
    intro n
    have e := Int.natAbs_tmod (n : Int) d
    have h0 := Int.tmod_nonneg d (Int.natCast_nonneg n)
    have := Nat.mod_le n d.natAbs
    rw [Int.natAbs_natCast] at e
    omega
  rcases Int.eq_nat_or_neg y with ⟨n, rfl | rfl⟩
  · have := pos n; omega
  · rw [Int.neg_tmod]; have := pos n; omega

/-- The place value that the law carries. -/
def place (k : Nat) : Int := 10000 ^ (min k 4)

theorem sum_step (y : Int) (k : Nat) (hk : k < 5) (h1 : -9223372036854775808 ≤ y) (h2 : y ≤ 9223372036854775807) :
    wrap64 (y.tmod (10000 ^ k) + wrap64 (gOf y k * place k)) = y.tmod (10000 ^ (k + 1)) := by
  have e : place k = 10000 ^ k := by unfold place; rw [Nat.min_eq_left (by omega)]
  rw [e]
  have hs := tmod_step y k
  have hb := tmod_bd y (10000 ^ (k + 1))
  rw [← hs] at hb ⊢
  generalize gOf y k * 10000 ^ k = b at *
  generalize y.tmod (10000 ^ k) = a at *
  unfold wrap64
  omega

theorem place_step (k : Nat) (hk : k < 4) : wrap64 (place k * 10000) = place (k + 1) := by
  match k, hk with
  | 0, _ => simp [place, wrap64]
  | 1, _ => simp [place, wrap64]
  | 2, _ => simp [place, wrap64]
  | 3, _ => simp [place, wrap64]

theorem sum_end (y : Int) (h1 : -9223372036854775808 ≤ y) (h2 : y ≤ 9223372036854775807) : y.tmod (10000 ^ 5) = y := by
  have pos : ∀ n : Nat, n ≤ 9223372036854775808 → (n : Int).tmod (10000 ^ 5) = n := by
    intro n hn
    rw [Int.tmod_eq_emod_of_nonneg (by omega)]
    exact Int.emod_eq_of_lt (by omega) (by omega)
  rcases Int.eq_nat_or_neg y with ⟨n, rfl | rfl⟩
  · exact pos n (by omega)
  · rw [Int.neg_tmod, pos n (by omega)]

theorem gOf_five (y : Int) (h1 : -9223372036854775808 ≤ y) (h2 : y ≤ 9223372036854775807) : gOf y 5 = 0 := by
  have pos : ∀ n : Nat, n ≤ 9223372036854775808 → gOf (n : Int) 5 = 0 := by
    intro n hn
    rw [gOf_pos, show (5 : Int).toNat = 5 from rfl, Nat.div_eq_of_lt (by omega)]
    rfl
  rcases Int.eq_nat_or_neg y with ⟨n, rfl | rfl⟩
  · exact pos n (by omega)
  · rw [gOf_neg, pos n (by omega)]; rfl

/-! ### FnGroupOfMatchesDigits -/
/-- One decimal digit of a natural number. -/
def dig (n p : Nat) : Nat := n / 10 ^ p % 10

theorem dig_div (n p : Nat) : n / 10 ^ p / 10 = n / 10 ^ (p + 1) := by
  rw [Nat.div_div_eq_div_mul, Nat.pow_succ]

theorem dig_far (n p : Nat) (hn : n ≤ 9223372036854775808) (hp : 20 ≤ p) : dig n p = 0 := by
  unfold dig
  have h1 : 10 ^ 20 ≤ 10 ^ p := Nat.pow_le_pow_right (by omega) hp
  have h2 : n < 10 ^ 20 := by omega
  rw [Nat.div_eq_of_lt (by omega)]

/-- The digits from 's + j' up to 's + 3', read as a number. -/
def wantAt (n s j : Nat) : Nat := n / 10 ^ (s + j) % 10 ^ (4 - j)

theorem wantAt_bd (n s j : Nat) : wantAt n s j < 10000 := by
  unfold wantAt
  have h1 : n / 10 ^ (s + j) % 10 ^ (4 - j) < 10 ^ (4 - j) := Nat.mod_lt _ (Nat.pow_pos (by omega))
  have h2 : 10 ^ (4 - j) ≤ 10 ^ 4 := Nat.pow_le_pow_right (by omega) (by omega)
  omega

theorem wantAt_start (n s : Nat) : wantAt n s 4 = 0 := by
  unfold wantAt; simp [Nat.mod_one]

theorem wantAt_step (n s j : Nat) (hj : j < 4) : wantAt n s (j + 1) * 10 + dig n (s + j) = wantAt n s j := by
  unfold wantAt dig
  have e : n / 10 ^ (s + (j + 1)) = n / 10 ^ (s + j) / 10 := by
    rw [dig_div]; rfl
  rw [e]
  generalize n / 10 ^ (s + j) = m
  have h : 4 - j = (4 - (j + 1)) + 1 := by omega
  rw [h, Nat.pow_succ, Nat.mul_comm (10 ^ _) 10, Nat.mod_mul]
  omega

theorem wantAt_end (n g : Nat) : wantAt n (4 * g) 0 = n / 10000 ^ g % 10000 := by
  unfold wantAt
  rw [Nat.add_zero, Nat.pow_mul]

end Go.Proofs.Qxb6602993a
