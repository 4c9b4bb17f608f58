/- The contracts of zzB1Pos, zzB1SortedHas, zzB1Contains. -/
import Derived.Test.Qxb6603374aClone
namespace Go.Proofs.Qxb6603374a
open Go.ChangeShapes Go.WideShapes Go.ChangeAt Go.RowKit

/-- Strictly ascending. -/
def Asc (zs : List Int) : Prop := ∀ i j, i < j → j < zs.length → zs.getD i 0 < zs.getD j 0
/-- The place of t in a row, -1 where it is not there. -/
def IsPos (zs : List Int) (t r : Int) : Prop := (r = -1 ∧ ∀ i, i < zs.length → zs.getD i 0 ≠ t) ∨ ∃ i : Nat, i < zs.length ∧ r = (i : Int) ∧ zs.getD i 0 = t
/-- t stands in the row. -/
def Has (zs : List Int) (t : Int) : Prop := ∃ i, i < zs.length ∧ zs.getD i 0 = t
/-- The search has come to [lo, hi). -/
structure Half (zs : List Int) (t : Int) (lo hi : Nat) : Prop where
  le : lo ≤ hi
  top : hi ≤ zs.length
  low : ∀ i, i < lo → zs.getD i 0 < t
  high : ∀ i, hi ≤ i → i < zs.length → t ≤ zs.getD i 0
theorem Half.start (zs : List Int) (t : Int) : Half zs t 0 zs.length := ⟨Nat.zero_le _, Nat.le_refl _, fun _ h => absurd h (Nat.not_lt_zero _), fun i h1 h2 => by omega⟩
theorem Half.up {zs : List Int} {t : Int} {lo hi md : Nat} (h : Half zs t lo hi) (ha : Asc zs) (h1 : lo ≤ md) (h2 : md < hi) (h3 : zs.getD md 0 < t) : Half zs t (md + 1) hi := by
  refine ⟨by omega, h.top, fun i hi' => ?_, h.high⟩
  by_cases e : i = md
  · subst e; exact h3
  · have := ha i md (by omega) (by have := h.top; omega)
    omega
theorem Half.down {zs : List Int} {t : Int} {lo hi md : Nat} (h : Half zs t lo hi) (ha : Asc zs) (h1 : lo ≤ md) (h2 : md < hi) (h3 : ¬ zs.getD md 0 < t) : Half zs t lo md := by
  refine ⟨h1, by have := h.top; omega, h.low, fun i hi' hl => ?_⟩
  by_cases e : i = md
  · subst e; omega
  · have := ha md i (by omega) hl
    omega
theorem Half.miss {zs : List Int} {t : Int} {lo : Nat} (h : Half zs t lo lo) (ha : Asc zs) (hn : ¬ (lo < zs.length ∧ zs.getD lo 0 = t)) : ∀ i, i < zs.length → zs.getD i 0 ≠ t := fun i hi e => by
  by_cases c : i < lo
  · have := h.low i c; omega
  · have h1 := h.high i (by omega) hi
    by_cases e2 : i = lo
    · subst e2; exact hn ⟨hi, e⟩
    · have h2 := ha lo i (by omega) hi
      have h3 := h.high lo (Nat.le_refl _) (by omega)
      omega

def PosEnd (zs : List Int) (t : Int) (w : World) (e : Ending) (w' : World) : Prop := ∃ r : Int, e = .returned (.int .i64 r) ∧ IsPos zs t r ∧ w' = w

set_option maxRecDepth 100000 in
set_option maxHeartbeats 1000000 in
theorem pos_any (a : Option Addr) (c n : Nat) (zs : List Int) (t : Int) (w : World) (hR : Row w a zs) (hn : zs.length = n) (hb : n ≤ 1048576) (ha : Asc zs) :
    Calls Try.prog 26 #[.slice a n c, .int .i64 t] w fun e w' => PosEnd zs t w e w' := by
  have HR := hidden hR
  have HN := hidden hn
  have HA := hidden ha
  clear hR hn ha
  go_enter Try.func26, Try.ntmps26
  go_wp2
  go_loop [5, 6] (fun l h => ∃ lo hi : Nat, l = .int .i64 (lo : Int) ∧ h = .int .i64 (hi : Int) ∧ lo ≤ hi ∧ hi ≤ n ∧ Hid (Half zs t lo hi)) (fun l h => (intOf h).toNat - (intOf l).toNat)
  case atStart => exact ⟨0, n, rfl, rfl, by omega, by omega, by rw [← HN.out]; exact Half.start zs t⟩
  case round =>
    obtain ⟨lo, hi, rfl, rfl, h1, h2, HH⟩ := hrel
    by_cases hlt : (lo : Int) < hi
    · obtain ⟨q, hq⟩ : ∃ q : Nat, ((hi : Int) - lo) / 2 = (q : Int) := ⟨(((hi : Int) - lo) / 2).toNat, by omega⟩
      have hq2 : Int.tdiv ((hi : Int) - lo) 2 = (q : Int) := by rw [← hq]; exact Int.tdiv_eq_ediv_of_nonneg (by omega)
      obtain ⟨md, hmd⟩ : ∃ md : Nat, (lo : Int) + (q : Int) = (md : Int) := ⟨lo + q, by omega⟩
      have hm1 : lo ≤ md := by omega
      have hm2 : md < hi := by omega
      obtain ⟨b, o, hra, hc, hi64⟩ := HR.out md (by rw [HN.out]; omega)
      subst hra
      obtain ⟨X, hX⟩ : ∃ X, zs.getD md 0 = X := ⟨_, rfl⟩
      rw [hX] at hc hi64
      have HX := hidden hX
      have hmb : md ≤ 1048576 := by omega
      have hqb : q ≤ 1048576 := by omega
      clear hX hq
      by_cases hc1 : X < t
      · go_wp2
        go_round
        case rel => exact ⟨md + 1, hi, by go_num, rfl, by omega, by omega, HH.out.up HA.out hm1 hm2 (by rw [HX.out]; exact hc1)⟩
        case measure => simp [intOf]; omega
      · go_wp2
        go_round
        case rel => exact ⟨lo, md, rfl, by go_num, by omega, by omega, HH.out.down HA.out hm1 hm2 (by rw [HX.out]; omega)⟩
        case measure => simp [intOf]; omega
    · have e : lo = hi := by omega
      subst e
      by_cases hl : lo < n
      · obtain ⟨b, o, hra, hc, hi64⟩ := HR.out lo (by rw [HN.out]; omega)
        subst hra
        obtain ⟨X, hX⟩ : ∃ X, zs.getD lo 0 = X := ⟨_, rfl⟩
        rw [hX] at hc hi64
        have HX := hidden hX
        clear hX
        have hl' : (lo : Int) < n := by omega
        by_cases hc1 : X = t
        · have hc2 : (X == t) = true := by simp [hc1]
          go_wp2
          go_ret
          exact ⟨lo, rfl, .inr ⟨lo, by rw [HN.out]; exact hl, rfl, by rw [HX.out]; exact hc1⟩, rfl⟩
        · have hc2 : (X == t) = false := by simp [hc1]
          go_wp2
          go_ret
          exact ⟨-1, rfl, .inl ⟨rfl, HH.out.miss HA.out (fun h => hc1 (by rw [← HX.out]; exact h.2))⟩, rfl⟩
      · go_wp2
        go_ret
        exact ⟨-1, rfl, .inl ⟨rfl, HH.out.miss HA.out (fun h => hl (by rw [← HN.out]; exact h.1))⟩, rfl⟩
set_option maxRecDepth 100000 in
set_option maxHeartbeats 1000000 in
theorem sorted_any (a : Option Addr) (c n : Nat) (zs : List Int) (t : Int) (w : World) (hR : Row w a zs) (hn : zs.length = n) (hb : n ≤ 1048576) (ha : Asc zs) :
    Calls Try.prog 28 #[.slice a n c, .int .i64 t] w fun e w' => BoolEnd (fun r => r = true ↔ Has zs t) w e w' := by
  have HR := hidden hR
  have HN := hidden hn
  have HA := hidden ha
  clear hR hn ha
  go_enter Try.func28, Try.ntmps28
  go_wp2
  go_loop [5, 6] (fun l h => ∃ lo hi : Nat, l = .int .i64 (lo : Int) ∧ h = .int .i64 (hi : Int) ∧ lo ≤ hi ∧ hi ≤ n ∧ Hid (Half zs t lo hi)) (fun l h => (intOf h).toNat - (intOf l).toNat)
  case atStart => exact ⟨0, n, rfl, rfl, by omega, by omega, by rw [← HN.out]; exact Half.start zs t⟩
  case round =>
    obtain ⟨lo, hi, rfl, rfl, h1, h2, HH⟩ := hrel
    by_cases hlt : (lo : Int) < hi
    · obtain ⟨q, hq⟩ : ∃ q : Nat, ((hi : Int) - lo) / 2 = (q : Int) := ⟨(((hi : Int) - lo) / 2).toNat, by omega⟩
      have hq2 : Int.tdiv ((hi : Int) - lo) 2 = (q : Int) := by rw [← hq]; exact Int.tdiv_eq_ediv_of_nonneg (by omega)
      obtain ⟨md, hmd⟩ : ∃ md : Nat, (lo : Int) + (q : Int) = (md : Int) := ⟨lo + q, by omega⟩
      have hm1 : lo ≤ md := by omega
      have hm2 : md < hi := by omega
      obtain ⟨b, o, hra, hc, hi64⟩ := HR.out md (by rw [HN.out]; omega)
      subst hra
      obtain ⟨X, hX⟩ : ∃ X, zs.getD md 0 = X := ⟨_, rfl⟩
      rw [hX] at hc hi64
      have HX := hidden hX
      have hmb : md ≤ 1048576 := by omega
      have hqb : q ≤ 1048576 := by omega
      clear hX hq
      by_cases hc1 : X < t
      · go_wp2
        go_round
        case rel => exact ⟨md + 1, hi, by go_num, rfl, by omega, by omega, HH.out.up HA.out hm1 hm2 (by rw [HX.out]; exact hc1)⟩
        case measure => simp [intOf]; omega
      · go_wp2
        go_round
        case rel => exact ⟨lo, md, rfl, by go_num, by omega, by omega, HH.out.down HA.out hm1 hm2 (by rw [HX.out]; omega)⟩
        case measure => simp [intOf]; omega
    · have e : lo = hi := by omega
      subst e
      by_cases hl : lo < n
      · obtain ⟨b, o, hra, hc, hi64⟩ := HR.out lo (by rw [HN.out]; omega)
        subst hra
        obtain ⟨X, hX⟩ : ∃ X, zs.getD lo 0 = X := ⟨_, rfl⟩
        rw [hX] at hc hi64
        have HX := hidden hX
        clear hX
        have hl' : (lo : Int) < n := by omega
        by_cases hc1 : X = t
        · have hc2 : (X == t) = true := by simp [hc1]
          go_wp2
          go_ret
          exact BoolEnd.mk true rfl ⟨fun _ => ⟨lo, by rw [HN.out]; exact hl, by rw [HX.out]; exact hc1⟩, fun _ => rfl⟩ rfl
        · have hc2 : (X == t) = false := by simp [hc1]
          go_wp2
          go_ret
          exact BoolEnd.mk false rfl ⟨fun h => (by cases h), fun ⟨i, h1, h2⟩ => absurd h2 (HH.out.miss HA.out (fun h => hc1 (by rw [← HX.out]; exact h.2)) i h1)⟩ rfl
      · go_wp2
        go_ret
        exact BoolEnd.mk false rfl ⟨fun h => (by cases h), fun ⟨i, h1, h2⟩ => absurd h2 (HH.out.miss HA.out (fun h => hl (by rw [← HN.out]; exact h.1)) i h1)⟩ rfl

set_option maxRecDepth 100000 in
set_option maxHeartbeats 1000000 in
theorem contains_any (a : Option Addr) (c n : Nat) (zs : List Int) (t : Int) (w : World) (hR : Row w a zs) (hn : zs.length = n) (hb : n ≤ 1048576) :
    Calls Try.prog 31 #[.slice a n c, .int .i64 t] w fun e w' => BoolEnd (fun r => r = true ↔ Has zs t) w e w' := by
  have HR := hidden hR
  have HN := hidden hn
  clear hR hn
  go_enter Try.func31, Try.ntmps31
  go_wp2
  go_loop [5] (fun i => ∃ k : Nat, k ≤ n ∧ i = .int .i64 (k : Int) ∧ Hid (∀ i, i < k → zs.getD i 0 ≠ t)) (fun i => n - (intOf i).toNat)
  case atStart => exact ⟨0, by omega, rfl, fun i h => absurd h (Nat.not_lt_zero _)⟩
  case round =>
    obtain ⟨k, hk, rfl, HK⟩ := hrel
    by_cases hlt : (k : Int) < n
    · obtain ⟨b, o, hra, hc, hi64⟩ := HR.out k (by rw [HN.out]; omega)
      subst hra
      obtain ⟨X, hX⟩ : ∃ X, zs.getD k 0 = X := ⟨_, rfl⟩
      rw [hX] at hc hi64
      have HX := hidden hX
      clear hX
      by_cases hc1 : X = t
      · have hc2 : (X == t) = true := by simp [hc1]
        go_wp2
        go_ret
        exact BoolEnd.mk true rfl ⟨fun _ => ⟨k, by rw [HN.out]; omega, by rw [HX.out]; exact hc1⟩, fun _ => rfl⟩ rfl
      · have hc2 : (X == t) = false := by simp [hc1]
        go_wp2
        go_round
        case rel =>
          refine ⟨k + 1, by omega, by go_num, fun i hi => ?_⟩
          by_cases e : i = k
          · subst e; rw [HX.out]; exact hc1
          · exact HK.out i (by omega)
        case measure => simp [intOf]; omega
    · go_wp2
      go_ret
      exact BoolEnd.mk false rfl ⟨fun h => (by cases h), fun ⟨i, h1, h2⟩ => absurd h2 (HK.out i (by rw [HN.out] at h1; omega))⟩ rfl

set_option maxRecDepth 100000 in
set_option maxHeartbeats 1000000 in
/-- Two rows of the same numbers are found the same. -/
theorem eq_any (a a' : Option Addr) (c c' n : Nat) (zs : List Int) (w : World) (hR : Row w a zs) (hR' : Row w a' zs) (hn : zs.length = n) (hb : n ≤ 1048576) :
    Calls Try.prog 25 #[.slice a n c, .slice a' n c'] w fun e w' => BoolKept (fun r => r = true) w e w' := by
  have HR := hidden hR
  have HR' := hidden hR'
  have HN := hidden hn
  clear hR hn hR'
  go_enter Try.func25, Try.ntmps25
  go_wp2
  go_loopw [5] (fun i wr => ∃ k : Nat, k ≤ n ∧ i = .int .i64 (k : Int) ∧ Hid (Below w.heap.size w wr)) (fun i _ => n - (intOf i).toNat)
  case atStart => exact ⟨0, by omega, rfl, Below.refl _ _⟩
  case round =>
    obtain ⟨k, hk, rfl, HB⟩ := hrel
    by_cases hlt : (k : Int) < n
    · obtain ⟨b, o, hra, hc, hi64⟩ := HR.out.kept HB.out k (by rw [HN.out]; omega)
      obtain ⟨b', o', hra', hc', -⟩ := HR'.out.kept HB.out k (by rw [HN.out]; omega)
      subst hra hra'
      obtain ⟨X, hX⟩ : ∃ X, zs.getD k 0 = X := ⟨_, rfl⟩
      rw [hX] at hc hi64 hc'
      clear hX
      go_wp2
      go_quiet (fail)
      go_wp2
      go_roundw
      case rel => exact ⟨k + 1, by omega, by go_num, below_drewN HB.out _⟩
      case measure => simp [intOf]; omega
    · go_wp2
      go_ret
      exact BoolKept.mk true rfl rfl HB.out
end Go.Proofs.Qxb6603374a
