/- The walk of FnGroupOfMatchesDigits. -/
import Derived.Test.Qxb6602993aRows
import Derived.Test.Qxb6602993aGroup
import Derived.WalkKit
import Derived.ProofKit
import Derived.OpenShut
import Derived.ShutString
namespace Go.Proofs.Qxb6602993a.fnGroupOfMatchesDigits
open Go.ChangeShapes Go.WideShapes Go.ChangeAt Go.RowKit

/-- What the array of digits holds behind k rounds. -/
def dcell (n k j : Nat) : Value := .int .i64 (if j < k then (dig n j : Int) else 0)

/-- The number that is left behind k rounds. -/
def left (n k : Nat) : Int := ((n / 10 ^ k : Nat) : Int)

theorem left_bd (n k : Nat) (h : n ≤ 9223372036854775808) : 0 ≤ left n k ∧ left n k ≤ 9223372036854775808 := by
  unfold left
  have := Nat.div_le_self n (10 ^ k)
  generalize n / 10 ^ k = m at *
  omega

theorem left_step (n k : Nat) : left n k / 10 = left n (k + 1) := by
  unfold left
  rw [← dig_div]; rfl

theorem left_dig (n k : Nat) : left n k % 10 = (dig n k : Int) := by
  unfold left dig; rfl

theorem dcell_start (n j : Nat) (hj : j < 20) : (List.replicate 20 (Value.int .i64 0)).toArray[j]? = some (dcell n 0 j) := by
  rw [List.getElem?_toArray, List.getElem?_replicate, if_pos hj]
  rfl

theorem dcell_step (n k j : Nat) (wr : World) (b : Nat) (hk : k < 20) (hc : ∀ j, j < 20 → wr.cell? ⟨b, j, none⟩ = some (dcell n k j)) (hj : j < 20) :
    (wr.setCell ⟨b, k, none⟩ (.int .i64 (left n k % 10))).cell? ⟨b, j, none⟩ = some (dcell n (k + 1) j) := by
  by_cases e : j = k
  · subst e
    rw [World.cell?_setCell_same _ _ _ (hc j hj), left_dig]
    simp [dcell]
  · rw [World.cell?_setCell_other _ _ _ _ (by intro h; exact e (congrArg Addr.off h).symm), hc j hj]
    unfold dcell
    by_cases h : j < k
    · rw [if_pos h, if_pos (by omega)]
    · rw [if_neg h, if_neg (by omega)]

theorem dcell_end (n j : Nat) (h : j < 20) : dcell n 20 j = .int .i64 (dig n j : Int) := by simp [dcell, h]

/-- The limbs of the first loop's relation, at a start. -/
theorem rel_start (n : Nat) (w : World) (O : Array Value) (hO : O = (List.replicate 20 (Value.int .i64 0)).toArray) (T : TypeId) :
    (∀ j, j < 20 → (w.alloc (.cells O T)).cell? ⟨w.heap.size, j, none⟩ = some (dcell n 0 j)) ∧ (∀ j, (w.alloc (.cells O T)).frozen? ⟨w.heap.size, j, none⟩ = false) ∧ Grown w (w.alloc (.cells O T)) ∧ (w.alloc (.cells O T)).heap.size = w.heap.size + 1 := by
  subst hO
  refine ⟨fun j hj => ?_, fun j => ?_, (Grown.refl _).alloc _ _, by simp⟩
  · rw [World.cell?_alloc_new]; exact dcell_start n j hj
  · exact World.frozen?_alloc_new _ _ _ _

theorem dig_bd (n p : Nat) : 0 ≤ (dig n p : Int) ∧ (dig n p : Int) ≤ 9 := by unfold dig; omega

theorem gOf_want (n : Nat) (a1 : Int) : gOf (n : Int) a1 = ((wantAt n (4 * a1.toNat) 0 : Nat) : Int) := by
  rw [gOf_pos, wantAt_end]

theorem want_step (n : Nat) (s kk : Int) (h0 : 0 ≤ s) (h : 0 ≤ kk) (h3 : kk ≤ 3) :
    (wantAt n s.toNat (kk + 1).toNat : Int) * 10 + (dig n (s + kk).toNat : Int) = (wantAt n s.toNat kk.toNat : Int) := by
  have e := wantAt_step n s.toNat kk.toNat (by omega)
  rw [show (kk + 1).toNat = kk.toNat + 1 from by omega, show (s + kk).toNat = s.toNat + kk.toNat from by omega]
  omega

theorem want_step0 (n : Nat) (s kk : Int) (hn : n ≤ 9223372036854775808) (h0 : 0 ≤ s) (h : 0 ≤ kk) (h3 : kk ≤ 3) (hs : 19 < s + kk) :
    (wantAt n s.toNat (kk + 1).toNat : Int) * 10 = (wantAt n s.toNat kk.toNat : Int) := by
  have e := want_step n s kk h0 h h3
  rw [dig_far n _ hn (by omega)] at e
  omega

theorem want_stepZ (n : Nat) (kk : Int) (h : 0 ≤ kk) (h3 : kk ≤ 3) :
    (wantAt n 0 (kk + 1).toNat : Int) * 10 + (dig n kk.toNat : Int) = (wantAt n 0 kk.toNat : Int) := by
  have e := want_step n 0 kk (by omega) h h3
  rw [Int.zero_add] at e; exact e

set_option maxHeartbeats 1000000 in
theorem walkIn (n : Nat) (a0 : Int) (a1 : Int) (h1 : -9223372036854775808 ≤ a0) (h2 : a0 ≤ 9223372036854775807) (h3 : -9223372036854775808 ≤ a1) (hbig : a1 ≤ 65536) (hp : 0 < a1) (hn : a0 = n ∨ (a0 = -n ∧ 0 < n)) (w : World) :
    Calls Try.prog 3 #[.int .i64 a0, .int .i64 a1] w fun e w' => e = .returned (.bool true) ∧ Grown w w' := by
  have hn63 : n ≤ 9223372036854775808 := by omega
  have HF : Hid ((0 ≤ a0 → gOf a0 a1 = ((wantAt n (4 * a1).toNat 0 : Nat) : Int)) ∧ (a0 < 0 → gOf a0 a1 = -((wantAt n (4 * a1).toNat 0 : Nat) : Int))) := by
    have e := gOf_want n a1
    rw [show 4 * a1.toNat = (4 * a1).toNat from by omega] at e
    rcases hn with hn | ⟨hn, _⟩
    · exact ⟨fun _ => by rw [hn, e], fun h => by omega⟩
    · exact ⟨fun h => by omega, fun h => by rw [hn, gOf_neg, e]⟩
  have hsign : (0 ≤ a0 ∧ a0 ≤ n ∧ n ≤ a0) ∨ (a0 < 0 ∧ -a0 ≤ n ∧ n ≤ -a0) := by omega
  clear hn
  rcases hsign with ⟨hs, hn', hn''⟩ | ⟨hs, hn', hn''⟩
  all_goals
    go_enter Try.func3, Try.ntmps3
    go_wp2_with (go_at_call 9; refine (zzGroupOf_any _ _ _ h1 h2 (by omega)).mono ?_; rintro e w' ⟨rfl, rfl⟩)
    rename World => w
    go_loopw [6, 8] (fun u i wr => ∃ k : Nat, k ≤ 20 ∧ i = .int .i64 k ∧ u = .int .u64 (left n k) ∧ (∀ j, j < 20 → wr.cell? ⟨w.heap.size, j, none⟩ = some (dcell n k j)) ∧ (∀ j, wr.frozen? ⟨w.heap.size, j, none⟩ = false) ∧ Grown w wr ∧ wr.heap.size = w.heap.size + 1) (fun _ i _ => 20 - (intOf i).toNat)
    case atStart =>
      refine ⟨0, by omega, rfl, ?_, rel_start n w _ rfl _⟩
      simp [left]; omega
    case round =>
      obtain ⟨k, hk, rfl, rfl, hc, hf, hg, hz⟩ := hrel
      by_cases hlt : (k : Int) < 20
      · have hck := hc k (by omega)
        have hl := left_bd n k (by omega)
        go_wp2
        go_roundw
        case rel => exact ⟨k + 1, by omega, by go_num, by rw [left_step], fun j hj => dcell_step n k j wr _ (by omega) hc hj, fun j => by rw [World.frozen?_setCell]; exact hf j, hg.setCell (Nat.le_refl _) _, by rw [World.size_setCell]; exact hz⟩
        case measure => simp [intOf]; omega
      · have e20 : k = 20 := by omega
        subst e20
        go_wp2
        go_loop [10, 11] (fun t i => ∃ kk : Int, -1 ≤ kk ∧ kk ≤ 3 ∧ i = .int .i64 kk ∧ t = .int .i64 (wantAt n (4 * a1).toNat (kk + 1).toNat : Int)) (fun _ i => (intOf i + 1).toNat)
        case atStart => exact ⟨3, by omega, by omega, rfl, by rw [show ((3 : Int) + 1).toNat = 4 from rfl, wantAt_start]; rfl⟩
        case round =>
          obtain ⟨kk, hk1, hk2, rfl, rfl⟩ := hrel
          have hwb := wantAt_bd n (4 * a1).toNat (kk + 1).toNat
          by_cases hkk : 0 ≤ kk
          · by_cases hin : 4 * a1 + kk ≤ 19
            · have hcx : wr.cell? ⟨w.heap.size, (4 * a1 + kk).toNat, none⟩ = some (.int .i64 (dig n (4 * a1 + kk).toNat : Int)) := by
                rw [hc _ (by omega), dcell_end _ _ (by omega)]
              have hdb := dig_bd n (4 * a1 + kk).toNat
              have hwb' := wantAt_bd n (4 * a1).toNat kk.toNat
              go_wp2
              go_round
              case rel => exact ⟨kk - 1, by omega, by omega, rfl, by rw [want_step n (4 * a1) kk (by omega) hkk hk2, show (kk - 1 + 1) = kk from by omega]⟩
              case measure => simp [intOf]; omega
            · go_wp2
              go_round
              case rel => exact ⟨kk - 1, by omega, by omega, rfl, by first | rw [want_step0 n (4 * a1) kk hn63 (by omega) hkk hk2 (by omega), show (kk - 1 + 1) = kk from by omega] | rw [Int.add_zero, want_step0 n (4 * a1) kk hn63 (by omega) hkk hk2 (by omega), show (kk - 1 + 1) = kk from by omega]⟩
              case measure => simp [intOf]; omega
          · have e1 : kk = -1 := by omega
            subst e1
            have hwb0 := wantAt_bd n (4 * a1).toNat 0
            go_wp2
            go_ret
            refine ⟨?_, hg⟩
            have h := HF.out
            first | rw [h.1 hs] | rw [h.2 hs]
            first | (simp; done) | (simp; rw [IntWalk.wrap64_in _ ⟨by omega, by omega⟩])
set_option maxHeartbeats 1000000 in
theorem walkZero (n : Nat) (a0 : Int) (a1 : Int) (h1 : -9223372036854775808 ≤ a0) (h2 : a0 ≤ 9223372036854775807) (h3 : -9223372036854775808 ≤ a1) (hbig : a1 ≤ 65536) (hp : a1 ≤ 0) (hn : a0 = n ∨ (a0 = -n ∧ 0 < n)) (w : World) :
    Calls Try.prog 3 #[.int .i64 a0, .int .i64 a1] w fun e w' => e = .returned (.bool true) ∧ Grown w w' := by
  have hn63 : n ≤ 9223372036854775808 := by omega
  have HF : Hid ((0 ≤ a0 → gOf a0 a1 = ((wantAt n 0 0 : Nat) : Int)) ∧ (a0 < 0 → gOf a0 a1 = -((wantAt n 0 0 : Nat) : Int))) := by
    have e := gOf_want n a1
    rw [show 4 * a1.toNat = 0 from by omega] at e
    rcases hn with hn | ⟨hn, _⟩
    · exact ⟨fun _ => by rw [hn, e], fun h => by omega⟩
    · exact ⟨fun h => by omega, fun h => by rw [hn, gOf_neg, e]⟩
  have hsign : (0 ≤ a0 ∧ a0 ≤ n ∧ n ≤ a0) ∨ (a0 < 0 ∧ -a0 ≤ n ∧ n ≤ -a0) := by omega
  clear hn
  rcases hsign with ⟨hs, hn', hn''⟩ | ⟨hs, hn', hn''⟩
  all_goals
    go_enter Try.func3, Try.ntmps3
    go_wp2_with (go_at_call 9; refine (zzGroupOf_any _ _ _ h1 h2 (by omega)).mono ?_; rintro e w' ⟨rfl, rfl⟩)
    rename World => w
    go_loopw [6, 8] (fun u i wr => ∃ k : Nat, k ≤ 20 ∧ i = .int .i64 k ∧ u = .int .u64 (left n k) ∧ (∀ j, j < 20 → wr.cell? ⟨w.heap.size, j, none⟩ = some (dcell n k j)) ∧ (∀ j, wr.frozen? ⟨w.heap.size, j, none⟩ = false) ∧ Grown w wr ∧ wr.heap.size = w.heap.size + 1) (fun _ i _ => 20 - (intOf i).toNat)
    case atStart =>
      refine ⟨0, by omega, rfl, ?_, rel_start n w _ rfl _⟩
      simp [left]; omega
    case round =>
      obtain ⟨k, hk, rfl, rfl, hc, hf, hg, hz⟩ := hrel
      by_cases hlt : (k : Int) < 20
      · have hck := hc k (by omega)
        have hl := left_bd n k (by omega)
        go_wp2
        go_roundw
        case rel => exact ⟨k + 1, by omega, by go_num, by rw [left_step], fun j hj => dcell_step n k j wr _ (by omega) hc hj, fun j => by rw [World.frozen?_setCell]; exact hf j, hg.setCell (Nat.le_refl _) _, by rw [World.size_setCell]; exact hz⟩
        case measure => simp [intOf]; omega
      · have e20 : k = 20 := by omega
        subst e20
        go_wp2
        go_loop [10, 11] (fun t i => ∃ kk : Int, -1 ≤ kk ∧ kk ≤ 3 ∧ i = .int .i64 kk ∧ t = .int .i64 (wantAt n 0 (kk + 1).toNat : Int)) (fun _ i => (intOf i + 1).toNat)
        case atStart => exact ⟨3, by omega, by omega, rfl, by rw [show ((3 : Int) + 1).toNat = 4 from rfl, wantAt_start]; rfl⟩
        case round =>
          obtain ⟨kk, hk1, hk2, rfl, rfl⟩ := hrel
          have hwb := wantAt_bd n 0 (kk + 1).toNat
          by_cases hkk : 0 ≤ kk
          · by_cases hin : kk ≤ 19
            · have hcx : wr.cell? ⟨w.heap.size, (kk).toNat, none⟩ = some (.int .i64 (dig n (kk).toNat : Int)) := by
                rw [hc _ (by omega), dcell_end _ _ (by omega)]
              have hdb := dig_bd n (kk).toNat
              have hwb' := wantAt_bd n 0 kk.toNat
              go_wp2
              go_round
              case rel => exact ⟨kk - 1, by omega, by omega, rfl, by rw [want_stepZ n kk hkk hk2, show (kk - 1 + 1) = kk from by omega]⟩
              case measure => simp [intOf]; omega
            · omega
          · have e1 : kk = -1 := by omega
            subst e1
            have hwb0 := wantAt_bd n 0 0
            go_wp2
            go_ret
            refine ⟨?_, hg⟩
            have h := HF.out
            first | rw [h.1 hs] | rw [h.2 hs]
            first | (simp; done) | (simp; rw [IntWalk.wrap64_in _ ⟨by omega, by omega⟩])
/-- The walk: the law returns true. -/
theorem walk (a0 : Int) (a1 : Int) (w0 : (Lit.int .i64 a0).wf = true) (w1 : (Lit.int .i64 a1).wf = true) (w : World) :
    Calls Try.prog 3 #[.int .i64 a0, .int .i64 a1] w fun e w' => e = .returned (.bool true) ∧ Grown w w' := by
  obtain ⟨h1, h2⟩ := bounds_i64 w0
  obtain ⟨h3, h4⟩ := bounds_i64 w1
  clear w0 w1
  by_cases hbig : 65536 < a1
  · go_enter Try.func3, Try.ntmps3
    go_wp2
    go_ret
    exact ⟨rfl, Grown.refl _⟩
  · have hn : a0 = a0.natAbs ∨ (a0 = -a0.natAbs ∧ 0 < a0.natAbs) := by omega
    by_cases hp : 0 < a1
    · exact walkIn _ a0 a1 h1 h2 h3 (by omega) hp hn w
    · exact walkZero _ a0 a1 h1 h2 h3 (by omega) (by omega) hn w
end Go.Proofs.Qxb6602993a.fnGroupOfMatchesDigits
