/- The contract of decodeList at one modulus. -/
import Derived.Test.Qxb6603826aRows
import Derived.Test.Qxb6603826aEncode
import Derived.WalkKit
import Derived.ProofKit
import Derived.OpenShut
import Derived.WalkSpells
import Derived.Deep.OwnRows
import Derived.Deep.QuietTactic
import Derived.BigQuiet
import Derived.Laws.BitsAllLaws
namespace Go.Proofs.Qxb6603826a
open Go.ChangeShapes Go.WideShapes Go.ChangeAt Go.RowKit

/-- The row of block G reads as the bytes BS. -/
def BytesAt (w : World) (G : Nat) (BS : List Nat) : Prop := ∀ i, i < BS.length → w.cell? ⟨G, i, none⟩ = some (.int .u8 (BS.getD i 0 : Nat))

/-- What is left of N bytes behind p of them: Go does not point behind an array's end. -/
def bval (G N p : Nat) : Value := .slice (some ⟨G, min p (N - 1), none⟩) (N - p) (N - p)

/-- What decodeList hands back. -/
def DecEnd (w : World) (G N p : Nat) (vs : List Nat) (e : Ending) (w' : World) : Prop :=
  ∃ v, e = .returned (.tuple #[v, bval G N p]) ∧ w'.ownsRow w.heap.size 24 1 v vs.length (U32 vs) ∧ Below w.heap.size w w'

theorem bytesOf_get (v j q : Nat) (h : q < j) : (bytesOf v j).getD q 0 = v / 256 ^ q % 256 := by
  induction j generalizing v q with
  | zero => omega
  | succ j ih =>
    cases q with
    | zero => simp [bytesOf]
    | succ q =>
      have := ih (v / 256) q (by omega)
      simp only [bytesOf, List.getD_cons_succ, this]
      rw [Nat.div_div_eq_div_mul, Nat.pow_succ, Nat.mul_comm]

theorem get_at {BS l tail : List Nat} {p q : Nat} (h : BS.drop p = l ++ tail) (hq : q < l.length) : p + q < BS.length ∧ BS.getD (p + q) 0 = l.getD q 0 := by
  have hlen : BS.length - p = l.length + tail.length := by rw [← List.length_drop, h, List.length_append]
  have h1 : (BS.drop p)[q]? = l[q]? := by rw [h, List.getElem?_append_left hq]
  rw [List.getElem?_drop] at h1
  exact ⟨by omega, by simp [List.getD, h1]⟩

theorem or_high (y B : Int) (h0 : 0 ≤ y) (h1 : y < 256) (h2 : 0 ≤ B) (h3 : B ≤ 255) : bits BinOp.or IntKind.u32 y (B * 256) = y + B * 256 := by
  rw [u32_or y (B * 256) h0 (by omega) (by omega) (by omega)]
  have e := Nat.two_pow_add_eq_or_of_lt (i := 8) (b := y.toNat) (by omega) B.toNat
  have e2 : (B * 256).toNat = 2 ^ 8 * B.toNat := by omega
  rw [e2, Nat.or_comm, ← e]
  omega

theorem or_zero (B : Int) (h2 : 0 ≤ B) (h3 : B ≤ 255) : bits BinOp.or IntKind.u32 0 B = B := by
  rw [u32_or 0 B (by omega) (by omega) h2 (by omega)]
  simp; omega

/-- A slice of one new word. -/
theorem own_one (w : World) (x : Nat) : (w.alloc (.cells #[.int .u32 (x : Int)] 24)).ownsRow w.heap.size 24 1 (.slice (some ⟨w.heap.size, 0, none⟩) 1 1) 1 (U32 [x]) :=
  ⟨rfl, .inr ⟨w.heap.size, 1, _, rfl, Nat.le_refl _, heap_alloc_new w _, Nat.le_refl _, by simp [maxLen], rfl, rfl⟩⟩

theorem mod_zero_step (V : Nat) : V % 256 ^ (0 + 1) = V / 256 ^ 0 % 256 := by simp
theorem mod_one_step (V : Nat) : V % 256 ^ (1 + 1) = V % 256 ^ 1 + V / 256 ^ 1 % 256 * 256 := by
  simp only [Nat.pow_succ, Nat.pow_zero]; omega

set_option maxRecDepth 100000 in
set_option maxHeartbeats 1000000 in
theorem dec_one (G o l mb mc p V M : Nat) (BS tail : List Nat) (w : World) (hB : BytesAt w G BS) (ho : o = min p (BS.length - 1)) (hl : l = BS.length - p) (hmb : w.cell? ⟨mb, 0, none⟩ = some (.int .u32 (M : Int)))
    (hM1 : 1 ≤ M) (hM2 : M < 16384) (hV : V < M) (hd : BS.drop p = bytesOf V (k1 M) ++ tail) (hN : BS.length ≤ 100000) :
    Calls Try.prog 21 #[.slice (some ⟨G, o, none⟩) l l, .slice (some ⟨mb, 0, none⟩) 1 mc] w fun e w' => DecEnd w G BS.length (p + k1 M) [V] e w' := by
  obtain ⟨MM, hMM⟩ : ∃ MM : Int, MM = (M : Int) := ⟨_, rfl⟩
  rw [← hMM] at hmb
  have HM : Hid (MM = (M : Int)) := hMM
  have hm1 : 1 ≤ MM := by omega
  have hm2 : MM < 16384 := by omega
  have HO : Hid (o = min p (BS.length - 1) ∧ l = BS.length - p) := ⟨ho, hl⟩
  clear hMM ho hl
  go_enter Try.func21, Try.ntmps21
  go_wp2
  go_loop [0, 6, 7, 8] (fun b v s n => ∃ (q o l : Nat) (y z : Int), q ≤ k1 M ∧ b = .slice (some ⟨G, o, none⟩) l l ∧ v = .int .u32 y ∧ s = .int .i64 (8 * (q : Int)) ∧ n = .int .u32 z ∧
      Hid (y = ((V % 256 ^ q : Nat) : Int) ∧ z = (downs q M : Int) ∧ o = min (p + q) (BS.length - 1) ∧ l = BS.length - (p + q)) ∧ 0 ≤ y ∧ y ≤ 65535 ∧ 1 ≤ z ∧ z ≤ 16384) (fun _ _ _ n => (intOf n).toNat)
  case atStart => exact ⟨0, o, l, 0, MM, by omega, rfl, rfl, rfl, rfl, ⟨by simp [Nat.mod_one], by have := HM.out; simpa [downs] using this, by have := HO.out; simpa using this.1, by have := HO.out; simpa using this.2⟩, by omega, by omega, by omega, by omega⟩
  case round =>
    obtain ⟨q, o, l, y, z, hq, rfl, rfl, rfl, rfl, HH, hy0, hy1, hz0, hz1⟩ := hrel
    by_cases hqk : q < k1 M
    · have hz2 : 1 < z := by have := HH.out; have := downs_big1 q _ hqk; omega
      have hg := get_at hd (q := q) (by rw [bytesOf_length]; exact hqk)
      rw [bytesOf_get _ _ _ hqk] at hg
      have hk2 : k1 M ≤ 2 := by unfold k1; split; omega; split <;> omega
      have hlp : 0 < (l : Int) := by have := HH.out; omega
      have hc : w.cell? ⟨G, o, none⟩ = some (.int .u8 ((V / 256 ^ q % 256 : Nat) : Int)) := by
        have e : o = p + q := by have := HH.out; omega
        rw [e, hB _ hg.1, hg.2]
      obtain ⟨B, hBB⟩ : ∃ B : Int, B = ((V / 256 ^ q % 256 : Nat) : Int) := ⟨_, rfl⟩
      rw [← hBB] at hc
      have hB0 : 0 ≤ B := by omega
      have hB1 : B ≤ 255 := by omega
      have HB := hidden hBB
      clear hBB hg
      match q, hq, hqk, HH, HB with
      | 0, hq, hqk, HH, HB =>
        by_cases hl1 : l = 1
        · subst hl1
          go_wp2
          go_round
          case rel =>
            have hh := HH.out
            have hb := HB.out
            have hs := mod_zero_step V
            have hy : y = 0 := by have := hh.1; simpa [Nat.mod_one] using this
            refine ⟨0 + 1, o, 0, _, _, by omega, rfl, rfl, rfl, rfl, ⟨by rw [hy, or_zero _ hB0 hB1]; omega, by simp only [downs] at hh ⊢; unfold down at *; omega, by omega, by omega⟩, by rw [hy, or_zero _ hB0 hB1]; omega, by rw [hy, or_zero _ hB0 hB1]; omega, by omega, by omega⟩
          case measure => simp [intOf]; omega
        · go_wp2
          go_round
          case rel =>
            have hh := HH.out
            have hb := HB.out
            have hs := mod_zero_step V
            have hy : y = 0 := by have := hh.1; simpa [Nat.mod_one] using this
            refine ⟨0 + 1, o + 1, l - 1, _, _, by omega, rfl, rfl, rfl, rfl, ⟨by rw [hy, or_zero _ hB0 hB1]; omega, by simp only [downs] at hh ⊢; unfold down at *; omega, by omega, by omega⟩, by rw [hy, or_zero _ hB0 hB1]; omega, by rw [hy, or_zero _ hB0 hB1]; omega, by omega, by omega⟩
          case measure => simp [intOf]; omega
      | 1, hq, hqk, HH, HB =>
        by_cases hl1 : l = 1
        · subst hl1
          go_wp2
          go_round
          case rel =>
            have hh := HH.out
            have hb := HB.out
            have hs := mod_one_step V
            have hy : y < 256 := by have := hh.1; simp only [Nat.pow_one] at this; omega
            refine ⟨1 + 1, o, 0, _, _, by omega, rfl, rfl, rfl, rfl, ⟨by rw [or_high _ _ hy0 hy hB0 hB1]; omega, by simp only [downs] at hh ⊢; unfold down at *; omega, by omega, by omega⟩, by rw [or_high _ _ hy0 hy hB0 hB1]; omega, by rw [or_high _ _ hy0 hy hB0 hB1]; omega, by omega, by omega⟩
          case measure => simp [intOf]; omega
        · go_wp2
          go_round
          case rel =>
            have hh := HH.out
            have hb := HB.out
            have hs := mod_one_step V
            have hy : y < 256 := by have := hh.1; simp only [Nat.pow_one] at this; omega
            refine ⟨1 + 1, o + 1, l - 1, _, _, by omega, rfl, rfl, rfl, rfl, ⟨by rw [or_high _ _ hy0 hy hB0 hB1]; omega, by simp only [downs] at hh ⊢; unfold down at *; omega, by omega, by omega⟩, by rw [or_high _ _ hy0 hy hB0 hB1]; omega, by rw [or_high _ _ hy0 hy hB0 hB1]; omega, by omega, by omega⟩
          case measure => simp [intOf]; omega
      | q + 2, hq, hqk, HH, HB => omega
    · have eq : q = k1 M := by omega
      subst eq
      have hz2 : ¬ 1 < z := by have := HH.out; have := downs_k1 M hM2; omega
      have hv : y % MM = ((V : Nat) : Int) := by
        have hh := HH.out
        have hm := HM.out
        have hlt := last_lt V M hV (by omega)
        rw [Nat.mod_eq_of_lt hlt] at hh
        rw [hh.1, hm]
        exact Int.emod_eq_of_lt (by omega) (by omega)
      have HVV := hidden hv
      clear hv
      go_wp2
      go_ret2
      unfold DecEnd
      have hh := HH.out
      refine ⟨.slice (some ⟨w.heap.size, 0, none⟩) 1 1, ?_, ?_, (Below.refl _ _).alloc (Nat.le_refl _) _⟩
      · unfold bval; rw [← hh.2.2.1, ← hh.2.2.2]; rfl
      · rw [HVV.out]; exact own_one w V
end Go.Proofs.Qxb6603826a
