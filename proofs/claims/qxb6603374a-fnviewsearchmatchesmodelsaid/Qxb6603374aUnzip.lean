/- The contract of zzB1UnzipViewReads, walked. -/
import Derived.Test.Qxb6603374aUz
import Derived.Handy
namespace Go.Proofs.Qxb6603374a
open Go.ChangeShapes Go.WideShapes Go.ChangeAt Go.RowKit

theorem Try.info24' : (Try.prog.info? 24).map (fun i => (i.zero, i.size, i.bytes)) = some (some (.slice none 0 0), 1, 24) := by kernel_rfl
theorem Try.info28' : (Try.prog.info? 28).map (fun i => (i.zero, i.size, i.bytes)) = some (some (.slice none 0 0), 1, 24) := by kernel_rfl
theorem Try.info4' : (Try.prog.info? 4).map (fun i => (i.zero, i.size, i.bytes)) = some (some (.bool false), 1, 1) := by kernel_rfl
def UzEnd (H m : Nat) (ln : Nat → Nat) (A B C : Nat → Nat → Int) (D : Nat → Nat → Bool) (w : World) (e : Ending) (w' : World) : Prop :=
  e = .returned (.tuple #[.slice (some ⟨H, 0, none⟩) m m, .slice (some ⟨H + 1, 0, none⟩) m m, .slice (some ⟨H + 2, 0, none⟩) m m, .slice (some ⟨H + 3, 0, none⟩) m m]) ∧ Uz H m ln A B C D w m 0 w'

set_option maxRecDepth 100000 in
set_option maxHeartbeats 4000000 in
theorem unzip_any (a : Option Addr) (m c H : Nat) (ra : Nat → Option Addr) (rc ln : Nat → Nat) (A B C : Nat → Nat → Int) (D : Nat → Nat → Bool) (w : World) (hV : VRows w a m ra rc ln A B C D) (bm : m ≤ 1048576) (hH : w.heap.size = H) :
    Calls Try.prog 35 #[.slice a m c] w fun e w' => UzEnd H m ln A B C D w e w' := by
  have hm1 := run_make_row' (P := Try.prog) 22 24 (.slice none 0 0) 24 Try.underlying22 Try.info24' rfl .i64 .i64 m (by omega) (by omega)
  have hm2 := run_make_row' (P := Try.prog) 39 28 (.slice none 0 0) 24 Try.underlying39 Try.info28' rfl .i64 .i64 m (by omega) (by omega)
  have HV := hidden hV
  have HH := hidden hH
  clear hV
  go_enter Try.func35, Try.ntmps35
  go_wp2
  clear hm1 hm2
  go_loopg [10] m (fun q i wr => ∃ t : Nat, t + q = m ∧ i = .int .i64 (t : Int) ∧ Hid (Uz H m ln A B C D w t 0 wr))
  case atStart => exact ⟨0, by omega, rfl, Uz.start hH⟩
  case round =>
    clear hH
    obtain ⟨t, htq, rfl, HU⟩ := hrel
    have HBl : Hid (Below w.heap.size w wr) := by show Below _ _ _; rw [HH.out]; exact HU.out.bel
    by_cases hlt : (t : Int) < m
    · obtain ⟨b, o, hra, hc, hl, -⟩ := HV.out.kept HBl.out t (by omega)
      subst hra
      obtain ⟨z, hz⟩ : ∃ z, ln t = z := ⟨_, rfl⟩
      rw [hz] at hc hl
      have HZ := hidden hz
      clear hz
      obtain ⟨R, hR⟩ : ∃ R, ra t = R := ⟨_, rfl⟩
      rw [hR] at hc
      have HR := hidden hR
      clear hR
      have hm3 := run_make_row' (P := Try.prog) 24 3 (.int .i64 0) 8 Try.underlying24 Try.info3 rfl .i64 .i64 z (by omega) (by omega)
      have hm4 := run_make_row' (P := Try.prog) 28 4 (.bool false) 1 Try.underlying28 Try.info4' rfl .i64 .i64 z (by omega) (by omega)
      have hsz := HU.out.sz
      rw [Nat.add_zero] at hsz
      obtain ⟨S, hS⟩ : ∃ S, H + 4 + 4 * t = S := ⟨_, rfl⟩
      rw [hS] at hsz
      have HS := hidden hS
      clear hS
      go_wp2
      clear hm3 hm4 hc
      have HS1 : Hid (H + 5 + 4 * t = S + 1) := by have := HS.out; show _ = _; omega
      have HS2 : Hid (H + 6 + 4 * t = S + 1 + 1) := by have := HS.out; show _ = _; omega
      have HS3 : Hid (H + 7 + 4 * t = S + 1 + 1 + 1) := by have := HS.out; show _ = _; omega
      go_loopg [16] z (fun q i wr => ∃ k : Nat, k + q = z ∧ i = .int .i64 (k : Int) ∧ Hid (Uz H m ln A B C D w t 4 wr) ∧ Hid (Pz H ln A B C D t k wr))
      case atStart =>
        refine ⟨0, by omega, rfl, (((HU.out.alloc _).alloc _).alloc _).alloc _, ?_⟩
        have hp := Pz.start (H := H) (ln := ln) (A := A) (B := B) (C := C) (D := D) (j := t) (wr := wr) (by rw [HS.out]; exact hsz)
        rw [HZ.out] at hp
        exact hp
      case round =>
        clear HU HBl hsz
        obtain ⟨k, hkq, rfl, HU, HP⟩ := hrel
        have HBl : Hid (Below w.heap.size w wr) := by show Below _ _ _; rw [HH.out]; exact HU.out.bel
        by_cases hlk : (k : Int) < z
        · obtain ⟨b', o', hra', -, -, h4⟩ := HV.out.kept HBl.out t (by omega)
          obtain ⟨p, u, hp, x1, x2, x3, x4⟩ := h4 k (by rw [HZ.out]; omega)
          clear h4 hra'
          have P0 := HP.out.p0
          have P1 := HP.out.p1
          have P2 := HP.out.p2
          have P3 := HP.out.p3
          rw [HS.out, HZ.out] at P0
          rw [HS1.out, HZ.out] at P1
          rw [HS2.out, HZ.out] at P2
          rw [HS3.out, HZ.out] at P3
          have y0 := P0.cell (i := k) (by omega)
          have y1 := P1.cell (i := k) (by omega)
          have y2 := P2.cell (i := k) (by omega)
          have y3 := P3.cell (i := k) (by omega)
          have f0 := P0.frozen k
          have f1 := P1.frozen k
          have f2 := P2.frozen k
          have f3 := P3.frozen k
          rw [if_neg (Nat.lt_irrefl _)] at y0 y1 y2 y3
          have HN : Hid (S < p ∨ p < S) := by
            have := World.block_lt_of_cell? w _ (show w.cell? ⟨p, u + k * 4, none⟩ = some (.int .i64 (A t k)) from by
              obtain ⟨b2, o2, -, -, -, g4⟩ := HV.out t (by omega)
              obtain ⟨p2, u2, hp2, z1, -⟩ := g4 k (by rw [HZ.out]; omega)
              rw [hp] at hp2
              cases hp2
              exact z1)
            have h2 := HH.out
            have h3 := HS.out
            exact .inr (by simp at this; omega)
          clear P0 P1 P2 P3
          rw [HR.out] at hp
          subst hp
          go_wp2
          go_roundg (gk - 1)
          case measure => omega
          case rel =>
            have hS0 := HS.out
            refine ⟨k + 1, by omega, by go_num, ?_, ?_⟩
            · exact (((HU.out.set (a := ⟨S, k, none⟩) (by simp; omega) _).set (a := ⟨S + 1, k, none⟩) (by simp; omega) _).set (a := ⟨S + 1 + 1, k, none⟩) (by simp; omega) _).set (a := ⟨S + 1 + 1 + 1, k, none⟩) (by simp; omega) _
            · have hp2 := HP.out.put
              rw [HS.out, HS1.out, HS2.out, HS3.out] at hp2
              exact hp2
        · have e : k = z := by omega
          subst e
          have z0 := HU.out.h0.cell (i := t) (by omega)
          have z1 := HU.out.h1.cell (i := t) (by omega)
          have z2 : wr.cell? ⟨H + 1 + 1, t, none⟩ = _ := HU.out.h2.cell (i := t) (by omega)
          have z3 : wr.cell? ⟨H + 1 + 1 + 1, t, none⟩ = _ := HU.out.h3.cell (i := t) (by omega)
          have f0 := HU.out.h0.frozen t
          have f1 := HU.out.h1.frozen t
          have f2 : wr.frozen? ⟨H + 1 + 1, t, none⟩ = false := HU.out.h2.frozen t
          have f3 : wr.frozen? ⟨H + 1 + 1 + 1, t, none⟩ = false := HU.out.h3.frozen t
          rw [if_neg (Nat.lt_irrefl _)] at z0 z1 z2 z3
          go_wp2
          go_roundg (m - (t + 1))
          case measure => omega
          case rel =>
            refine ⟨t + 1, by omega, by go_num, ?_⟩
            have hp1 := HP.out
            rw [← HZ.out] at hp1
            have hn := HU.out.next hp1
            rw [HS.out, HS1.out, HS2.out, HS3.out, HZ.out] at hn
            exact hn
    · have e : t = m := by omega
      subst e
      go_wp2
      go_returns
      exact ⟨rfl, HU.out⟩
end Go.Proofs.Qxb6603374a
