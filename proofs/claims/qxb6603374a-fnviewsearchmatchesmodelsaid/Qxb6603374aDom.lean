/- The contract of zzB1CycleDomain. -/
import Derived.Test.Qxb6603374aMem
namespace Go.Proofs.Qxb6603374a
open Go.ChangeShapes Go.WideShapes Go.ChangeAt Go.RowKit

/-- What the law's domain says. -/
structure Dom (n : Nat) (TR LR : Nat → List Int) (vn : Nat) (mark : List Int) (st a b : Int) : Prop where
  a0 : 0 ≤ a ∧ a < n
  b0 : 0 ≤ b ∧ b < n
  st0 : st ≠ 9223372036854775807
  mks : ∀ v, v < n → mark.getD v 0 ≤ st
  len : ∀ v, v < n → (LR v).length = (TR v).length
  arc : ∀ v i, v < n → i < (TR v).length → 0 ≤ (TR v).getD i 0 ∧ (TR v).getD i 0 < n ∧ (0 ≤ (LR v).getD i 0 → (LR v).getD i 0 / 2 < vn)

set_option maxRecDepth 100000 in
set_option maxHeartbeats 1000000 in
theorem domain_any (ta la oa va ka : Option Addr) (tn tc ln lc on oc vn vc kc : Nat) (tra lra : Nat → Option Addr) (trc lrc : Nat → Nat) (TR LR : Nat → List Int) (mark : List Int) (st a b : Int) (w : World)
    (hT : RowsAt w ta tn tra trc TR) (hL : RowsAt w la ln lra lrc LR) (hK : Row w ka mark) (hn : tn ≤ 4096) :
    Calls Try.prog 16 #[.slice ta tn tc, .slice la ln lc, .slice oa on oc, .slice va vn vc, .slice ka mark.length kc, .int .i64 st, .int .i64 a, .int .i64 b] w fun e w' =>
      BoolKept (fun r => r = true → ln = tn ∧ on = tn ∧ mark.length = tn ∧ Dom tn TR LR vn mark st a b) w e w' := by
  go_enter Try.func16, Try.ntmps16
  go_wp2
  all_goals first
    | (go_ret; exact BoolKept.mk false rfl (fun h => by cases h) (Below.refl _ _))
    | skip
  rename_i e1 e2 e3 e4 e5 e6 e7 e8 K1 hK1
  have d1 : ln = tn := by omega
  have d2 : on = tn := by omega
  have d3 : mark.length = tn := by simp at e3; omega
  have d4 : st ≠ 9223372036854775807 := by simpa using e8.2
  have HD := hidden (And.intro d2 (And.intro d3 (And.intro d4 (And.intro (And.intro e4 e5) (And.intro e6 e7)))))
  clear e1 e2 e3 e4 e5 e6 e7 e8 d2 d4
  have HM := hidden d3
  clear d3
  subst d1
  have HT := hidden hT
  have HL := hidden hL
  have HK := hidden hK
  clear hT hL hK
  go_loopw [18] (fun i wr => ∃ k : Nat, k ≤ ln ∧ i = .int .i64 k ∧ Hid (∀ v, v < k → mark.getD v 0 ≤ st ∧ (LR v).length = (TR v).length ∧ ∀ i, i < (TR v).length → 0 ≤ (TR v).getD i 0 ∧ (TR v).getD i 0 < ln ∧ (0 ≤ (LR v).getD i 0 → (LR v).getD i 0 / 2 < vn)) ∧ Hid (Below w.heap.size w wr)) (fun i _ => ln - (intOf i).toNat)
  case atStart => exact ⟨0, by omega, rfl, fun v hv => absurd hv (Nat.not_lt_zero _), Below.refl _ _⟩
  case round =>
    obtain ⟨k, hk, rfl, HP, HB⟩ := hrel
    by_cases hlt : (k : Int) < ln
    · obtain ⟨tb, to, hta, hc, hR, hm⟩ := HT.out.kept HB.out k (by omega)
      obtain ⟨lb, lo, hla, hc', hR', hm'⟩ := HL.out.kept HB.out k (by omega)
      obtain ⟨kb, ko, hka, hk1, hk2⟩ := HK.out.kept HB.out k (by have := HM.out; omega)
      have hkl : (k : Int) < mark.length := by have := HM.out; omega
      subst hta hla hka
      obtain ⟨X, HX'⟩ : ∃ X, mark.getD k 0 = X := ⟨_, rfl⟩
      rw [HX'] at hk1 hk2
      have HX := hidden HX'
      clear HX'
      have hX1 := hk2.1
      have hX2 := hk2.2
      by_cases c1 : st < X
      · go_wp2
        go_quiet (fail)
        go_wp2
        all_goals
          go_ret
          exact BoolKept.mk false rfl (fun h => by cases h) (below_drewN HB.out _)
      · by_cases c2 : (LR k).length = (TR k).length
        · have c3 : (((LR k).length : Int) != ((TR k).length : Int)) = false := by rw [c2]; simp
          go_wp2
          go_quiet (fail)
          go_wp2
          go_loop [19] (fun i => ∃ j : Nat, j ≤ (TR k).length ∧ i = .int .i64 j ∧ Hid (∀ i, i < j → 0 ≤ (TR k).getD i 0 ∧ (TR k).getD i 0 < ln ∧ (0 ≤ (LR k).getD i 0 → (LR k).getD i 0 / 2 < vn))) (fun i => (TR k).length - (intOf i).toNat)
          case atStart => exact ⟨0, by omega, rfl, fun v hv => absurd hv (Nat.not_lt_zero _)⟩
          case round =>
            obtain ⟨j, hj, rfl, HJ⟩ := hrel
            by_cases hlj : (j : Int) < (TR k).length
            · obtain ⟨b1, o1, hra, hcy, hy⟩ := hR j (by omega)
              obtain ⟨b2, o2, hrb, hcz, hz⟩ := hR' j (by omega)
              rw [hra] at hc
              rw [hrb] at hc'
              obtain ⟨Y, HY'⟩ : ∃ Y, (TR k).getD j 0 = Y := ⟨_, rfl⟩
              obtain ⟨Z, HZ'⟩ : ∃ Z, (LR k).getD j 0 = Z := ⟨_, rfl⟩
              rw [HY'] at hcy hy
              rw [HZ'] at hcz hz
              have HY := hidden HY'
              have HZ := hidden HZ'
              clear HY' HZ' hra hrb
              have hy1 := hy.1
              have hy2 := hy.2
              have hz1 := hz.1
              have hz2 := hz.2
              have hlj' : (j : Int) < (LR k).length := by omega
              by_cases c5 : Y < 0
              · go_wp2
                go_ret
                exact BoolKept.mk false rfl (fun h => by cases h) (below_drewN HB.out _)
              · by_cases c6 : Y < ln
                · by_cases c7 : 0 ≤ Z
                  · obtain ⟨q, hq⟩ : ∃ q, Z.tdiv 2 = q := ⟨_, rfl⟩
                    have hq2 : q = Z / 2 := by rw [← hq]; exact Int.tdiv_eq_ediv_of_nonneg c7
                    have hq3 : 0 ≤ q := by omega
                    have hq4 : q ≤ 9223372036854775807 := by omega
                    have HQ := hidden hq2
                    clear hq2
                    by_cases c8 : q < vn
                    · go_wp2
                      go_round
                      case rel =>
                        refine ⟨j + 1, by omega, by go_num, fun i hi => ?_⟩
                        by_cases e : i = j
                        · subst e
                          rw [HY.out, HZ.out]
                          refine ⟨by omega, by omega, fun h0 => ?_⟩
                          have := HQ.out
                          omega
                        · exact HJ.out i (by omega)
                      case measure => simp [intOf]; omega
                    · go_wp2
                      go_ret
                      exact BoolKept.mk false rfl (fun h => by cases h) (below_drewN HB.out _)
                  · go_wp2
                    go_round
                    case rel =>
                      refine ⟨j + 1, by omega, by go_num, fun i hi => ?_⟩
                      by_cases e : i = j
                      · subst e
                        rw [HY.out, HZ.out]
                        refine ⟨by omega, by omega, fun h0 => ?_⟩
                        omega
                      · exact HJ.out i (by omega)
                    case measure => simp [intOf]; omega
                · go_wp2
                  go_ret
                  exact BoolKept.mk false rfl (fun h => by cases h) (below_drewN HB.out _)
            · go_wp2
              go_roundw
              case rel =>
                refine ⟨k + 1, by omega, by go_num, fun v hv => ?_, below_drewN HB.out _⟩
                by_cases e : v = k
                · subst e
                  exact ⟨by rw [HX.out]; omega, c2, fun i hi => HJ.out i (by omega)⟩
                · exact HP.out v (by omega)
              case measure => simp [intOf]; omega
        · have c3 : (((LR k).length : Int) != ((TR k).length : Int)) = true := by simp; omega
          go_wp2
          go_quiet (fail)
          go_wp2
          all_goals
            go_ret
            exact BoolKept.mk false rfl (fun h => by cases h) (below_drewN HB.out _)
    · go_wp2
      go_ret
      obtain ⟨d2, d3, d4, d5, d6⟩ := HD.out
      have hD : Dom ln TR LR vn mark st a b := ⟨d5, d6, d4, fun v hv => (HP.out v (by omega)).1, fun v hv => (HP.out v (by omega)).2.1, fun v i hv hi => (HP.out v (by omega)).2.2 i hi⟩
      exact BoolKept.mk true rfl (fun _ => by first | exact ⟨rfl, d2, d3, hD⟩ | exact ⟨d2, d3, hD⟩) HB.out
end Go.Proofs.Qxb6603374a
