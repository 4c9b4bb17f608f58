/- The contract of zzB1ViewDomain. -/
import Derived.Test.Qxb6603374aFind
import Derived.Deep.LoopGhost
import Derived.Deep.CutBlock
import Derived.Deep.DeepCutAuto
namespace Go.Proofs.Qxb6603374a
open Go.ChangeShapes Go.WideShapes Go.ChangeAt Go.RowKit

/-- What the laws' domain says. -/
structure VDom (ops txns : List Int) (ni : Nat) (IR : Nat → List Int) (rt ri rs : List Int) : Prop where
  asc : Asc txns
  pos : ∀ i, i < txns.length → 1 ≤ txns.getD i 0
  ops : ∀ i, i < ops.length → Has txns (ops.getD i 0)
  inst : ∀ it, it < ni → ∀ k, k < (IR it).length → Has txns ((IR it).getD k 0)
  rdr : ∀ i, i < rt.length → Has txns (rt.getD i 0)
  item : ∀ i, i < rt.length → 0 ≤ ri.getD i 0 ∧ ri.getD i 0 < ni
  seen : ∀ i, i < rt.length → rs.getD i 0 < (IR (ri.getD i 0).toNat).length
/-- The first k numbers ascend, all at least 1. -/
def AscTo (zs : List Int) (k : Nat) : Prop := ∀ i, i < k → 1 ≤ zs.getD i 0 ∧ ∀ j, j < i → zs.getD j 0 < zs.getD i 0
theorem AscTo.asc {zs : List Int} (h : AscTo zs zs.length) : Asc zs := fun i j hij hj => (h j hj).2 i hij
theorem AscTo.next {zs : List Int} {k : Nat} (h : AscTo zs k) (h1 : 1 ≤ zs.getD k 0) (h2 : 0 < k → zs.getD (k - 1) 0 < zs.getD k 0) : AscTo zs (k + 1) := fun i hi => by
  by_cases e : i = k
  · subst e
    refine ⟨h1, fun j hj => ?_⟩
    have h3 := h2 (by omega)
    by_cases e2 : j = i - 1
    · subst e2; exact h3
    · have := (h (i - 1) (by omega)).2 j (by omega)
      omega
  · exact h i (by omega)
theorem has_of_pos {zs : List Int} {t r : Int} (h : IsPos zs t r) (h0 : ¬ r < 0) : Has zs t := by
  rcases h with ⟨rfl, -⟩ | ⟨i, h1, -, h2⟩
  · omega
  · exact ⟨i, h1, h2⟩

set_option maxRecDepth 100000 in
set_option maxHeartbeats 4000000 in
theorem vdomain_any (pa xa ia oa ta ma sa wa : Option Addr) (pn pc xn xc ni ic on oc tn tc mn mc sn sc bn bc : Nat) (ira : Nat → Option Addr) (irc : Nat → Nat) (IR : Nat → List Int) (ops txns rt ri rs : List Int) (w : World)
    (hP : Row w pa ops) (hpn : ops.length = pn) (hX : Row w xa txns) (hxn : txns.length = xn) (hI : RowsAt w ia ni ira irc IR) (hT : Row w ta rt) (htn : rt.length = tn) (hM : Row w ma ri) (hmn : ri.length = mn) (hS : Row w sa rs) (hsn : rs.length = sn)
    (bp : pn ≤ 1048576) (bx : xn ≤ 1048576) (bi : ni ≤ 1048576) (bt : tn ≤ 1048576) (hlen : ∀ it, it < ni → (IR it).length ≤ 1048576) :
    Calls Try.prog 22 #[.slice pa pn pc, .slice xa xn xc, .slice ia ni ic, .slice oa on oc, .slice ta tn tc, .slice ma mn mc, .slice sa sn sc, .slice wa bn bc] w fun e w' =>
      BoolKept (fun r => r = true → (on = tn ∧ mn = tn ∧ sn = tn ∧ bn = tn) ∧ VDom ops txns ni IR rt ri rs) w e w' := by
  have HP := hidden hP
  have HPN := hidden hpn
  have HX := hidden hX
  have HXN := hidden hxn
  have HI := hidden hI
  have HT := hidden hT
  have HTN := hidden htn
  have HM := hidden hM
  have HMN := hidden hmn
  have HS := hidden hS
  have HSN := hidden hsn
  have HLEN := hidden hlen
  clear hP hpn hX hxn hI hT htn hM hmn hS hsn hlen
  go_enter Try.func22, Try.ntmps22
  go_wp2
  all_goals first
    | (go_ret; exact BoolKept.mk false rfl (fun h => by cases h) (Below.refl _ _))
    | skip
  rename_i e1 e2 e3 e4 K1 hK1
  have d4 : bn = tn := by simp at e4; omega
  have d1 : on = tn := by omega
  have d2 : mn = tn := by omega
  have d3 : sn = tn := by omega
  have HEQ := hidden (And.intro d1 (And.intro d2 (And.intro d3 d4)))
  clear e1 e2 e3 e4 d1 d2 d3 d4
  go_loopg [18] xn (fun m i wr => ∃ k : Nat, k + m = xn ∧ i = .int .i64 (k : Int) ∧ Hid (AscTo txns k) ∧ Hid (Below w.heap.size w wr))
  case atStart => exact ⟨0, by omega, rfl, fun i hi => absurd hi (Nat.not_lt_zero _), Below.refl _ _⟩
  case round =>
    obtain ⟨k, hk, rfl, HA, HB⟩ := hrel
    by_cases hlt : (k : Int) < xn
    · obtain ⟨b, o, hra, hc, hi64⟩ := HX.out.kept HB.out k (by rw [HXN.out]; omega)
      subst hra
      obtain ⟨X, hX⟩ : ∃ X, txns.getD k 0 = X := ⟨_, rfl⟩
      rw [hX] at hc hi64
      have HXX := hidden hX
      clear hX
      by_cases c1 : X < 1
      · have c1d : decide (X < 1) = true := by simp [c1]
        go_wp2
        go_quiet (fail)
        go_wp2
        go_ret
        exact BoolKept.mk false rfl (fun h => by cases h) (below_drewN HB.out _)
      · have c1d : decide (X < 1) = false := by simp; omega
        by_cases c2 : k = 0
        · subst c2
          rw [Nat.add_zero] at hc
          go_wp2
          go_quiet (fail)
          go_wp2
          go_roundg (gk - 1)
          case rel => exact ⟨1, by omega, by go_num, HA.out.next (by rw [HXX.out]; omega) (fun h => absurd h (Nat.lt_irrefl _)), below_drewN HB.out _⟩
          case measure => omega
        · obtain ⟨k', hk'⟩ : ∃ k', k = k' + 1 := ⟨k - 1, by omega⟩
          subst hk'
          obtain ⟨b', o', hra', hc', hi64'⟩ := HX.out.kept HB.out k' (by rw [HXN.out]; omega)
          cases hra'
          obtain ⟨Y, hY⟩ : ∃ Y, txns.getD k' 0 = Y := ⟨_, rfl⟩
          rw [hY] at hc' hi64'
          have HYY := hidden hY
          clear hY
          have c2d : decide ((0 : Int) < ((k' + 1 : Nat) : Int)) = true := by simp
          have hsub : ((k' + 1 : Nat) : Int) - 1 = (k' : Int) := by omega
          have hk'lt : (k' : Int) < xn := by omega
          by_cases c3 : X ≤ Y
          · have c3d : decide (X ≤ Y) = true := by simp [c3]
            go_wp2
            go_quiet (fail)
            go_wp2
            go_ret
            exact BoolKept.mk false rfl (fun h => by cases h) (below_drewN HB.out _)
          · have c3d : decide (X ≤ Y) = false := by simp; omega
            go_wp2
            go_quiet (fail)
            go_wp2
            go_roundg (gk - 1)
            case rel => exact ⟨k' + 1 + 1, by omega, by go_num, HA.out.next (by rw [HXX.out]; omega) (fun _ => by rw [HXX.out]; show txns.getD k' 0 < X; rw [HYY.out]; omega), below_drewN HB.out _⟩
            case measure => omega
    · have e : k = xn := by omega
      subst e
      go_wp2
      have HAs : Hid (Asc txns) := by
        have h1 := HA.out
        rw [← HXN.out] at h1
        exact h1.asc
      have HP1 : Hid (∀ i, i < txns.length → 1 ≤ txns.getD i 0) := fun i hi => (HA.out i (by rw [HXN.out] at hi; exact hi)).1
      clear HA hk hlt
      go_loop [79] (fun i => ∃ j : Nat, j ≤ pn ∧ i = .int .i64 (j : Int) ∧ Hid (∀ v, v < j → Has txns (ops.getD v 0))) (fun i => pn - (intOf i).toNat)
      case atStart => exact ⟨0, by omega, rfl, fun i hi => absurd hi (Nat.not_lt_zero _)⟩
      case round =>
        obtain ⟨j, hj, rfl, HJ⟩ := hrel
        by_cases hlj : (j : Int) < pn
        · obtain ⟨b, o, hra, hc, hi64⟩ := HP.out.kept HB.out j (by rw [HPN.out]; omega)
          subst hra
          obtain ⟨Y, hY⟩ : ∃ Y, ops.getD j 0 = Y := ⟨_, rfl⟩
          rw [hY] at hc hi64
          have HYY := hidden hY
          clear hY
          go_wp2_with (first | (go_at_call 26; refine (pos_any xa xc k txns _ _ (HX.out.kept HB.out) HXN.out (by omega) HAs.out).mono ?_; intro e w' h'; obtain ⟨r, he, hp, hw⟩ := h'; have HPo := hidden hp; clear hp; subst he; subst hw) | fail)
          all_goals first
            | (go_ret; exact BoolKept.mk false rfl (fun h => by cases h) HB.out)
            | skip
          go_round
          case rel =>
            refine ⟨j + 1, by omega, by go_num, fun v hv => ?_⟩
            by_cases e : v = j
            · subst e; rw [HYY.out]; exact has_of_pos HPo.out (by omega)
            · exact HJ.out v (by omega)
          case measure => simp [intOf]; omega
        · have HOps : Hid (∀ v, v < ops.length → Has txns (ops.getD v 0)) := fun v hv => HJ.out v (by rw [HPN.out] at hv; omega)
          clear HJ hj
          go_wp2
          clear hlj
          go_loop [21] (fun i => ∃ it : Nat, it ≤ ni ∧ i = .int .i64 (it : Int) ∧ Hid (∀ v, v < it → ∀ x, x < (IR v).length → Has txns ((IR v).getD x 0))) (fun i => ni - (intOf i).toNat)
          case atStart => exact ⟨0, by omega, rfl, fun i hi => absurd hi (Nat.not_lt_zero _)⟩
          case round =>
            obtain ⟨it, hit, rfl, HIt⟩ := hrel
            by_cases hlt : (it : Int) < ni
            · obtain ⟨ib, io, hia, hci, hRi, hmi⟩ := HI.out.kept HB.out it (by omega)
              subst hia
              have hlb := HLEN.out it (by omega)
              go_wp2
              go_loop [99] (fun i => ∃ x : Nat, x ≤ (IR it).length ∧ i = .int .i64 (x : Int) ∧ Hid (∀ v, v < x → Has txns ((IR it).getD v 0))) (fun i => (IR it).length - (intOf i).toNat)
              case atStart => exact ⟨0, by omega, rfl, fun i hi => absurd hi (Nat.not_lt_zero _)⟩
              case round =>
                obtain ⟨x, hx, rfl, HXx⟩ := hrel
                by_cases hlx : (x : Int) < (IR it).length
                · obtain ⟨b, o, hra, hc, hi64⟩ := hRi x (by omega)
                  rw [hra] at hci ⊢
                  obtain ⟨Y, hY⟩ : ∃ Y, (IR it).getD x 0 = Y := ⟨_, rfl⟩
                  rw [hY] at hc hi64
                  have HYY := hidden hY
                  clear hY
                  go_wp2_with (first | (go_at_call 26; refine (pos_any xa xc k txns _ _ (HX.out.kept HB.out) HXN.out (by omega) HAs.out).mono ?_; intro e w' h'; obtain ⟨r, he, hp, hw⟩ := h'; have HPo := hidden hp; clear hp; subst he; subst hw) | fail)
                  all_goals first
                    | (go_ret; exact BoolKept.mk false rfl (fun h => by cases h) HB.out)
                    | skip
                  go_round
                  case rel =>
                    refine ⟨x + 1, by omega, by go_num, fun v hv => ?_⟩
                    by_cases e : v = x
                    · subst e; rw [HYY.out]; exact has_of_pos HPo.out (by omega)
                    · exact HXx.out v (by omega)
                  case measure => simp [intOf]; omega
                · go_wp2
                  go_round
                  case rel =>
                    refine ⟨it + 1, by omega, by go_num, fun v hv => ?_⟩
                    by_cases e : v = it
                    · subst e; exact fun y hy => HXx.out y (by omega)
                    · exact HIt.out v (by omega)
                  case measure => simp [intOf]; omega
            · have HIn : Hid (∀ v, v < ni → ∀ x, x < (IR v).length → Has txns ((IR v).getD x 0)) := fun v hv => HIt.out v (by omega)
              clear HIt hit
              go_wp2
              clear hlt
              go_loopg [24] tn (fun m i wr => ∃ x : Nat, x + m = tn ∧ i = .int .i64 (x : Int) ∧ Hid (∀ v, v < x → Has txns (rt.getD v 0) ∧ (0 ≤ ri.getD v 0 ∧ ri.getD v 0 < ni) ∧ rs.getD v 0 < (IR (ri.getD v 0).toNat).length) ∧ Hid (Below w.heap.size w wr))
              case atStart => exact ⟨0, by omega, rfl, fun i hi => absurd hi (Nat.not_lt_zero _), HB⟩
              case round =>
                clear HB
                obtain ⟨x, hx, rfl, HR, HB⟩ := hrel
                have HEQ2 := HEQ.out
                by_cases hlx : (x : Int) < tn
                · obtain ⟨b, o, hra, hc, hi64⟩ := HT.out.kept HB.out x (by rw [HTN.out]; omega)
                  obtain ⟨b2, o2, hra2, hc2, hi642⟩ := HM.out.kept HB.out x (by rw [HMN.out]; omega)
                  obtain ⟨b3, o3, hra3, hc3, hi643⟩ := HS.out.kept HB.out x (by rw [HSN.out]; omega)
                  subst hra hra2 hra3
                  obtain ⟨Y, hY⟩ : ∃ Y, rt.getD x 0 = Y := ⟨_, rfl⟩
                  obtain ⟨I, hI⟩ : ∃ Y, ri.getD x 0 = Y := ⟨_, rfl⟩
                  obtain ⟨S, hS⟩ : ∃ Y, rs.getD x 0 = Y := ⟨_, rfl⟩
                  rw [hY] at hc hi64
                  rw [hI] at hc2 hi642
                  rw [hS] at hc3 hi643
                  have HYY := hidden (And.intro hY (And.intro hI hS))
                  have hlm : (x : Int) < mn := by omega
                  have hls : (x : Int) < sn := by omega
                  clear hY hI hS HEQ2
                  go_upto_region 30 with (first | (go_at_call 26; refine (pos_any xa xc k txns _ _ (HX.out.kept HB.out) HXN.out (by omega) HAs.out).mono ?_; intro e w' h'; obtain ⟨r, he, hp, hw⟩ := h'; have HPo := hidden hp; clear hp; subst he; subst hw) | fail)
                  all_goals first
                    | (go_ret; exact BoolKept.mk false rfl (fun h => by cases h) HB.out)
                    | skip
                  by_cases c1 : I < 0
                  · have c1d : decide (I < 0) = true := by simp [c1]
                    go_quiet (fail)
                    go_wp2
                    go_ret
                    exact BoolKept.mk false rfl (fun h => by cases h) (below_drewN HB.out _)
                  · have c1d : decide (I < 0) = false := by simp; omega
                    by_cases c2 : (ni : Int) ≤ I
                    · have c2d : decide ((ni : Int) ≤ I) = true := by simp [c2]
                      go_quiet (fail)
                      go_wp2
                      go_ret
                      exact BoolKept.mk false rfl (fun h => by cases h) (below_drewN HB.out _)
                    · have c2d : decide ((ni : Int) ≤ I) = false := by simp; omega
                      obtain ⟨it, hit⟩ : ∃ it : Nat, I = (it : Int) := ⟨I.toNat, by omega⟩
                      subst hit
                      obtain ⟨ib, io, hia, hci, hRi, hmi⟩ := HI.out.kept HB.out it (by omega)
                      subst hia
                      have hitn : (it : Int) < ni := by omega
                      by_cases c3 : ((IR it).length : Int) ≤ S
                      · have c3d : decide (((IR it).length : Int) ≤ S) = true := by simp [c3]
                        go_quiet (fail)
                        go_wp2
                        go_ret
                        exact BoolKept.mk false rfl (fun h => by cases h) (below_drewN HB.out _)
                      · have c3d : decide (((IR it).length : Int) ≤ S) = false := by simp; omega
                        go_quiet (fail)
                        go_wp2
                        go_roundg (gk - 1)
                        case measure => omega
                        case rel =>
                          refine ⟨x + 1, by omega, by go_num, hidden (fun v hv => ?_), below_drewN HB.out _⟩
                          by_cases e : v = x
                          · subst e
                            obtain ⟨y1, y2, y3⟩ := HYY.out
                            rw [y1, y2, y3]
                            refine ⟨has_of_pos HPo.out (by omega), ⟨by omega, by omega⟩, ?_⟩
                            rw [Int.toNat_natCast]; omega
                          · exact HR.out v (by omega)
                · go_wp2
                  go_ret
                  refine BoolKept.mk true rfl (fun _ => ?_) HB.out
                  have hR : ∀ v, v < rt.length → Has txns (rt.getD v 0) ∧ (0 ≤ ri.getD v 0 ∧ ri.getD v 0 < ni) ∧ rs.getD v 0 < (IR (ri.getD v 0).toNat).length := fun v hv => HR.out v (by rw [HTN.out] at hv; omega)
                  have hD : VDom ops txns ni IR rt ri rs := ⟨HAs.out, HP1.out, HOps.out, HIn.out, fun v hv => (hR v hv).1, fun v hv => (hR v hv).2.1, fun v hv => (hR v hv).2.2⟩
                  first | exact ⟨HEQ.out, hD⟩ | exact hD
end Go.Proofs.Qxb6603374a
