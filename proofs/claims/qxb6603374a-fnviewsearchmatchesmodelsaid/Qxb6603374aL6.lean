/- The law FnViewSearchMatchesModel: every call answers true. -/
import Derived.Test.Qxb6603374aZv
import Derived.Test.Qxb6603374aL6End
import Derived.Test.Qxb6603374aVDom
import Derived.Test.Qxb6603374aClone
namespace Go.Proofs.Qxb6603374a
open Go.ChangeShapes Go.WideShapes Go.ChangeAt Go.RowKit

set_option maxRecDepth 100000 in
set_option maxHeartbeats 20000000 in
theorem vlaw6_any (pa xa ia oa ta ma sa wa : Option Addr) (ni pc xc ic oc tc mc sc bc : Nat) (ira : Nat → Option Addr) (irc : Nat → Nat) (IR : Nat → List Int) (ops txns ro rt ri rs : List Int) (bs : List Bool) (w : World)
    (hP : Row w pa ops) (hX : Row w xa txns) (hI : RowsAt w ia ni ira irc IR) (hO : Row w oa ro) (hT : Row w ta rt) (hM : Row w ma ri) (hS : Row w sa rs) (hW : BRow w wa bs) :
    Calls Try.prog 6 #[.slice pa ops.length pc, .slice xa txns.length xc, .slice ia ni ic, .slice oa ro.length oc, .slice ta rt.length tc, .slice ma ri.length mc, .slice sa rs.length sc, .slice wa bs.length bc] w fun e w' => BoolKept (fun r => r = true) w e w' := by
  obtain ⟨pn, hpn⟩ : ∃ n, ops.length = n := ⟨_, rfl⟩
  obtain ⟨xn, hxn⟩ : ∃ n, txns.length = n := ⟨_, rfl⟩
  obtain ⟨on, hon⟩ : ∃ n, ro.length = n := ⟨_, rfl⟩
  obtain ⟨tn, htn⟩ : ∃ n, rt.length = n := ⟨_, rfl⟩
  obtain ⟨mn, hmn⟩ : ∃ n, ri.length = n := ⟨_, rfl⟩
  obtain ⟨sn, hsn⟩ : ∃ n, rs.length = n := ⟨_, rfl⟩
  obtain ⟨bn, hbn⟩ : ∃ n, bs.length = n := ⟨_, rfl⟩
  rw [hpn, hxn, hon, htn, hmn, hsn, hbn]
  have q24 : ∀ (w : World) (a : Option Addr) (n c n' c' : Nat), (binOp .neq 24 (.slice a n c) (.slice none n' c')).run Try.prog w = .ok (.bool (!a.isNone)) w := fun w a n c n' c' => run_neq_slice_nil_any w _ _ a n c n' c' Try.underlying24
  have q28 : ∀ (w : World) (a : Option Addr) (n c n' c' : Nat), (binOp .neq 28 (.slice a n c) (.slice none n' c')).run Try.prog w = .ok (.bool (!a.isNone)) w := fun w a n c n' c' => run_neq_slice_nil_any w _ _ a n c n' c' Try.underlying28
  have HP := hidden hP
  have HX := hidden hX
  have HI := hidden hI
  have HO := hidden hO
  have HT := hidden hT
  have HM := hidden hM
  have HS := hidden hS
  have HW := hidden hW
  have HPN := hidden hpn
  have HXN := hidden hxn
  have HON := hidden hon
  have HTN := hidden htn
  have HMN := hidden hmn
  have HSN := hidden hsn
  have HBN := hidden hbn
  clear hP hX hI hO hT hM hS hW hpn hxn hon htn hmn hsn hbn
  go_enter Try.func6, Try.ntmps6
  go_upto_if 112 with (first | (go_at_call 21; refine (vbytes6_any pa xa ia oa ta ma sa wa pn pc xn xc ni ic on oc tn tc mn mc sn sc bn bc ira irc IR _ HI.out).mono ?_; intro e w1 h1; obtain ⟨r, he, -, hw⟩ := h1; subst he; subst hw; cases r) | fail)
  all_goals first
    | (go_ret; exact BoolKept.mk true rfl rfl (Below.refl _ _))
    | skip
  rename_i d1 d2 d3 d4 d5 d6 d7 d8 K1 hK1
  have HB1 : Hid ((pn ≤ 1048576 ∧ xn ≤ 1048576 ∧ ni ≤ 1048576 ∧ on ≤ 1048576) ∧ (tn ≤ 1048576 ∧ mn ≤ 1048576 ∧ sn ≤ 1048576 ∧ bn ≤ 1048576)) := by
    refine ⟨⟨by omega, by omega, by omega, by omega⟩, ⟨by omega, by omega, by omega, ?_⟩⟩
    first
      | omega
      | (have h := d8.2; omega)
      | (have h := d8; simp at h; omega)
  clear d1 d2 d3 d4 d5 d6 d7 d8
  have H8 : Hid (L8 pa xa ia oa ta ma sa wa ni ira irc IR ops txns ro rt ri rs bs w1 w1) := ⟨HP.out, HX.out, HI.out, HO.out, HT.out, HM.out, HS.out, HW.out, Below.refl _ _⟩
  clear HP HX HI HO HT HM HS HW
  go_cut [0] from 63 to 119 (fun v wx => ∃ a9 c9, v = .slice a9 pn c9 ∧ Hid (L8 a9 xa ia oa ta ma sa wa ni ira irc IR ops txns ro rt ri rs bs w1 wx))
  case first =>
    as_aux_lemma =>
      have hmk := run_make_row' (P := Try.prog) 24 3 (.int .i64 0) 8 Try.underlying24 Try.info3 rfl .i64 .i64 pn (by have := HB1.out; omega) (by have := HB1.out; omega)
      cases pa with
      | none =>
        go_wp2
        go_meet
        exact ⟨none, pc, rfl, H8⟩
      | some ad =>
        go_wp2_with (with_reducible refine op_at (.call { callee := .builtin .copy, args := #[.tmp 116, .tmp 117], argTypes := #[24, 24] }) rfl ?_; refine copy_ints _ rfl (.tmp 116) (.tmp 117) rfl (some ad) pc pn ops HPN.out rfl rfl H8.out.hP ?_; intro w' hr' hb')
        go_meet
        exact ⟨_, _, rfl, { H8.out.kept hb'.out with hP := hr'.out }⟩
  case rest =>
    as_aux_lemma =>
      clear H8
      obtain ⟨pa', pc', hv, H8⟩ := hcut
      subst hv
      go_upto_if 121 with fail
      go_cut [3] from 120 to 128 (fun v wx => ∃ a9 c9, v = .slice a9 on c9 ∧ Hid (L8 pa' xa ia a9 ta ma sa wa ni ira irc IR ops txns ro rt ri rs bs w1 wx))
      case first =>
        as_aux_lemma =>
          have hmk := run_make_row' (P := Try.prog) 24 3 (.int .i64 0) 8 Try.underlying24 Try.info3 rfl .i64 .i64 on (by have := HB1.out; omega) (by have := HB1.out; omega)
          cases oa with
          | none =>
            go_wp2
            go_meet
            exact ⟨none, oc, rfl, H8⟩
          | some ad =>
            go_wp2_with (with_reducible refine op_at (.call { callee := .builtin .copy, args := #[.tmp 125, .tmp 126], argTypes := #[24, 24] }) rfl ?_; refine copy_ints _ rfl (.tmp 125) (.tmp 126) rfl (some ad) oc on ro HON.out rfl rfl H8.out.hO ?_; intro w' hr' hb')
            go_meet
            exact ⟨_, _, rfl, { H8.out.kept hb'.out with hO := hr'.out }⟩
      case rest =>
        as_aux_lemma =>
          clear H8
          obtain ⟨oa', oc', hv, H8⟩ := hcut
          subst hv
          go_upto_if 130 with fail
          go_cut [4] from 129 to 137 (fun v wx => ∃ a9 c9, v = .slice a9 tn c9 ∧ Hid (L8 pa' xa ia oa' a9 ma sa wa ni ira irc IR ops txns ro rt ri rs bs w1 wx))
          case first =>
            as_aux_lemma =>
              have hmk := run_make_row' (P := Try.prog) 24 3 (.int .i64 0) 8 Try.underlying24 Try.info3 rfl .i64 .i64 tn (by have := HB1.out; omega) (by have := HB1.out; omega)
              cases ta with
              | none =>
                go_wp2
                go_meet
                exact ⟨none, tc, rfl, H8⟩
              | some ad =>
                go_wp2_with (with_reducible refine op_at (.call { callee := .builtin .copy, args := #[.tmp 134, .tmp 135], argTypes := #[24, 24] }) rfl ?_; refine copy_ints _ rfl (.tmp 134) (.tmp 135) rfl (some ad) tc tn rt HTN.out rfl rfl H8.out.hT ?_; intro w' hr' hb')
                go_meet
                exact ⟨_, _, rfl, { H8.out.kept hb'.out with hT := hr'.out }⟩
          case rest =>
            as_aux_lemma =>
              clear H8
              obtain ⟨ta', tc', hv, H8⟩ := hcut
              subst hv
              go_upto_if 139 with fail
              go_cut [5] from 138 to 146 (fun v wx => ∃ a9 c9, v = .slice a9 mn c9 ∧ Hid (L8 pa' xa ia oa' ta' a9 sa wa ni ira irc IR ops txns ro rt ri rs bs w1 wx))
              case first =>
                as_aux_lemma =>
                  have hmk := run_make_row' (P := Try.prog) 24 3 (.int .i64 0) 8 Try.underlying24 Try.info3 rfl .i64 .i64 mn (by have := HB1.out; omega) (by have := HB1.out; omega)
                  cases ma with
                  | none =>
                    go_wp2
                    go_meet
                    exact ⟨none, mc, rfl, H8⟩
                  | some ad =>
                    go_wp2_with (with_reducible refine op_at (.call { callee := .builtin .copy, args := #[.tmp 143, .tmp 144], argTypes := #[24, 24] }) rfl ?_; refine copy_ints _ rfl (.tmp 143) (.tmp 144) rfl (some ad) mc mn ri HMN.out rfl rfl H8.out.hM ?_; intro w' hr' hb')
                    go_meet
                    exact ⟨_, _, rfl, { H8.out.kept hb'.out with hM := hr'.out }⟩
              case rest =>
                as_aux_lemma =>
                  clear H8
                  obtain ⟨ma', mc', hv, H8⟩ := hcut
                  subst hv
                  go_upto_if 148 with fail
                  go_cut [6] from 147 to 155 (fun v wx => ∃ a9 c9, v = .slice a9 sn c9 ∧ Hid (L8 pa' xa ia oa' ta' ma' a9 wa ni ira irc IR ops txns ro rt ri rs bs w1 wx))
                  case first =>
                    as_aux_lemma =>
                      have hmk := run_make_row' (P := Try.prog) 24 3 (.int .i64 0) 8 Try.underlying24 Try.info3 rfl .i64 .i64 sn (by have := HB1.out; omega) (by have := HB1.out; omega)
                      cases sa with
                      | none =>
                        go_wp2
                        go_meet
                        exact ⟨none, sc, rfl, H8⟩
                      | some ad =>
                        go_wp2_with (with_reducible refine op_at (.call { callee := .builtin .copy, args := #[.tmp 152, .tmp 153], argTypes := #[24, 24] }) rfl ?_; refine copy_ints _ rfl (.tmp 152) (.tmp 153) rfl (some ad) sc sn rs HSN.out rfl rfl H8.out.hS ?_; intro w' hr' hb')
                        go_meet
                        exact ⟨_, _, rfl, { H8.out.kept hb'.out with hS := hr'.out }⟩
                  case rest =>
                    as_aux_lemma =>
                      clear H8
                      obtain ⟨sa', sc', hv, H8⟩ := hcut
                      subst hv
                      go_upto_if 157 with fail
                      go_cut [7] from 156 to 164 (fun v wx => ∃ a9 c9, v = .slice a9 bn c9 ∧ Hid (L8 pa' xa ia oa' ta' ma' sa' a9 ni ira irc IR ops txns ro rt ri rs bs w1 wx))
                      case first =>
                        as_aux_lemma =>
                          have hmk := run_make_row' (P := Try.prog) 28 4 (.bool false) 1 Try.underlying28 infoB rfl .i64 .i64 bn (by have := HB1.out; omega) (by have := HB1.out; omega)
                          cases wa with
                          | none =>
                            go_wp2
                            go_meet
                            exact ⟨none, bc, rfl, H8⟩
                          | some ad =>
                            go_wp2_with (with_reducible refine op_at (.call { callee := .builtin .copy, args := #[.tmp 161, .tmp 162], argTypes := #[28, 28] }) rfl ?_; refine copy_bools _ rfl (.tmp 161) (.tmp 162) rfl (some ad) bc bn bs HBN.out rfl rfl H8.out.hW ?_; intro w' hr' hb')
                            go_meet
                            exact ⟨_, _, rfl, { H8.out.kept hb'.out with hW := hr'.out }⟩
                      case rest =>
                        as_aux_lemma =>
                          clear H8
                          obtain ⟨wa', bc', hv, H8⟩ := hcut
                          subst hv
                          clear q24 q28
                          have b1 := HB1.out.1.1
                          have b2 := HB1.out.1.2.1
                          have b3 := HB1.out.1.2.2.1
                          have b4 := HB1.out.1.2.2.2
                          have b5 := HB1.out.2.1
                          have b6 := HB1.out.2.2.1
                          have b7 := HB1.out.2.2.2.1
                          have b8 := HB1.out.2.2.2.2
                          go_upto_block 0 with fail
                          all_goals first
                            | (go_ret; exact BoolKept.mk true rfl rfl H8.out.bel)
                            | skip
                          go_cut [] from 165 to 212 (fun wx => Hid (L8 pa' xa ia oa' ta' ma' sa' wa' ni ira irc IR ops txns ro rt ri rs bs w1 wx) ∧ Hid (8 * sumTo (fun x => (IR x).length) ni ≤ 1048576))
                          case first =>
                            as_aux_lemma =>
                              go_wp2
                              go_loop [23, 24] (fun s i => ∃ k z : Nat, k ≤ ni ∧ z ≤ 1048576 ∧ i = .int .i64 (k : Int) ∧ s = .int .i64 (z : Int) ∧ Hid (8 * sumTo (fun x => (IR x).length) k ≤ z)) (fun _ i => ni - (intOf i).toNat)
                              case atStart => exact ⟨0, 8 * (pn + xn + ni + on + tn + mn + sn) + bn, by omega, by omega, rfl, by go_num, Nat.zero_le _⟩
                              case round =>
                                as_aux_lemma =>
                                  obtain ⟨k, z, hk, hz, rfl, rfl, HSU⟩ := hrel
                                  by_cases hlt : (k : Int) < ni
                                  · obtain ⟨tb, tq, hta, hc, -, hm⟩ := H8.out.hI k (by omega)
                                    subst hta
                                    go_wp2
                                    all_goals first
                                      | (go_ret; exact BoolKept.mk true rfl rfl H8.out.bel)
                                      | skip
                                    go_round
                                    case rel =>
                                      refine ⟨k + 1, z + 8 * (IR k).length, by omega, by omega, by go_num, by go_num, ?_⟩
                                      show 8 * (sumTo (fun x => (IR x).length) k + (IR k).length) ≤ _
                                      have h := HSU.out
                                      omega
                                    case measure => simp [intOf]; omega
                                  · have e : k = ni := by omega
                                    subst e
                                    go_wp2
                                    go_meet
                                    exact ⟨H8, Nat.le_trans HSU.out hz⟩
                          case rest =>
                            as_aux_lemma =>
                              obtain ⟨H9, HSU⟩ := hcut
                              clear H8
                              have HLEN : Hid (∀ it, it < ni → (IR it).length ≤ 1048576) := fun it hi => by
                                have h1 := sumTo_lt (fun x => (IR x).length) (x := it) (n := ni) hi
                                have h2 := HSU.out
                                omega
                              go_upto_if 222 with (first | (go_at_call 22; refine (vdomain_any pa' xa ia oa' ta' ma' sa' wa' pn pc' xn xc ni ic on oc' tn tc' mn mc' sn sc' bn bc' ira irc IR ops txns rt ri rs _ H9.out.hP HPN.out H9.out.hX HXN.out H9.out.hI H9.out.hT HTN.out H9.out.hM HMN.out H9.out.hS HSN.out b1 b2 b3 b5 HLEN.out).mono ?_; intro e w2 h2; obtain ⟨r, he, hd, hb⟩ := h2; subst he) | fail)
                              cases r with
                              | false =>
                                go_wp2
                                go_ret
                                exact BoolKept.mk true rfl rfl (H9.out.kept hb).bel
                              | true =>
                                obtain ⟨⟨el1, el2, el3, el4⟩, hdom⟩ := hd rfl
                                have HDM := hidden hdom
                                have H10 : Hid (L8 pa' xa ia oa' ta' ma' sa' wa' ni ira irc IR ops txns ro rt ri rs bs w1 w2) := H9.out.kept hb
                                clear hd hdom hb H9
                                subst el1 el2 el3 el4
                                go_upto_region 43 with (first | (go_at_call 18; refine (clone_all xa xc xn txns _ H10.out.hX HXN.out b2).mono ?_; intro e w3 h3; obtain ⟨xa', xc', he, hx', hb'⟩ := h3; subst he) | fail)
                                have H11 : Hid (L8 pa' xa' ia oa' ta' ma' sa' wa' ni ira irc IR ops txns ro rt ri rs bs w1 w3) := { H10.out.kept hb' with hX := hx' }
                                clear H10 hx' hb'
                                have HZI : Hid (ZvIn pa' xa' ia oa' ta' ma' sa' wa' pn xn ni bn ira irc IR ops txns ro rt ri rs bs w3) := ⟨H11.out.hP, H11.out.hX, H11.out.hI, H11.out.hO, H11.out.hT, H11.out.hM, H11.out.hS, H11.out.hW, HPN.out, HXN.out, HON.out, HTN.out, HMN.out, HSN.out, HBN.out, HDM.out, by have h := HSU.out; omega⟩
                                go_cut [25] from 213 to 233 (fun v wx => ∃ oB, v = .pointer (some ⟨oB, 0, none⟩) ∧ Hid (L8 pa' xa' ia oa' ta' ma' sa' wa' ni ira irc IR ops txns ro rt ri rs bs w1 wx) ∧ Hid (Ans (vinOf txns ni IR rt ri rs bs) (stF (opOf ops txns) pn pn) xa' xc' oB wx))
                                case first =>
                                  as_aux_lemma =>
                                    go_wp2_with (first | (go_at_call 23; go_must (refine (zv_any pa' xa' ia oa' ta' ma' sa' wa' pn xn ni bn pc' xc' ic oc' tc' mc' sc' bc' ira irc IR ops txns ro rt ri rs bs w3.heap.size w3 HZI.out b1 b2 b3 b8 rfl).mono ?_; rintro e w' ⟨hbel, ⟨rfl, hbad⟩ | ⟨g, b, ra2, ra3, ra4, ra5, rc2, rc3, rc4, rc5, H1, H2, rfl, hnb, hend, hu1, hu2⟩⟩)) | (with_reducible refine store41_at (.tmp 25) (.tmp 233) rfl ?_; first | (refine store18n _ rfl (.tmp 25) (.tmp 233) rfl _ rfl (.bool false) (.bool true) (.slice none 0 0) (.slice none 0 0) (.slice none 0 0) (.slice none 0 0) (.slice none 0 0) (.slice none 0 0) (.slice none 0 0) (.slice none 0 0) (.slice none 0 0) (.slice none 0 0) (.slice none 0 0) (.slice none 0 0) (.slice none 0 0) (.slice none 0 0) (.slice none 0 0) (.slice none 0 0) rfl (z41_row _) rfl rfl rfl rfl rfl rfl rfl rfl rfl rfl rfl rfl rfl rfl rfl rfl rfl rfl ?_; intro wn HOut HKeep) | (refine store18n _ rfl (.tmp 25) (.tmp 233) rfl _ rfl (.bool true) (.bool false) (.slice xa' (vinOf txns ni IR rt ri rs bs).m xc') (.slice (some ⟨b 1, 0, none⟩) (vinOf txns ni IR rt ri rs bs).m (vinOf txns ni IR rt ri rs bs).m) (.slice (some ⟨b 6, 0, none⟩) (vinOf txns ni IR rt ri rs bs).ni (vinOf txns ni IR rt ri rs bs).ni) (.slice (some ⟨b 8, 0, none⟩) (vinOf txns ni IR rt ri rs bs).m (vinOf txns ni IR rt ri rs bs).m) (.slice (some ⟨b 9, 0, none⟩) (vinOf txns ni IR rt ri rs bs).ni (vinOf txns ni IR rt ri rs bs).ni) (.slice (some ⟨b 7, 0, none⟩) (vinOf txns ni IR rt ri rs bs).m (vinOf txns ni IR rt ri rs bs).m) (.slice (some ⟨b 4, 0, none⟩) (vinOf txns ni IR rt ri rs bs).m (vinOf txns ni IR rt ri rs bs).m) (.slice (some ⟨b 5, 0, none⟩) (vinOf txns ni IR rt ri rs bs).ni (vinOf txns ni IR rt ri rs bs).ni) (.slice (some ⟨H1, 0, none⟩) (vinOf txns ni IR rt ri rs bs).m (vinOf txns ni IR rt ri rs bs).m) (.slice (some ⟨H1 + 1, 0, none⟩) (vinOf txns ni IR rt ri rs bs).m (vinOf txns ni IR rt ri rs bs).m) (.slice (some ⟨H1 + 2, 0, none⟩) (vinOf txns ni IR rt ri rs bs).m (vinOf txns ni IR rt ri rs bs).m) (.slice (some ⟨H1 + 3, 0, none⟩) (vinOf txns ni IR rt ri rs bs).m (vinOf txns ni IR rt ri rs bs).m) (.slice (some ⟨H2, 0, none⟩) (vinOf txns ni IR rt ri rs bs).m (vinOf txns ni IR rt ri rs bs).m) (.slice (some ⟨H2 + 1, 0, none⟩) (vinOf txns ni IR rt ri rs bs).m (vinOf txns ni IR rt ri rs bs).m) (.slice (some ⟨H2 + 2, 0, none⟩) (vinOf txns ni IR rt ri rs bs).m (vinOf txns ni IR rt ri rs bs).m) (.slice (some ⟨H2 + 3, 0, none⟩) (vinOf txns ni IR rt ri rs bs).m (vinOf txns ni IR rt ri rs bs).m) rfl (z41_row _) rfl rfl rfl rfl rfl rfl rfl rfl rfl rfl rfl rfl rfl rfl rfl rfl rfl rfl ?_; intro wn HOut HKeep)) | fail)
                                    · have HBL := hidden hbel
                                      have HBAD := hidden hbad
                                      clear hbel hbad
                                      have HBN2 : Hid (Below w3.heap.size w3 wn) := HKeep.out _ _ HBL.out.size (HBL.out.alloc HBL.out.size _)
                                      clear HBL HKeep
                                      simp only [Act.put]
                                      go_meet
                                      exact ⟨_, rfl, H11.out.kept HBN2.out, .inl ⟨HOut.out, HBAD.out⟩⟩
                                    · have HBL := hidden hbel
                                      have HNB := hidden hnb
                                      have HEN := hidden hend
                                      have HU1 := hidden hu1
                                      have HU2 := hidden hu2
                                      clear hbel hnb hend hu1 hu2
                                      have HBN2 : Hid (Below w3.heap.size w3 wn) := HKeep.out _ _ HBL.out.size (HBL.out.alloc HBL.out.size _)
                                      have HBN3 : Hid (Below w'.heap.size w' wn) := HKeep.out _ _ (Nat.le_refl _) ((Below.refl _ _).alloc (Nat.le_refl _) _)
                                      have HEN2 := hidden (HEN.out.kept HBN3.out)
                                      have HU12 := hidden (HU1.out.kept HBN3.out)
                                      have HU22 := hidden (HU2.out.kept HBN3.out)
                                      clear HBL HKeep HBN3 HEN HU1 HU2
                                      simp only [Act.put]
                                      go_meet
                                      exact ⟨_, rfl, H11.out.kept HBN2.out, .inr ⟨g, b, ra2, ra3, ra4, ra5, rc2, rc3, rc4, rc5, H1, H2, HOut.out, HNB.out, HEN2.out, HU12.out, HU22.out⟩⟩
                                case rest =>
                                  as_aux_lemma =>
                                    obtain ⟨oB, rfl, H12, HANS⟩ := hcut
                                    have HDM2 := HDM
                                    have HFIT : Hid ((vinOf txns ni IR rt ri rs bs).Fits) := vin_fits HDM.out
                                    have HNS := hidden (nextsame_any xa' ia xc' ic xn ni wc.heap.size ira irc IR txns wc H12.out.hX HXN.out HDM.out.asc H12.out.hI HDM.out.inst b2 b3 HLEN.out rfl)
                                    go_upto_block 2 with (first | (go_at_call 24; refine HNS.out.mono ?_; rintro e w4 ⟨nB, rfl, hb4, hns⟩; have HB4 := hidden hb4; have HNX := hidden hns; clear hb4 hns) | fail)
                                    clear HNS
                                    have H13 : Hid (L8 pa' xa' ia oa' ta' ma' sa' wa' ni ira irc IR ops txns ro rt ri rs bs w1 w4) := H12.out.kept HB4.out
                                    have HAN2 : Hid (Ans (vinOf txns ni IR rt ri rs bs) (stF (opOf ops txns) pn pn) xa' xc' oB w4) := HANS.out.kept HB4.out
                                    clear H12 HANS HB4
                                    go_cut [30] from 234 to 294 (fun v wx => Hid (∃ d, wx = w4.drewN d) ∧ ((v = .bool true ∧ Hid (∀ i, i < bn → ¬ (vinOf txns ni IR rt ri rs bs).Bad i)) ∨ (v = .bool false ∧ Hid (∃ i, i < bn ∧ (vinOf txns ni IR rt ri rs bs).Bad i))))
                                    case first =>
                                      as_aux_lemma =>
                                        go_wp2 --TAGM1
                                        go_loopg [30, 31] bn (fun q v i wr => ∃ k : Nat, k + q = bn ∧ i = .int .i64 (k : Int) ∧ v = .bool true ∧ Hid (∀ i, i < k → ¬ (vinOf txns ni IR rt ri rs bs).Bad i) ∧ Hid (∃ d, wr = w4.drewN d))
                                        case atStart => exact ⟨0, by omega, rfl, rfl, hidden (fun i hi => absurd hi (Nat.not_lt_zero _)), hidden ⟨0, rfl⟩⟩
                                        case round =>
                                          as_aux_lemma =>
                                            obtain ⟨k, hk, rfl, rfl, HG, HD⟩ := hrel
                                            by_cases hlt : (k : Int) < bn
                                            · have HBd : Hid (Below w4.heap.size w4 wr) := by
                                                obtain ⟨d, hd⟩ := HD.out
                                                show Below _ _ _
                                                rw [hd]
                                                exact below_drewN (Below.refl _ _) d
                                              have HD2 : Hid (∀ n, ∃ d, wr.drewN n = w4.drewN d) := fun n => by
                                                obtain ⟨d, hd⟩ := HD.out
                                                exact ⟨d + n, by rw [hd, drewN_two]⟩
                                              have HL := hidden (H13.out.kept HBd.out)
                                              obtain ⟨mb, mo, hma, hcm, him⟩ := HL.out.hM k (by rw [HMN.out]; omega)
                                              obtain ⟨sb, so, hsa, hcs, his⟩ := HL.out.hS k (by rw [HSN.out]; omega)
                                              obtain ⟨tb, tt, hta, hct, hit⟩ := HL.out.hT k (by rw [HTN.out]; omega)
                                              obtain ⟨wb, wo, hwa, hcw⟩ := HL.out.hW k (by rw [HBN.out]; omega)
                                              have hitm := HDM.out.item k (by rw [HTN.out]; omega)
                                              have hseen := HDM.out.seen k (by rw [HTN.out]; omega)
                                              have hrp := has_pos HDM.out (HDM.out.rdr k (by rw [HTN.out]; omega))
                                              have hbad := fun z hz => bad_iff (bs := bs) HDM.out (i := k) (by rw [HTN.out]; omega) (z := z) hz
                                              have hsid : srcId IR ri rs k = if 0 ≤ rs.getD k 0 then (IR (ri.getD k 0).toNat).getD (rs.getD k 0).toNat 0 else 0 := rfl
                                              obtain ⟨x, hx⟩ : ∃ x : Nat, ri.getD k 0 = (x : Int) := ⟨(ri.getD k 0).toNat, by omega⟩
                                              rw [hx] at hcm hitm hseen hbad hsid
                                              simp only [Int.toNat_natCast] at hseen hbad hsid
                                              obtain ⟨S, hS⟩ : ∃ S, rs.getD k 0 = S := ⟨_, rfl⟩
                                              obtain ⟨R, hR⟩ : ∃ S, rt.getD k 0 = S := ⟨_, rfl⟩
                                              obtain ⟨O, hO⟩ : ∃ S, bs.getD k false = S := ⟨_, rfl⟩
                                              rw [hS] at hcs his hseen hsid
                                              rw [hR] at hct hit hrp
                                              rw [hO] at hcw
                                              simp only [hS, hR, hO] at hbad
                                              subst hma hsa hta hwa
                                              have hx2 : (x : Int) < ni := hitm.2
                                              have hi1 := hit.1
                                              have hi2 := hit.2
                                              have hs1 := his.1
                                              have hs2 := his.2
                                              clear him his hit hitm hx hS hR hO
                                              by_cases h0 : 0 ≤ S
                                              · obtain ⟨q, hq⟩ : ∃ q : Nat, S = (q : Int) := ⟨S.toNat, by omega⟩
                                                subst hq
                                                rw [if_pos h0, Int.toNat_natCast] at hsid
                                                obtain ⟨ib, io, hia, hci, hRi, -⟩ := HL.out.hI x (by omega)
                                                obtain ⟨rb, ro', hra, hcr, hir⟩ := hRi q (by omega)
                                                obtain ⟨nb, hcn, hnn⟩ := HNX.out x (by omega)
                                                obtain ⟨z, hcz, hnz⟩ := hnn q (by omega)
                                                have hcn2 := cellOld HBd.out hcn
                                                have hcz2 := cellOld HBd.out hcz
                                                have hbd := hbad z (fun _ => by rw [Int.toNat_natCast]; exact hnz)
                                                rw [hsid] at hbd
                                                obtain ⟨Z, hZ⟩ : ∃ S, (IR x).getD q 0 = S := ⟨_, rfl⟩
                                                obtain ⟨ln, hln⟩ : ∃ S, (IR x).length = S := ⟨_, rfl⟩
                                                obtain ⟨rC, hrC⟩ : ∃ S, irc x = S := ⟨_, rfl⟩
                                                have hZp : 1 ≤ Z := by rw [← hZ]; exact has_pos HDM.out (HDM.out.inst x (by omega) q (by omega))
                                                rw [hZ] at hcr hir hbd
                                                rw [hln] at hci hseen hcn2
                                                rw [hrC, hra] at hci
                                                subst hia
                                                have HBD := hidden hbd
                                                have hz1 := hnz.1
                                                have hz2 := hnz.2.1
                                                have hr1 := hir.1
                                                have hr2 := hir.2
                                                clear hbd hbad hnz hnn hRi hZ hln hrC hra hir hcn hcz hsid
                                                by_cases e1 : Z = R
                                                · have d1 : (Z == R) = true := by simp [e1]
                                                  cases O with
                                                  | true =>
                                                    have HNB : Hid (∀ i, i < k + 1 → ¬ (vinOf txns ni IR rt ri rs bs).Bad i) := fun i hi => by
                                                      by_cases e : i = k
                                                      · subst e
                                                        intro hb
                                                        rcases HBD.out.1 hb with h | ⟨h, -⟩
                                                        · exact h (by simp [e1])
                                                        · cases h
                                                      · exact HG.out i (by omega)
                                                    clear e1 HBD
                                                    go_wp2
                                                    go_quiet (fail)
                                                    go_wp2
                                                    go_roundg (gk - 1)
                                                    case measure => omega
                                                    case rel => exact ⟨k + 1, by omega, by go_num, rfl, HNB, HD2.out _⟩
                                                  | false =>
                                                    have HB : Hid (∃ i, i < bn ∧ (vinOf txns ni IR rt ri rs bs).Bad i) := ⟨k, by omega, HBD.out.2 (.inl (by simp [e1]))⟩
                                                    clear e1 HBD
                                                    go_wp2
                                                    go_quiet (fail)
                                                    go_wp2
                                                    go_meet
                                                    exact ⟨HD2.out _, .inr ⟨rfl, HB⟩⟩
                                                · have d1 : (Z == R) = false := by simp [e1]
                                                  cases O with
                                                  | true =>
                                                    have HB : Hid (∃ i, i < bn ∧ (vinOf txns ni IR rt ri rs bs).Bad i) := ⟨k, by omega, HBD.out.2 (.inl (by simp [e1]))⟩
                                                    clear e1 HBD
                                                    go_wp2
                                                    go_quiet (fail)
                                                    go_wp2
                                                    go_meet
                                                    exact ⟨HD2.out _, .inr ⟨rfl, HB⟩⟩
                                                  | false =>
                                                    have d2 : (Z == 0) = false := by simp; omega
                                                    have d2n : (Z != 0) = true := by simp; omega
                                                    by_cases e2 : z = -1
                                                    · have d3 : (z == -1) = true := by simp [e2]
                                                      have HNB : Hid (∀ i, i < k + 1 → ¬ (vinOf txns ni IR rt ri rs bs).Bad i) := fun i hi => by
                                                        by_cases e : i = k
                                                        · subst e
                                                          intro hb
                                                          rcases HBD.out.1 hb with h | ⟨-, -, h⟩
                                                          · exact h (by simp [e1])
                                                          · exact h e2
                                                        · exact HG.out i (by omega)
                                                      subst e2
                                                      clear e1 HBD d3
                                                      go_wp2
                                                      go_quiet (fail)
                                                      go_wp2
                                                      all_goals
                                                        go_roundg (gk - 1)
                                                        case measure => omega
                                                        case rel => exact ⟨k + 1, by omega, by go_num, rfl, HNB, HD2.out _⟩
                                                    · have d3 : (z == -1) = false := by simp [e2]
                                                      have d3n : (z != -1) = true := by simp [e2]
                                                      have HB : Hid (∃ i, i < bn ∧ (vinOf txns ni IR rt ri rs bs).Bad i) := ⟨k, by omega, HBD.out.2 (.inr ⟨rfl, h0, e2⟩)⟩
                                                      clear e1 HBD
                                                      go_wp2
                                                      go_quiet (fail)
                                                      go_wp2
                                                      go_meet
                                                      exact ⟨HD2.out _, .inr ⟨rfl, HB⟩⟩
                                              · rw [if_neg h0] at hsid
                                                have hbd := hbad 0 (fun h => absurd h h0)
                                                rw [hsid] at hbd
                                                have HBD := hidden hbd
                                                have d1 : ((0 : Int) == R) = false := by simp; omega
                                                have d0 : decide (0 ≤ S) = false := by simp [h0]
                                                clear hbd hbad hsid hseen
                                                cases O with
                                                | true =>
                                                  have HB : Hid (∃ i, i < bn ∧ (vinOf txns ni IR rt ri rs bs).Bad i) := ⟨k, by omega, HBD.out.2 (.inl (by simp; omega))⟩
                                                  clear HBD
                                                  go_wp2
                                                  go_quiet (fail)
                                                  go_wp2
                                                  go_meet
                                                  exact ⟨HD2.out _, .inr ⟨rfl, HB⟩⟩
                                                | false =>
                                                  have HNB : Hid (∀ i, i < k + 1 → ¬ (vinOf txns ni IR rt ri rs bs).Bad i) := fun i hi => by
                                                    by_cases e : i = k
                                                    · subst e
                                                      intro hb
                                                      rcases HBD.out.1 hb with h | ⟨-, h, -⟩
                                                      · exact h (by simp; omega)
                                                      · exact h0 h
                                                    · exact HG.out i (by omega)
                                                  clear HBD
                                                  go_wp2
                                                  go_quiet (fail)
                                                  go_wp2
                                                  go_roundg (gk - 1)
                                                  case measure => omega
                                                  case rel => exact ⟨k + 1, by omega, by go_num, rfl, HNB, HD2.out _⟩
                                            · have e : k = bn := by omega
                                              subst e
                                              go_wp2
                                              go_meet
                                              exact ⟨HD, .inl ⟨rfl, HG⟩⟩
                                    case rest =>
                                      as_aux_lemma =>
                                        obtain ⟨HDr, hv⟩ := hcut
                                        have HBD : Hid (Below w4.heap.size w4 wc) := by
                                          obtain ⟨d, hd⟩ := HDr.out
                                          show Below _ _ _
                                          rw [hd]
                                          exact below_drewN (Below.refl _ _) d
                                        have H14 : Hid (L8 pa' xa' ia oa' ta' ma' sa' wa' ni ira irc IR ops txns ro rt ri rs bs w1 wc) := H13.out.kept HBD.out
                                        have HAN3 : Hid (Ans (vinOf txns ni IR rt ri rs bs) (stF (opOf ops txns) pn pn) xa' xc' oB wc) := HAN2.out.kept HBD.out
                                        clear H13 HAN2 HNX HBD HDr
                                        rcases hv with ⟨rfl, HG⟩ | ⟨rfl, HBad⟩
                                        rotate_left
                                        · obtain ⟨c0, c1⟩ := HAN3.out.no (by obtain ⟨i, h1, h2⟩ := HBad.out; exact ⟨i, by show i < rt.length; rw [HTN.out]; exact h1, h2⟩)
                                          go_wp2
                                          go_ret
                                          exact BoolKept.mk true rfl rfl H14.out.bel
                                        obtain ⟨b1', b7, p4, p5, p6, p8, p9, H1, H2, ra4, ra5, rc4, rc5, HBk⟩ := HAN3.out.ok (m := xn) (ni := ni) HXN.out rfl (fun i hi => HG.out i (by have h : i < rt.length := hi; rw [HTN.out] at h; exact h))
                                        clear HAN3 HG
                                        have c0 := HBk.out.bk.c0
                                        have c1 := HBk.out.bk.c1
                                        have c2 := HBk.out.c2
                                        have c7 := HBk.out.c7
                                        have HEQ := hidden (eq_same xa' xa' xc' xc' xn txns wc H14.out.hX H14.out.hX HXN.out (by omega))
                                        go_upto_block 4 with (first | (go_at_call 25; refine HEQ.out.mono ?_; rintro e w' ⟨rfl, nd, rfl⟩) | fail)
                                        clear HEQ c0 c1 c2 c7
                                        have HBd : Hid (Below wc.heap.size wc (wc.drewN nd)) := below_drewN (Below.refl _ _) nd
                                        have H15 := hidden (H14.out.kept HBd.out)
                                        have HBk2 := hidden (HBk.out.kept HBd.out)
                                        clear H14 HBk HBd
                                        obtain ⟨w5, hw5⟩ : ∃ w, wc.drewN nd = w := ⟨_, rfl⟩
                                        rw [hw5] at H15 HBk2 ⊢
                                        clear hw5
                                        go_cut [] from 295 to 332 (fun wx => wx = w5)
                                        case first =>
                                          as_aux_lemma =>
                                            go_wp2 --TAGM2
                                            go_loopg [35] xn (fun q i wr => ∃ k : Nat, k + q = xn ∧ i = .int .i64 (k : Int) ∧ wr = w5)
                                            case atStart => exact ⟨0, by omega, rfl, rfl⟩
                                            case round =>
                                              as_aux_lemma =>
                                                obtain ⟨k, hk, rfl, rfl⟩ := hrel
                                                by_cases hlt : (k : Int) < xn
                                                · have c7 := HBk2.out.c7
                                                  have hc := HBk2.out.r7 k (by omega)
                                                  go_wp2
                                                  go_roundg (gk - 1)
                                                  case measure => omega
                                                  case rel => exact ⟨k + 1, by omega, by go_num, rfl⟩
                                                · have e : k = xn := by omega
                                                  subst e
                                                  go_wp2
                                                  go_meet
                                                  exact rfl
                                        case rest =>
                                          as_aux_lemma =>
                                            subst hcut
                                            have HMK : Hid (∀ n : Nat, n ≤ 1048576 → ∀ w : World, (Instr.makeSlice 24 (.int .i64 (n : Int)) (.int .i64 (n : Int))).run Try.prog w = .ok (.slice (some ⟨w.heap.size, 0, none⟩) n n) (w.alloc (.cells (madeCells #[.int .i64 0] n) 3))) := fun n hn => run_make_row' (P := Try.prog) 24 3 (.int .i64 0) 8 Try.underlying24 Try.info3 rfl .i64 .i64 n (by omega) (by omega)
                                            have HMKB : Hid (∀ n : Nat, n ≤ 1048576 → ∀ w : World, (Instr.makeSlice 28 (.int .i64 (n : Int)) (.int .i64 (n : Int))).run Try.prog w = .ok (.slice (some ⟨w.heap.size, 0, none⟩) n n) (w.alloc (.cells (madeCells #[.bool false] n) 4))) := fun n hn => run_make_row' (P := Try.prog) 28 4 (.bool false) 1 Try.underlying28 infoB rfl .i64 .i64 n (by omega) (by omega)
                                            have HMKR : Hid (∀ n : Nat, n ≤ 1048576 → ∀ w : World, (Instr.makeSlice 22 (.int .i64 (n : Int)) (.int .i64 (n : Int))).run Try.prog w = .ok (.slice (some ⟨w.heap.size, 0, none⟩) n n) (w.alloc (.cells (madeCells #[.slice none 0 0] n) 24))) := fun n hn => run_make_row' (P := Try.prog) 22 24 (.slice none 0 0) 24 Try.underlying22 Try.info24' rfl .i64 .i64 n (by omega) (by omega)
                                            have HMKS : Hid (∀ n : Nat, n ≤ 1048576 → ∀ w : World, (Instr.makeSlice 39 (.int .i64 (n : Int)) (.int .i64 (n : Int))).run Try.prog w = .ok (.slice (some ⟨w.heap.size, 0, none⟩) n n) (w.alloc (.cells (madeCells #[.slice none 0 0] n) 28))) := fun n hn => run_make_row' (P := Try.prog) 39 28 (.slice none 0 0) 24 Try.underlying39 Try.info28' rfl .i64 .i64 n (by omega) (by omega)
                                            obtain ⟨S0, hS0⟩ : ∃ n, wc.heap.size = n := ⟨_, rfl⟩
                                            have hmk1 := HMK.out xn b2
                                            have hmk2 := HMKB.out xn b2
                                            go_upto_block 6 with fail
                                            clear hmk1 hmk2
                                            have HR0 : Hid (((wc.alloc (.cells (madeCells #[.int .i64 0] xn) 3)).alloc (.cells (madeCells #[.bool false] xn) 4)).rowIs S0 3 xn (fun _ => .int .i64 0)) := (rowIs_at hS0).alloc _
                                            have HR1 : Hid (((wc.alloc (.cells (madeCells #[.int .i64 0] xn) 3)).alloc (.cells (madeCells #[.bool false] xn) 4)).rowIs (S0 + 1) 4 xn (fun _ => .bool false)) := rowIs_at (by simp [hS0])
                                            have HB0 : Hid (Below wc.heap.size wc ((wc.alloc (.cells (madeCells #[.int .i64 0] xn) 3)).alloc (.cells (madeCells #[.bool false] xn) 4))) := ((Below.refl _ _).alloc (Nat.le_refl _) _).alloc (by simp) _
                                            have HS0 := hidden hS0
                                            clear hS0
                                            go_cut [] from 333 to 360 (fun wx => Hid (Below wc.heap.size wc wx) ∧ Hid (wx.rowIs S0 3 xn (fun t => .int .i64 (stF (opOf ops txns) pn pn t))))
                                            case first =>
                                              as_aux_lemma =>
                                                go_wp2 --TAGM3
                                                go_loopg [38] pn (fun q i wr => ∃ (k : Nat) (fs : Nat → Int) (fh : Nat → Bool), k + q = pn ∧ i = .int .i64 (k : Int) ∧ Hid (StIv (opOf ops txns) xn k fs fh) ∧ Hid (wr.rowIs S0 3 xn (fun t => .int .i64 (fs t))) ∧ Hid (wr.rowIs (S0 + 1) 4 xn (fun t => .bool (fh t))) ∧ Hid (Below wc.heap.size wc wr))
                                                case atStart => exact ⟨0, _, _, by omega, rfl, StIv.start _ _, HR0, HR1, HB0⟩
                                                case round =>
                                                  as_aux_lemma =>
                                                    clear HR0 HR1 HB0
                                                    obtain ⟨k, fs, fh, hk, rfl, HST, HR0, HR1, HB0⟩ := hrel
                                                    by_cases hlt : (k : Int) < pn
                                                    · have HL := hidden (H15.out.kept HB0.out)
                                                      obtain ⟨pb, po, hpa, hcp, hip⟩ := HL.out.hP k (by rw [HPN.out]; omega)
                                                      have hhas := HDM.out.ops k (by rw [HPN.out]; omega)
                                                      have HPOS := hidden (posOf_any xa' xc' xn txns _ wr HL.out.hX HXN.out b2 HDM.out.asc hhas)
                                                      have hpl := posOf_lt hhas HXN.out
                                                      have hop : opOf ops txns k = posOf txns (ops.getD k 0) := rfl
                                                      obtain ⟨T, hT⟩ : ∃ T, ops.getD k 0 = T := ⟨_, rfl⟩
                                                      rw [hT] at hcp hip HPOS hpl hop
                                                      obtain ⟨p, hp⟩ : ∃ p, posOf txns T = p := ⟨_, rfl⟩
                                                      rw [hp] at HPOS hpl hop
                                                      have HOP := hidden hop
                                                      subst hpa
                                                      have hi1 := hip.1
                                                      have hi2 := hip.2
                                                      have hp2 : (p : Int) < xn := by omega
                                                      have hcs := HR0.out.cell (i := p) hpl
                                                      have hfs := HR0.out.frozen p
                                                      have hch := HR1.out.cell (i := p) hpl
                                                      have hfh := HR1.out.frozen p
                                                      have hn1 : S0 ≠ S0 + 1 := by omega
                                                      have hn2 : S0 + 1 ≠ S0 := by omega
                                                      clear hhas hip hop hp hT
                                                      cases hF : fh p with
                                                      | true =>
                                                        rw [hF] at hch
                                                        have HST2 : Hid (StIv (opOf ops txns) xn (k + 1) fs fh) := HST.out.old (by rw [HOP.out]; exact hpl) (by rw [HOP.out]; exact hF)
                                                        clear hF
                                                        go_wp2_with (first | (go_at_call 26; refine HPOS.out.mono ?_; rintro e w' ⟨rfl, rfl⟩) | fail)
                                                        go_roundg (gk - 1)
                                                        case measure => omega
                                                        case rel => exact ⟨k + 1, fs, fh, by omega, by go_num, HST2, HR0, HR1, HB0⟩
                                                      | false =>
                                                        rw [hF] at hch
                                                        have HST2 : Hid (StIv (opOf ops txns) xn (k + 1) (fun t => if t = p then (k : Int) else fs t) (fun t => if t = p then true else fh t)) := HST.out.new hpl HOP.out hF
                                                        have HR02 : Hid (((wr.setCell ⟨S0 + 1, p, none⟩ (.bool true)).setCell ⟨S0, p, none⟩ (.int .i64 (k : Int))).rowIs S0 3 xn (fun t => .int .i64 (if t = p then (k : Int) else fs t))) := ((HR0.out.setOther hn1 _).set p _).congr (fun u _ => by by_cases e : u = p <;> simp [e])
                                                        have HR12 : Hid (((wr.setCell ⟨S0 + 1, p, none⟩ (.bool true)).setCell ⟨S0, p, none⟩ (.int .i64 (k : Int))).rowIs (S0 + 1) 4 xn (fun t => .bool (if t = p then true else fh t))) := ((HR1.out.set p _).setOther hn2 _).congr (fun u _ => by by_cases e : u = p <;> simp [e])
                                                        have HB02 : Hid (Below wc.heap.size wc ((wr.setCell ⟨S0 + 1, p, none⟩ (.bool true)).setCell ⟨S0, p, none⟩ (.int .i64 (k : Int)))) := (HB0.out.setCell (by rw [HS0.out]; show S0 ≤ S0 + 1; omega) _).setCell (by rw [HS0.out]; exact Nat.le_refl _) _
                                                        clear hF HR0 HR1 HB0
                                                        go_wp2_with (first | (go_at_call 26; refine HPOS.out.mono ?_; rintro e w' ⟨rfl, rfl⟩) | fail)
                                                        go_roundg (gk - 1)
                                                        case measure => omega
                                                        case rel => exact ⟨k + 1, _, _, by omega, by go_num, HST2, HR02, HR12, HB02⟩
                                                    · have e : k = pn := by omega
                                                      subst e
                                                      go_wp2
                                                      go_meet
                                                      exact ⟨HB0, hidden (HR0.out.congr (fun t ht => by rw [HST.out.fin ht]))⟩
                                            case rest =>
                                              as_aux_lemma =>
                                                clear HR0 HR1 HB0
                                                obtain ⟨HB0, HR0⟩ := hcut
                                                have H16 := hidden (H15.out.kept HB0.out)
                                                have HBk3 := hidden (HBk2.out.kept HB0.out)
                                                clear H15 HBk2 HB0 HS0
                                                have c3 := HBk3.out.c3
                                                have HEQ := hidden (eq_same (some ⟨b1', 0, none⟩) (some ⟨S0, 0, none⟩) xn xn xn ((List.range xn).map (stF (opOf ops txns) pn pn)) wc HBk3.out.r1 (row_of_rowIs HR0.out (fun t _ => rfl) (fun t _ => stF_i64 _ pn b1 pn t)) (by simp) (by omega))
                                                go_upto_region 83 with (first | (go_at_call 25; refine HEQ.out.mono ?_; rintro e w' ⟨rfl, nd2, rfl⟩) | fail)
                                                clear HEQ c3 HR0
                                                have HBd : Hid (Below wc.heap.size wc (wc.drewN nd2)) := below_drewN (Below.refl _ _) nd2
                                                have H17 := hidden (H16.out.kept HBd.out)
                                                have HBk4 := hidden (HBk3.out.kept HBd.out)
                                                clear H16 HBk3 HBd
                                                obtain ⟨w7, hw7⟩ : ∃ w, wc.drewN nd2 = w := ⟨_, rfl⟩
                                                rw [hw7] at H17 HBk4 ⊢
                                                clear hw7
                                                obtain ⟨V, hV⟩ : ∃ V, vinOf txns ni IR rt ri rs bs = V := ⟨_, rfl⟩
                                                have HVM : Hid (V.m = xn) := by rw [← hV]; exact HXN.out
                                                have hVN : V.ni = ni := by rw [← hV]; rfl
                                                have HVR : Hid (V.nr = bn) := by rw [← hV]; exact HTN.out
                                                have HROW : Hid (∀ x, V.row x = (IR x).map (posOf txns)) := by rw [← hV]; exact fun _ => rfl
                                                rw [hV] at HBk4 HFIT
                                                have HV := hidden hV
                                                clear hV
                                                obtain ⟨F0, hF0⟩ : ∃ n, w7.heap.size = n := ⟨_, rfl⟩
                                                have hmk1 := HMK.out xn b2
                                                have hmk2 := HMK.out ni b3
                                                have hmk3 := HMKR.out xn b2
                                                have hmk4 := HMKR.out ni b3
                                                have HG0 := hidden (gmC_start (m := xn) (ni := ni) hF0)
                                                go_upto_block 8 with fail
                                                clear hmk1 hmk2 hmk3 hmk4
                                                have HC0 : Hid (Cc V 0 0 0 (fun _ => []) ctC) := Cc.start (fun t _ => rfl)
                                                have HF0 := hidden hF0
                                                clear hF0
                                                go_cut [] from 361 to 443 (fun wx => ∃ ct v L, Hid (Gm (cC F0 xn ni) w7 ct v L wx) ∧ Hid (Cc V ni 0 ni L ct))
                                                case first =>
                                                  as_aux_lemma =>
                                                    go_wp2 --TAGM4
                                                    go_loopg [44] ni (fun q i wr => ∃ (x : Nat) (ct : Nat → Nat → Value) (v : Nat → Value) (L : Nat → List Nat), x + q = ni ∧ i = .int .i64 (x : Int) ∧ Hid (Gm (cC F0 xn ni) w7 ct v L wr) ∧ Hid (Cc V x 0 x L ct))
                                                    case atStart => exact ⟨0, _, _, _, by omega, rfl, HG0, HC0⟩
                                                    case round =>
                                                      as_aux_lemma =>
                                                        clear HG0 HC0
                                                        obtain ⟨x, ct, v, L, hx, rfl, HG, HC⟩ := hrel
                                                        by_cases hlt : (x : Int) < ni
                                                        · have HBl : Hid (Below w7.heap.size w7 wr) := by show Below _ _ _; rw [HF0.out]; exact HG.out.bel
                                                          obtain ⟨ib, io, hia, hci, -, -⟩ := (H17.out.kept HBl.out).hI x (by omega)
                                                          have hRi : Row w7 (ira x) (IR x) := by
                                                            obtain ⟨_, _, _, _, hr, _⟩ := H17.out.hI x (by omega)
                                                            exact hr
                                                          have hlb := HLEN.out x (by omega)
                                                          have hin := HDM.out.inst x (by omega)
                                                          have hrow := HROW.out x
                                                          obtain ⟨ln, hln⟩ : ∃ n, (IR x).length = n := ⟨_, rfl⟩
                                                          obtain ⟨rA, hrA⟩ : ∃ n, ira x = n := ⟨_, rfl⟩
                                                          obtain ⟨rC, hrC⟩ : ∃ n, irc x = n := ⟨_, rfl⟩
                                                          have hrl : (V.row x).length = ln := by rw [hrow, List.length_map]; exact hln
                                                          have hrg : ∀ s, s < ln → (V.row x).getD s 0 = posOf txns ((IR x).getD s 0) := fun s hs => by rw [hrow]; exact map_pos_getD _ _ (by rw [hln]; exact hs)
                                                          rw [hln, hrA, hrC] at hci
                                                          rw [hln] at hlb hin
                                                          rw [hrA] at hRi
                                                          subst hia
                                                          have HRi := hidden hRi
                                                          have HIN := hidden hin
                                                          have HLN := hidden hln
                                                          have HRL := hidden hrl
                                                          have HRG := hidden hrg
                                                          clear hRi hin hln hrow hrA hrC hrl hrg
                                                          have hcf : wr.cell? ⟨F0, x, none⟩ = some (ct 0 x) := (HG.out.fix 0 (by show 0 < 4; omega)).cell (i := x) (by show x < ni; omega)
                                                          have hff : wr.frozen? ⟨F0, x, none⟩ = false := (HG.out.fix 0 (by show 0 < 4; omega)).frozen x
                                                          have HG1 : Hid (Gm (cC F0 xn ni) w7 (at' ct 0 (at' (ct 0) x (.int .i64 (-1)))) v L (wr.setCell ⟨F0, x, none⟩ (.int .i64 (-1)))) := HG.out.set (i := 0) (by show 0 < 4; omega) (fun _ => rfl) x _
                                                          have HC1 : Hid (Cc V x 0 x L (at' ct 0 (at' (ct 0) x (.int .i64 (-1))))) := HC.out.setF (Nat.le_refl _) _
                                                          clear HG HC HBl
                                                          go_upto_if 388 with fail
                                                          clear hcf hff
                                                          obtain ⟨wy, hwy⟩ : ∃ w, wr.setCell ⟨F0, x, none⟩ (.int .i64 (-1)) = w := ⟨_, rfl⟩
                                                          obtain ⟨ct1, hct1⟩ : ∃ c, at' ct 0 (at' (ct 0) x (.int .i64 (-1))) = c := ⟨_, rfl⟩
                                                          have hc1x : ct1 0 x = .int .i64 (-1) := by rw [← hct1, at'_same, at'_same]
                                                          rw [hwy, hct1] at HG1
                                                          rw [hct1] at HC1
                                                          rw [hwy]
                                                          have HC1X := hidden hc1x
                                                          clear hwy hct1 hc1x
                                                          go_cut [] from 379 to 399 (fun wx => ∃ ct', Hid (Gm (cC F0 xn ni) w7 ct' v L wx) ∧ Hid (Cc V x 0 (x + 1) L ct'))
                                                          case first =>
                                                            as_aux_lemma =>
                                                              by_cases h0 : ln = 0
                                                              · subst h0
                                                                have HC2 : Hid (Cc V x 0 (x + 1) L ct1) := HC1.out.fin (by
                                                                  rw [HC1X.out]
                                                                  unfold VIn.final
                                                                  rw [if_pos (List.length_eq_zero_iff.1 HRL.out)])
                                                                go_wp2
                                                                go_meet
                                                                exact ⟨ct1, HG1, HC2⟩
                                                              · obtain ⟨l, hl⟩ : ∃ l, ln = l + 1 := ⟨ln - 1, by omega⟩
                                                                have HBl : Hid (Below w7.heap.size w7 wy) := by show Below _ _ _; rw [HF0.out]; exact HG1.out.bel
                                                                obtain ⟨rb, ro', hra, hcr, hir⟩ := HRi.out.kept HBl.out l (by rw [HLN.out]; omega)
                                                                have hhas := HIN.out l (by omega)
                                                                have HPOS := hidden (posOf_any xa' xc' xn txns _ wy (H17.out.hX.kept HBl.out) HXN.out b2 HDM.out.asc hhas)
                                                                have hfin : V.final x = ((posOf txns ((IR x).getD l 0) : Nat) : Int) := by
                                                                  unfold VIn.final
                                                                  rw [if_neg (fun e => by have h := HRL.out; rw [e] at h; exact h0 h.symm), HRL.out, hl, Nat.add_sub_cancel, HRG.out l (by omega)]
                                                                subst hra
                                                                obtain ⟨T, hT⟩ : ∃ T, (IR x).getD l 0 = T := ⟨_, rfl⟩
                                                                rw [hT] at hcr hir HPOS hfin
                                                                obtain ⟨p, hp⟩ : ∃ p, posOf txns T = p := ⟨_, rfl⟩
                                                                rw [hp] at HPOS hfin
                                                                have hi1 := hir.1
                                                                have hi2 := hir.2
                                                                have hcf : wy.cell? ⟨F0, x, none⟩ = some (.int .i64 (-1)) := by
                                                                  have h := (HG1.out.fix 0 (by show 0 < 4; omega)).cell (i := x) (by show x < ni; omega)
                                                                  rw [HC1X.out] at h
                                                                  exact h
                                                                have hff : wy.frozen? ⟨F0, x, none⟩ = false := (HG1.out.fix 0 (by show 0 < 4; omega)).frozen x
                                                                have HG2 : Hid (Gm (cC F0 xn ni) w7 (at' ct1 0 (at' (ct1 0) x (.int .i64 (p : Int)))) v L (wy.setCell ⟨F0, x, none⟩ (.int .i64 (p : Int)))) := HG1.out.set (i := 0) (by show 0 < 4; omega) (fun _ => rfl) x _
                                                                have HC2 : Hid (Cc V x 0 (x + 1) L (at' ct1 0 (at' (ct1 0) x (.int .i64 (p : Int))))) := (HC1.out.setF (Nat.le_refl _) _).fin (by rw [at'_same, at'_same, hfin])
                                                                subst hl
                                                                have hsub : ((l + 1 : Nat) : Int) - 1 = (l : Int) := by omega
                                                                have hl2 : (l : Int) < ((l + 1 : Nat) : Int) := by omega
                                                                have hl3 : (0 : Int) < ((l + 1 : Nat) : Int) := by omega
                                                                clear hT hp hfin hhas hir
                                                                go_wp2_with (first | (go_at_call 26; refine HPOS.out.mono ?_; rintro e w' ⟨rfl, rfl⟩) | fail)
                                                                go_meet
                                                                exact ⟨_, HG2, HC2⟩
                                                          case rest =>
                                                            as_aux_lemma =>
                                                              clear HG1 HC1 HC1X
                                                              obtain ⟨ct2, HG2, HC2⟩ := hcut
                                                              go_wp2
                                                              go_loopg [46] ln (fun q i wr => ∃ (s : Nat) (ct : Nat → Nat → Value) (v : Nat → Value) (L : Nat → List Nat), s + q = ln ∧ i = .int .i64 (s : Int) ∧ Hid (Gm (cC F0 xn ni) w7 ct v L wr) ∧ Hid (Cc V x s (x + 1) L ct))
                                                              case atStart => exact ⟨0, _, _, _, by omega, rfl, HG2, HC2⟩
                                                              case round =>
                                                                as_aux_lemma =>
                                                                  clear HG2 HC2
                                                                  obtain ⟨s, ct, v, L, hs, rfl, HG, HC⟩ := hrel
                                                                  by_cases hls : (s : Int) < ln
                                                                  · have HBl : Hid (Below w7.heap.size w7 wr) := by show Below _ _ _; rw [HF0.out]; exact HG.out.bel
                                                                    obtain ⟨rb, ro', hra, hcr, hir⟩ := HRi.out.kept HBl.out s (by rw [HLN.out]; omega)
                                                                    have hhas := HIN.out s (by omega)
                                                                    have HPOS := hidden (posOf_any xa' xc' xn txns _ wr (H17.out.hX.kept HBl.out) HXN.out b2 HDM.out.asc hhas)
                                                                    have hpl := posOf_lt hhas HXN.out
                                                                    have hrg := HRG.out s (by omega)
                                                                    obtain ⟨I, hI⟩ : ∃ T, (IR x).getD s 0 = T := ⟨_, rfl⟩
                                                                    rw [hI] at hcr hir HPOS hpl hrg
                                                                    obtain ⟨T, hT⟩ : ∃ p, posOf txns I = p := ⟨_, rfl⟩
                                                                    rw [hT] at HPOS hpl hrg
                                                                    have hi1 := hir.1
                                                                    have hi2 := hir.2
                                                                    have hT2 : (T : Int) < xn := by omega
                                                                    have hcs : wr.cell? ⟨F0 + 1 + 1 + 1, T, none⟩ = some (ct 3 T) := (HG.out.fix 3 (by show 3 < 4; omega)).cell (i := T) (by show T < xn; omega)
                                                                    have hfs : wr.frozen? ⟨F0 + 1 + 1 + 1, T, none⟩ = false := (HG.out.fix 3 (by show 3 < 4; omega)).frozen T
                                                                    obtain ⟨f, hf⟩ := HC.out.st
                                                                    obtain ⟨g1, g2, g3, g4⟩ := hf T (by rw [HVM.out]; exact hpl)
                                                                    rw [g1] at hcs
                                                                    obtain ⟨F, hF⟩ : ∃ F, f T = F := ⟨_, rfl⟩
                                                                    rw [hF] at hcs g2 g3 g4
                                                                    have HRGs := hidden hrg
                                                                    have hsl : s < (V.row x).length := by rw [HRL.out]; omega
                                                                    have HSL := hidden hsl
                                                                    have HRi2 : Hid (Row w7 (some ⟨rb, ro', none⟩) (IR x)) := by rw [← hra]; exact HRi
                                                                    clear HRi
                                                                    subst hra
                                                                    clear hI hT hir hhas hf g1 hF hrg hsl
                                                                    by_cases hc1 : F = (x : Int) + 1
                                                                    · have hd1 : (F == (x : Int) + 1) = true := by simp [hc1]
                                                                      have HC2 : Hid (Cc V x (s + 1) (x + 1) L ct) := HC.out.old HSL.out HRGs.out (g4.1 hc1)
                                                                      clear g4 HC
                                                                      go_wp2_with (first | (go_at_call 26; refine HPOS.out.mono ?_; rintro e w' ⟨rfl, rfl⟩) | fail)
                                                                      all_goals
                                                                        go_roundg (gk - 1)
                                                                        case measure => omega
                                                                        case rel => exact ⟨s + 1, ct, v, L, by omega, by go_num, HG, HC2⟩
                                                                    · have hd1 : (F == (x : Int) + 1) = false := by simp [hc1]
                                                                      have hnone : lastTo (V.row x) T s = none := Classical.byContradiction (fun h => hc1 (g4.2 h))
                                                                      have HNO := hidden hnone
                                                                      have HG3 : Hid (Gm (cC F0 xn ni) w7 (at' ct 3 (at' (ct 3) T (.int .i64 ((x : Int) + 1)))) v L (wr.setCell ⟨F0 + 1 + 1 + 1, T, none⟩ (.int .i64 ((x : Int) + 1)))) := HG.out.set (i := 3) (by show 3 < 4; omega) (fun _ => rfl) T _
                                                                      have hl1 : (L (V.m + x)).length ≤ s := by rw [HC.out.lx x (by rw [hVN]; omega)]; exact V.xTo_len x s
                                                                      have hl2 : (L T).length ≤ x + 1 := by rw [HC.out.lw T (by rw [HVM.out]; exact hpl)]; exact V.wTo_len T x s
                                                                      rw [HVM.out] at hl1
                                                                      clear g4 hnone HG
                                                                      go_upto_region 100 with (first | (go_at_call 26; refine HPOS.out.mono ?_; rintro e w' ⟨rfl, rfl⟩) | fail)
                                                                      clear hcs hfs
                                                                      obtain ⟨ct3, hct3⟩ : ∃ c, at' ct 3 (at' (ct 3) T (.int .i64 ((x : Int) + 1))) = c := ⟨_, rfl⟩
                                                                      rw [hct3] at HG3
                                                                      have HCT3 := hidden hct3
                                                                      clear hct3
                                                                      obtain ⟨a2, k2, hv2, hch⟩ := HG3.out.head (cC_ok F0 xn ni) (i := 2) (k := x) (j := xn + x) (by show 2 < 4; omega) (by show x < ni; omega) rfl
                                                                      obtain ⟨n2, hn2⟩ : ∃ n, (L (xn + x)).length = n := ⟨_, rfl⟩
                                                                      rw [hn2] at hl1 hv2 hch
                                                                      have hn2' : n2 ≤ 2000000 := by omega
                                                                      have HNE2 := hidden hn2
                                                                      have HN2 := hidden hn2'
                                                                      have HV2 := hidden hv2
                                                                      clear hn2 hn2' hv2
                                                                      obtain ⟨wa, hwa⟩ : ∃ w, World.setCell w' ⟨F0 + 1 + 1 + 1, T, none⟩ (.int .i64 ((x : Int) + 1)) = w := ⟨_, rfl⟩
                                                                      rw [hwa] at HG3 hch ⊢
                                                                      clear hwa
                                                                      have hch2 : wa.cell? ⟨F0 + 1 + 1, x, none⟩ = some (.slice a2 n2 k2) := hch
                                                                      clear hch
                                                                      go_upto_region 101 with (first | (at_builtin; refine op_at (.call { callee := .builtin .append, args := #[.tmp 429, .tmp 431], argTypes := #[24, 24] }) rfl ?_; refine gm_app wa (cC_ok F0 xn ni) HG3.out rfl (.tmp 429) (.tmp 431) 24 3 (.int .i64 0) 8 rfl Try.underlying24 infoI rfl (by decide) 2 x (xn + x) T (by show 2 < 4; omega) (by show x < ni; omega) rfl rfl n2 HNE2.out _ HV2.out rfl _ rfl rfl rfl HN2.out ?_; intro av2 cv2 w2 hc2 hf2 HG4; have hc2' : w2.cell? ⟨F0 + 1 + 1, x, none⟩ = some (.slice a2 n2 k2) := hc2; have hf2' : w2.frozen? ⟨F0 + 1 + 1, x, none⟩ = false := hf2; clear hc2 hf2) | fail)
                                                                      clear hc2' hf2' hch2 HV2 HN2 HNE2
                                                                      obtain ⟨v2, hv2⟩ : ∃ v2, Value.slice av2 (n2 + 1) cv2 = v2 := ⟨_, rfl⟩
                                                                      rw [hv2] at HG4 ⊢
                                                                      clear hv2
                                                                      obtain ⟨wb, hwb⟩ : ∃ w, World.setCell w2 ⟨F0 + 1 + 1, x, none⟩ v2 = w := ⟨_, rfl⟩
                                                                      have HG5 : Hid (Gm (cC F0 xn ni) w7 (at' ct3 2 (at' (ct3 2) x v2)) (at' v (xn + x) v2) (at' L (xn + x) (L (xn + x) ++ [T])) wb) := by rw [← hwb]; exact HG4
                                                                      rw [hwb]
                                                                      clear hwb HG4 HG3
                                                                      obtain ⟨a3, k3, hv3, hch⟩ := HG5.out.head (cC_ok F0 xn ni) (i := 1) (k := T) (j := T) (by show 1 < 4; omega) (by show T < xn; omega) rfl
                                                                      have hLT : at' L (xn + x) (L (xn + x) ++ [T]) T = L T := at'_other _ _ (by omega)
                                                                      obtain ⟨n3, hn3⟩ : ∃ n, (at' L (xn + x) (L (xn + x) ++ [T]) T).length = n := ⟨_, rfl⟩
                                                                      have hn3' : n3 ≤ 2000000 := by rw [← hn3, hLT]; omega
                                                                      have HNE3 := hidden hn3
                                                                      rw [hn3] at hv3 hch
                                                                      have HN3 := hidden hn3'
                                                                      have HV3 := hidden hv3
                                                                      have hch3 : wb.cell? ⟨F0 + 1, T, none⟩ = some (.slice a3 n3 k3) := hch
                                                                      clear hn3 hn3' hv3 hch hLT
                                                                      go_wp2_with (first | (at_builtin; refine op_at (.call { callee := .builtin .append, args := #[.tmp 439, .tmp 441], argTypes := #[24, 24] }) rfl ?_; refine gm_app wb (cC_ok F0 xn ni) HG5.out rfl (.tmp 439) (.tmp 441) 24 3 (.int .i64 0) 8 rfl Try.underlying24 infoI rfl (by decide) 1 T T x (by show 1 < 4; omega) (by show T < xn; omega) rfl rfl n3 HNE3.out _ HV3.out rfl _ rfl rfl rfl HN3.out ?_; intro av3 cv3 w3 hc3 hf3 HG6; have hc3' : w3.cell? ⟨F0 + 1, T, none⟩ = some (.slice a3 n3 k3) := hc3; have hf3' : w3.frozen? ⟨F0 + 1, T, none⟩ = false := hf3; clear hc3 hf3) | fail)
                                                                      go_roundg (gk - 1)
                                                                      case measure => omega
                                                                      case rel =>
                                                                        refine ⟨s + 1, _, _, _, by omega, by go_num, HG6, ?_⟩
                                                                        have h := HC.out.new (by rw [hVN]; omega) (by rw [HVM.out]; exact hpl) HSL.out HRGs.out HNO.out v2 (.slice av3 (n3 + 1) cv3)
                                                                        rw [HVM.out, HCT3.out] at h
                                                                        exact h
                                                                  · have e : s = ln := by omega
                                                                    subst e
                                                                    have HC3 : Hid (Cc V (x + 1) 0 (x + 1) L ct) := by
                                                                      have h := HC.out
                                                                      rw [← HRL.out] at h
                                                                      exact h.item
                                                                    go_wp2
                                                                    go_roundg (ni - (x + 1))
                                                                    case measure => omega
                                                                    case rel => exact ⟨x + 1, ct, v, L, by omega, by go_num, HG, HC3⟩
                                                        · have e : x = ni := by omega
                                                          subst e
                                                          go_wp2
                                                          go_meet
                                                          exact ⟨ct, v, L, HG, HC⟩
                                                case rest =>
                                                  as_aux_lemma =>
                                                    clear HG0 HC0
                                                    obtain ⟨ctC', vC, LC, HGC, HCC⟩ := hcut
                                                    have HBl : Hid (Below w7.heap.size w7 wc) := by show Below _ _ _; rw [HF0.out]; exact HGC.out.bel
                                                    have H18 := hidden (H17.out.kept HBl.out)
                                                    have HBk5 := hidden (HBk4.out.kept HBl.out)
                                                    have HENDS : Hid ((∀ t, t < xn → LC t = V.writes t ni) ∧ (∀ y, y < ni → LC (xn + y) = V.writers y)) := by
                                                      have h := HCC.out
                                                      rw [← hVN] at h
                                                      have h2 := h.ends
                                                      rw [HVM.out, hVN] at h2
                                                      exact h2
                                                    have HWLEN : Hid (∀ y, y < ni → (V.writers y).length ≤ 1048576) := fun y hy => by
                                                      have h := VIn.writers_len HFIT.out (x := y) (by rw [hVN]; exact hy)
                                                      rw [HVM.out] at h
                                                      omega
                                                    have HWR : Hid (RowsAt wc (some ⟨F0 + 1, 0, none⟩) xn (fun t => addrOf (vC t)) (fun t => capOf (vC t)) (fun t => natInts (V.writes t ni))) :=
                                                      HGC.out.rows (cC_ok F0 xn ni) (i := 1) (n := xn) (by show 1 < 4; omega) rfl (fun t => t) (fun t _ => rfl) (fun _ _ => rfl) (fun y => (y : Int)) (fun _ _ => rfl) (fun t => V.writes t ni) (fun t ht => HENDS.out.1 t ht) (fun t _ y hy => range_nat_i64 (by have h := List.mem_range.1 (List.mem_filter.1 hy).1; omega)) (fun t _ => Nat.le_trans (V.writes_len t ni) b3)
                                                    have HWS : Hid (RowsAt wc (some ⟨F0 + 1 + 1, 0, none⟩) ni (fun t => addrOf (vC (xn + t))) (fun t => capOf (vC (xn + t))) (fun t => natInts (V.writers t))) :=
                                                      HGC.out.rows (cC_ok F0 xn ni) (i := 2) (n := ni) (by show 2 < 4; omega) rfl (fun t => xn + t) (fun t _ => rfl) (fun _ _ => rfl) (fun y => (y : Int)) (fun _ _ => rfl) (fun t => V.writers t) (fun t ht => HENDS.out.2 t ht) (fun t ht y hy => range_nat_i64 (by have h := HFIT.out.row t (by rw [hVN]; exact ht) y ((mem_once _ _).1 hy); rw [HVM.out] at h; omega)) (fun t ht => HWLEN.out t ht)
                                                    have HFN : Hid (Row wc (some ⟨F0, 0, none⟩) ((List.range ni).map V.final)) := row_of_rowIs (HGC.out.fix 0 (by show 0 < 4; omega)) (fun y hy => HCC.out.c0 y hy (by rw [hVN]; exact hy)) (fun y hy => final_i64 HFIT.out (by rw [HVM.out]; exact b2) (by rw [hVN]; exact hy))
                                                    have c4 := HBk5.out.bk.c4
                                                    have c8 := HBk5.out.bk.c8
                                                    have c9 := HBk5.out.bk.c9
                                                    clear H17 HBk4 HBl
                                                    rw [← drewN_zero wc]
                                                    go_upto_region 104 with (first | (go_at_call 25; refine (eqints_at (w := wc) (by exact ⟨_, HBk5.out.bk.r6, HFN.out, by simp⟩) b3 _).mono ?_; rintro e w' ⟨rfl, d1, rfl⟩) | (go_at_call 27; refine (eqrows_at (w := wc) (by first | exact ⟨_, _, _, _, _, HBk5.out.bk.r4, HWR.out⟩ | exact ⟨_, _, _, _, _, HBk5.out.bk.r5, HWS.out⟩) (by omega) _).mono ?_; rintro e w' ⟨rfl, d2, rfl⟩) | fail)
                                                    clear c4 c8 c9 HFN HWS HWLEN HENDS HCC
                                                    obtain ⟨w8, hw8⟩ : ∃ w, wc.drewN d2 = w := ⟨_, rfl⟩
                                                    have HBd : Hid (Below wc.heap.size wc w8) := by show Below _ _ _; rw [← hw8]; exact below_drewN (Below.refl _ _) _
                                                    have H19 := hidden (H18.out.kept HBd.out)
                                                    have HBk6 := hidden (HBk5.out.kept HBd.out)
                                                    have HWR2 := hidden (HWR.out.kept HBd.out)
                                                    rw [hw8]
                                                    clear H18 HBk5 HWR HBd hw8 HGC
                                                    obtain ⟨D0, hD0⟩ : ∃ n, w8.heap.size = n := ⟨_, rfl⟩
                                                    have hmk1 := HMKR.out xn b2
                                                    have hmk2 := HMKS.out xn b2
                                                    have hmk3 := HMK.out xn b2
                                                    have hmk4 := HMK.out ni b3
                                                    have HM0 := hidden ((((((((((Mk10.start (V := V) (m := xn) (ni := ni) hD0).next (z := .slice none 0 0) (l := xn) (t := 24) rfl rfl rfl).next (z := .slice none 0 0) (l := xn) (t := 24) rfl rfl rfl).next (z := .slice none 0 0) (l := xn) (t := 24) rfl rfl rfl).next (z := .slice none 0 0) (l := xn) (t := 28) rfl rfl rfl).next (z := .slice none 0 0) (l := xn) (t := 24) rfl rfl rfl).next (z := .slice none 0 0) (l := xn) (t := 24) rfl rfl rfl).next (z := .slice none 0 0) (l := xn) (t := 24) rfl rfl rfl).next (z := .slice none 0 0) (l := xn) (t := 28) rfl rfl rfl).next (z := .int .i64 0) (l := xn) (t := 3) rfl rfl rfl)
                                                    have HG0 := hidden ((HM0.out.next (z := .int .i64 0) (l := ni) (t := 3) rfl rfl rfl).gm)
                                                    clear HM0
                                                    go_upto_block 12 with fail
                                                    clear hmk1 hmk2 hmk3 hmk4 HMK HMKB HMKR HMKS
                                                    have HD0 : Hid (Dd V 0 0 0 0 (fun _ => []) ctD) := Dd.start (fun _ _ => rfl) (fun _ _ => rfl)
                                                    have HD0s := hidden hD0
                                                    clear hD0
                                                    go_cut [] from 444 to 618 (fun wx => ∃ ct v L, Hid (Gm (cD V D0 xn ni) w8 ct v L wx) ∧ Hid (Dd V bn 0 0 0 L ct))
                                                    case first =>
                                                      as_aux_lemma =>
                                                        go_wp2 --TAGM5
                                                        go_loopg [58] bn (fun q i wr => ∃ (j : Nat) (ct : Nat → Nat → Value) (v : Nat → Value) (L : Nat → List Nat), j + q = bn ∧ i = .int .i64 (j : Int) ∧ Hid (Gm (cD V D0 xn ni) w8 ct v L wr) ∧ Hid (Dd V j 0 0 0 L ct))
                                                        case atStart => exact ⟨0, _, _, _, by omega, rfl, HG0, HD0⟩
                                                        case round =>
                                                          as_aux_lemma =>
                                                            clear HG0 HD0
                                                            obtain ⟨j, ct, v, L, hj, rfl, HG, HD⟩ := hrel
                                                            by_cases hlt : (j : Int) < bn
                                                            · have HBl : Hid (Below w8.heap.size w8 wr) := by show Below _ _ _; rw [HD0s.out]; exact HG.out.bel
                                                              have HL := hidden (H19.out.kept HBl.out)
                                                              obtain ⟨wb, wo, hwa, hcw⟩ := HL.out.hW j (by rw [HBN.out]; omega)
                                                              have hown : V.own j = bs.getD j false := by rw [← HV.out]; rfl
                                                              cases hO : bs.getD j false with
                                                              | true =>
                                                                rw [hO] at hcw hown
                                                                have HD2 : Hid (Dd V (j + 1) 0 0 0 L ct) := HD.out.own hown
                                                                subst hwa
                                                                clear hO hown
                                                                go_wp2
                                                                go_roundg (gk - 1)
                                                                case measure => omega
                                                                case rel => exact ⟨j + 1, ct, v, L, by omega, by go_num, HG, HD2⟩
                                                              | false =>
                                                                rw [hO] at hcw hown
                                                                have HOWN := hidden hown
                                                                obtain ⟨mb, mo, hma, hcm, him⟩ := HL.out.hM j (by rw [HMN.out]; omega)
                                                                obtain ⟨sb, so, hsa, hcs, his⟩ := HL.out.hS j (by rw [HSN.out]; omega)
                                                                obtain ⟨tb, tt, hta, hct, hit⟩ := HL.out.hT j (by rw [HTN.out]; omega)
                                                                have hjr : j < rt.length := by rw [HTN.out]; omega
                                                                have hitm := HDM.out.item j hjr
                                                                have hseen := HDM.out.seen j hjr
                                                                have hhas := HDM.out.rdr j hjr
                                                                have HPOS := hidden (posOf_any xa' xc' xn txns _ wr HL.out.hX HXN.out b2 HDM.out.asc hhas)
                                                                have hTm := posOf_lt hhas HXN.out
                                                                have hrt : V.rt j = posOf txns (rt.getD j 0) := by rw [← HV.out]; rfl
                                                                have hvit : V.it j = (ri.getD j 0).toNat := by rw [← HV.out]; rfl
                                                                have hsrc0 : 0 ≤ rs.getD j 0 → V.src j = some (posOf txns ((IR (ri.getD j 0).toNat).getD (rs.getD j 0).toNat 0)) := fun h => by rw [← HV.out]; exact src_of HDM.out hjr h
                                                                have hsrc1 : ¬ 0 ≤ rs.getD j 0 → V.src j = none := fun h => by rw [← HV.out]; exact src_neg h
                                                                have hsh : 0 ≤ rs.getD j 0 → Has txns ((IR (ri.getD j 0).toNat).getD (rs.getD j 0).toNat 0) := fun h => src_has HDM.out hjr h
                                                                obtain ⟨x, hx⟩ : ∃ x : Nat, ri.getD j 0 = (x : Int) := ⟨(ri.getD j 0).toNat, by omega⟩
                                                                simp only [hx, Int.toNat_natCast] at hcm hitm hseen hvit hsrc0 hsh
                                                                obtain ⟨S, hS⟩ : ∃ S, rs.getD j 0 = S := ⟨_, rfl⟩
                                                                obtain ⟨R, hR⟩ : ∃ S, rt.getD j 0 = S := ⟨_, rfl⟩
                                                                rw [hS] at hcs his hseen hsrc0 hsrc1 hsh
                                                                rw [hR] at hct hit hTm hrt HPOS
                                                                obtain ⟨T, hT⟩ : ∃ S, posOf txns R = S := ⟨_, rfl⟩
                                                                rw [hT] at hTm hrt HPOS
                                                                have HRT := hidden hrt
                                                                have HIT := hidden hvit
                                                                have HS0 := hidden hsrc0
                                                                have HS1 := hidden hsrc1
                                                                have HSH := hidden hsh
                                                                subst hma hsa hta hwa
                                                                have hx2 : (x : Int) < ni := hitm.2
                                                                have hi1 := hit.1
                                                                have hi2 := hit.2
                                                                have hs1 := his.1
                                                                have hs2 := his.2
                                                                have hT2 : (T : Int) < xn := by omega
                                                                clear him his hit hitm hx hS hR hO hown hjr hhas hT hrt hvit hsrc0 hsrc1 hsh
                                                                go_upto_if 506 with (first | (go_at_call 26; refine HPOS.out.mono ?_; rintro e w' ⟨rfl, rfl⟩) | fail)
                                                                clear hct hcw hcm
                                                                go_cut [61] from 488 to 518 (fun v wx => v = .int .i64 (V.srcZ j) ∧ Hid (∃ d, wx = w'.drewN d))
                                                                case first =>
                                                                  as_aux_lemma =>
                                                                    by_cases h0 : 0 ≤ S
                                                                    · obtain ⟨q, hq⟩ : ∃ q : Nat, S = (q : Int) := ⟨S.toNat, by omega⟩
                                                                      subst hq
                                                                      obtain ⟨ib, io, hia, hci, hRi, -⟩ := HL.out.hI x (by omega)
                                                                      obtain ⟨rb, ro', hra, hcr, hir⟩ := hRi q (by omega)
                                                                      have hhas := HSH.out h0
                                                                      have hsr := HS0.out h0
                                                                      rw [Int.toNat_natCast] at hhas hsr
                                                                      have HPQ := hidden (fun d => posOf_quiet (xc := xc') HL.out.hX HXN.out b2 HDM.out.asc hhas d)
                                                                      have hsz := srcZ_of hsr
                                                                      obtain ⟨Z, hZ⟩ : ∃ S, (IR x).getD q 0 = S := ⟨_, rfl⟩
                                                                      obtain ⟨ln, hln⟩ : ∃ S, (IR x).length = S := ⟨_, rfl⟩
                                                                      obtain ⟨rC, hrC⟩ : ∃ S, irc x = S := ⟨_, rfl⟩
                                                                      rw [hZ] at hcr hir HPQ hsz
                                                                      rw [hln] at hci hseen
                                                                      rw [hrC, hra] at hci
                                                                      obtain ⟨s, hs⟩ : ∃ S, posOf txns Z = S := ⟨_, rfl⟩
                                                                      rw [hs] at HPQ hsz
                                                                      have HSZ := hidden hsz
                                                                      have hr1 := hir.1
                                                                      have hr2 := hir.2
                                                                      subst hia
                                                                      clear hRi hZ hln hrC hra hir hhas hsr hsz hs
                                                                      go_wp2
                                                                      go_quiet ((go_at_call 26; exact HPQ.out _))
                                                                      go_wp2
                                                                      go_meet
                                                                      exact ⟨by rw [HSZ.out], hidden ⟨_, rfl⟩⟩
                                                                    · have hsz := srcZ_no (HS1.out (by omega))
                                                                      have HSZ := hidden hsz
                                                                      clear hsz
                                                                      go_wp2
                                                                      go_meet
                                                                      exact ⟨by rw [HSZ.out], hidden ⟨0, rfl⟩⟩
                                                                case rest =>
                                                                  as_aux_lemma =>
                                                                    obtain ⟨rfl, HDr⟩ := hcut
                                                                    have HBd : Hid (Below w'.heap.size w' wc) := by
                                                                      obtain ⟨d, hd⟩ := HDr.out
                                                                      show Below _ _ _
                                                                      rw [hd]
                                                                      exact below_drewN (Below.refl _ _) d
                                                                    have HG1 := hidden (HG.out.kept HBd.out)
                                                                    have HBl1 : Hid (Below w8.heap.size w8 wc) := HBl.out.trans (HBd.out.mono HBl.out.size)
                                                                    have hWR := HWR2.out.kept HBl1.out
                                                                    have hcw := rowsAt_cell hWR hTm
                                                                    have hRW : Row wc (addrOf (vC T)) (natInts (V.writes T ni)) := by
                                                                      obtain ⟨_, _, _, _, h, _⟩ := hWR T hTm
                                                                      exact h
                                                                    have hwr := VIn.wr_has (V := V) HRT.out (by rw [HIT.out, hVN]; omega)
                                                                    rw [HIT.out, hVN] at hwr
                                                                    have hso := (sorted_any (addrOf (vC T)) (capOf (vC T)) (V.writes T ni).length (natInts (V.writes T ni)) (x : Int) wc hRW (natInts_length _) (Nat.le_trans (V.writes_len T ni) b3) (V.writes_asc T ni))
                                                                    have HSO : Hid (Calls Try.prog 28 #[.slice (addrOf (vC T)) (V.writes T ni).length (capOf (vC T)), .int .i64 (x : Int)] wc fun e w' => e = .returned (.bool (V.wr j)) ∧ w' = wc) := hso.mono fun e w' ⟨r, h1, h2, h3⟩ => by
                                                                      have e2 : r = V.wr j := by
                                                                        cases hr : r with
                                                                        | true => exact (hwr.2 (h2.1 hr)).symm
                                                                        | false =>
                                                                          cases hw : V.wr j with
                                                                          | false => rfl
                                                                          | true => have := h2.2 (hwr.1 hw); rw [hr] at this; cases this
                                                                      exact ⟨by rw [h1, e2], h3⟩
                                                                    obtain ⟨wA, hwA⟩ : ∃ a, addrOf (vC T) = a := ⟨_, rfl⟩
                                                                    obtain ⟨wC, hwC⟩ : ∃ a, capOf (vC T) = a := ⟨_, rfl⟩
                                                                    obtain ⟨wl, hwl⟩ : ∃ a, (V.writes T ni).length = a := ⟨_, rfl⟩
                                                                    rw [hwA, hwC, hwl] at hcw HSO
                                                                    clear hso hwr hRW hWR hwA hwC hwl HDr HBl HBl1 HL HG HBd HPOS HSH hcs
                                                                    go_upto_region 124 with (first | (go_at_call 28; refine HSO.out.mono ?_; rintro e wz0 ⟨rfl, rfl⟩) | fail)
                                                                    clear HSO hcw
                                                                    have HG := HG1
                                                                    clear HG1
                                                                    obtain ⟨cz0, hct0⟩ : ∃ c, ct = c := ⟨_, rfl⟩
                                                                    obtain ⟨vz0, hv0⟩ : ∃ c, v = c := ⟨_, rfl⟩
                                                                    obtain ⟨lz0, hL0⟩ : ∃ c, L = c := ⟨_, rfl⟩
                                                                    rw [hct0, hv0, hL0] at HG
                                                                    rw [hct0, hL0] at HD
                                                                    clear hct0 hv0 hL0
                                                                    obtain ⟨a2, k2, hv2, hch⟩ := HG.out.head (cD_ok V D0 xn ni) (i := 0) (k := T) (j := 0 * xn + T) (by show 0 < 10; omega) (by show T < xn; exact hTm) rfl
                                                                    have hle : (lz0 (0 * xn + T)).length ≤ j + 1 := HD.out.len_r HVM.out (f := 0) (by omega) hTm
                                                                    obtain ⟨n2, hn2⟩ : ∃ n, (lz0 (0 * xn + T)).length = n := ⟨_, rfl⟩
                                                                    rw [hn2] at hle hv2 hch
                                                                    have hle2 : n2 ≤ 2000000 := by omega
                                                                    have hch2 : wz0.cell? ⟨D0, T, none⟩ = some (.slice a2 n2 k2) := hch
                                                                    have HN2 := hidden hn2
                                                                    have HV2 := hidden hv2
                                                                    have HLE := hidden hle2
                                                                    have HCF : Hid ((cD V D0 xn ni).cl (0 * xn + T) j = .int .i64 (T : Int)) := by show _ = _; rw [cD_cl hTm]; show Value.int .i64 (V.rt j : Int) = _; rw [HRT.out]
                                                                    have HET : Hid ((cD V D0 xn ni).eT (0 * xn + T) = 3) := cD_eT hTm
                                                                    clear hn2 hv2 hch hle hle2
                                                                    go_upto_region 125 with (first | (at_builtin; refine op_at (.call { callee := .builtin .append, args := #[.tmp 530, .tmp 532], argTypes := #[24, 24] }) rfl ?_; refine gm_app wz0 (cD_ok V D0 xn ni) HG.out rfl (.tmp 530) (.tmp 532) 24 3 (.int .i64 0) 8 rfl Try.underlying24 infoI rfl (by decide) 0 T (0 * xn + T) j (by show 0 < 10; omega) (by show T < xn; exact hTm) rfl HET.out n2 HN2.out _ HV2.out (by go_simp) _ HCF.out rfl (by go_simp) HLE.out ?_; intro av2 cv2 w2 hc2 hf2 HG4; have hc2' : w2.cell? ⟨D0, T, none⟩ = some (.slice a2 n2 k2) := hc2; have hf2' : w2.frozen? ⟨D0, T, none⟩ = false := hf2; clear hc2 hf2) | fail)
                                                                    clear hc2' hf2' hch2 HV2 HN2 HLE HCF HET
                                                                    have HDn : Hid (Dd V j (1) 0 0 (at' lz0 (0 * xn + T) (lz0 (0 * xn + T) ++ [j])) (at' cz0 0 (at' (cz0 0) T (.slice av2 (n2 + 1) cv2)))) := by
                                                                      have h := HD.out.rd (e := 0) HOWN.out (by omega) (by rw [HVM.out]; exact hTm) HRT.out (at' (cz0 0) T (.slice av2 (n2 + 1) cv2))
                                                                      rw [HVM.out] at h
                                                                      exact h
                                                                    obtain ⟨wz1, hwz1⟩ : ∃ w, World.setCell w2 ⟨D0, T, none⟩ (.slice av2 (n2 + 1) cv2) = w := ⟨_, rfl⟩
                                                                    obtain ⟨cz1, hcz1⟩ : ∃ c, at' cz0 0 (at' (cz0 0) T (.slice av2 (n2 + 1) cv2)) = c := ⟨_, rfl⟩
                                                                    obtain ⟨vz1, hvz1⟩ : ∃ c, at' vz0 (0 * xn + T) (.slice av2 (n2 + 1) cv2) = c := ⟨_, rfl⟩
                                                                    obtain ⟨lz1, hlz1⟩ : ∃ c, at' lz0 (0 * xn + T) (lz0 (0 * xn + T) ++ [j]) = c := ⟨_, rfl⟩
                                                                    have HGn : Hid (Gm (cD V D0 xn ni) w8 cz1 vz1 lz1 wz1) := by rw [← hwz1, ← hcz1, ← hvz1, ← hlz1]; exact HG4
                                                                    rw [hcz1, hlz1] at HDn
                                                                    rw [hwz1]
                                                                    clear hwz1 hcz1 hvz1 hlz1 HG4 HG HD
                                                                    have HG := HGn
                                                                    have HD := HDn
                                                                    clear HGn HDn
                                                                    obtain ⟨a2, k2, hv2, hch⟩ := HG.out.head (cD_ok V D0 xn ni) (i := 1) (k := T) (j := 1 * xn + T) (by show 1 < 10; omega) (by show T < xn; exact hTm) rfl
                                                                    have hle : (lz1 (1 * xn + T)).length ≤ j + 1 := HD.out.len_r HVM.out (f := 1) (by omega) hTm
                                                                    obtain ⟨n2, hn2⟩ : ∃ n, (lz1 (1 * xn + T)).length = n := ⟨_, rfl⟩
                                                                    rw [hn2] at hle hv2 hch
                                                                    have hle2 : n2 ≤ 2000000 := by omega
                                                                    have hch2 : wz1.cell? ⟨D0 + 1, T, none⟩ = some (.slice a2 n2 k2) := hch
                                                                    have HN2 := hidden hn2
                                                                    have HV2 := hidden hv2
                                                                    have HLE := hidden hle2
                                                                    have HCF : Hid ((cD V D0 xn ni).cl (1 * xn + T) j = .int .i64 (x : Int)) := by show _ = _; rw [cD_cl hTm]; show Value.int .i64 (V.it j : Int) = _; rw [HIT.out]
                                                                    have HET : Hid ((cD V D0 xn ni).eT (1 * xn + T) = 3) := cD_eT hTm
                                                                    clear hn2 hv2 hch hle hle2
                                                                    go_upto_region 126 with (first | (at_builtin; refine op_at (.call { callee := .builtin .append, args := #[.tmp 540, .tmp 542], argTypes := #[24, 24] }) rfl ?_; refine gm_app wz1 (cD_ok V D0 xn ni) HG.out rfl (.tmp 540) (.tmp 542) 24 3 (.int .i64 0) 8 rfl Try.underlying24 infoI rfl (by decide) 1 T (1 * xn + T) j (by show 1 < 10; omega) (by show T < xn; exact hTm) rfl HET.out n2 HN2.out _ HV2.out (by go_simp) _ HCF.out rfl (by go_simp) HLE.out ?_; intro av2 cv2 w2 hc2 hf2 HG4; have hc2' : w2.cell? ⟨D0 + 1, T, none⟩ = some (.slice a2 n2 k2) := hc2; have hf2' : w2.frozen? ⟨D0 + 1, T, none⟩ = false := hf2; clear hc2 hf2) | fail)
                                                                    clear hc2' hf2' hch2 HV2 HN2 HLE HCF HET
                                                                    have HDn : Hid (Dd V j (2) 0 0 (at' lz1 (1 * xn + T) (lz1 (1 * xn + T) ++ [j])) (at' cz1 1 (at' (cz1 1) T (.slice av2 (n2 + 1) cv2)))) := by
                                                                      have h := HD.out.rd (e := 1) HOWN.out (by omega) (by rw [HVM.out]; exact hTm) HRT.out (at' (cz1 1) T (.slice av2 (n2 + 1) cv2))
                                                                      rw [HVM.out] at h
                                                                      exact h
                                                                    obtain ⟨wz2, hwz2⟩ : ∃ w, World.setCell w2 ⟨D0 + 1, T, none⟩ (.slice av2 (n2 + 1) cv2) = w := ⟨_, rfl⟩
                                                                    obtain ⟨cz2, hcz2⟩ : ∃ c, at' cz1 1 (at' (cz1 1) T (.slice av2 (n2 + 1) cv2)) = c := ⟨_, rfl⟩
                                                                    obtain ⟨vz2, hvz2⟩ : ∃ c, at' vz1 (1 * xn + T) (.slice av2 (n2 + 1) cv2) = c := ⟨_, rfl⟩
                                                                    obtain ⟨lz2, hlz2⟩ : ∃ c, at' lz1 (1 * xn + T) (lz1 (1 * xn + T) ++ [j]) = c := ⟨_, rfl⟩
                                                                    have HGn : Hid (Gm (cD V D0 xn ni) w8 cz2 vz2 lz2 wz2) := by rw [← hwz2, ← hcz2, ← hvz2, ← hlz2]; exact HG4
                                                                    rw [hcz2, hlz2] at HDn
                                                                    rw [hwz2]
                                                                    clear hwz2 hcz2 hvz2 hlz2 HG4 HG HD
                                                                    have HG := HGn
                                                                    have HD := HDn
                                                                    clear HGn HDn
                                                                    obtain ⟨a2, k2, hv2, hch⟩ := HG.out.head (cD_ok V D0 xn ni) (i := 2) (k := T) (j := 2 * xn + T) (by show 2 < 10; omega) (by show T < xn; exact hTm) rfl
                                                                    have hle : (lz2 (2 * xn + T)).length ≤ j + 1 := HD.out.len_r HVM.out (f := 2) (by omega) hTm
                                                                    obtain ⟨n2, hn2⟩ : ∃ n, (lz2 (2 * xn + T)).length = n := ⟨_, rfl⟩
                                                                    rw [hn2] at hle hv2 hch
                                                                    have hle2 : n2 ≤ 2000000 := by omega
                                                                    have hch2 : wz2.cell? ⟨D0 + 1 + 1, T, none⟩ = some (.slice a2 n2 k2) := hch
                                                                    have HN2 := hidden hn2
                                                                    have HV2 := hidden hv2
                                                                    have HLE := hidden hle2
                                                                    have HCF : Hid ((cD V D0 xn ni).cl (2 * xn + T) j = .int .i64 (V.srcZ j)) := by show _ = _; rw [cD_cl hTm]; rfl
                                                                    have HET : Hid ((cD V D0 xn ni).eT (2 * xn + T) = 3) := cD_eT hTm
                                                                    clear hn2 hv2 hch hle hle2
                                                                    go_upto_region 127 with (first | (at_builtin; refine op_at (.call { callee := .builtin .append, args := #[.tmp 550, .tmp 552], argTypes := #[24, 24] }) rfl ?_; refine gm_app wz2 (cD_ok V D0 xn ni) HG.out rfl (.tmp 550) (.tmp 552) 24 3 (.int .i64 0) 8 rfl Try.underlying24 infoI rfl (by decide) 2 T (2 * xn + T) j (by show 2 < 10; omega) (by show T < xn; exact hTm) rfl HET.out n2 HN2.out _ HV2.out (by go_simp) _ HCF.out rfl (by go_simp) HLE.out ?_; intro av2 cv2 w2 hc2 hf2 HG4; have hc2' : w2.cell? ⟨D0 + 1 + 1, T, none⟩ = some (.slice a2 n2 k2) := hc2; have hf2' : w2.frozen? ⟨D0 + 1 + 1, T, none⟩ = false := hf2; clear hc2 hf2) | fail)
                                                                    clear hc2' hf2' hch2 HV2 HN2 HLE HCF HET
                                                                    have HDn : Hid (Dd V j (3) 0 0 (at' lz2 (2 * xn + T) (lz2 (2 * xn + T) ++ [j])) (at' cz2 2 (at' (cz2 2) T (.slice av2 (n2 + 1) cv2)))) := by
                                                                      have h := HD.out.rd (e := 2) HOWN.out (by omega) (by rw [HVM.out]; exact hTm) HRT.out (at' (cz2 2) T (.slice av2 (n2 + 1) cv2))
                                                                      rw [HVM.out] at h
                                                                      exact h
                                                                    obtain ⟨wz3, hwz3⟩ : ∃ w, World.setCell w2 ⟨D0 + 1 + 1, T, none⟩ (.slice av2 (n2 + 1) cv2) = w := ⟨_, rfl⟩
                                                                    obtain ⟨cz3, hcz3⟩ : ∃ c, at' cz2 2 (at' (cz2 2) T (.slice av2 (n2 + 1) cv2)) = c := ⟨_, rfl⟩
                                                                    obtain ⟨vz3, hvz3⟩ : ∃ c, at' vz2 (2 * xn + T) (.slice av2 (n2 + 1) cv2) = c := ⟨_, rfl⟩
                                                                    obtain ⟨lz3, hlz3⟩ : ∃ c, at' lz2 (2 * xn + T) (lz2 (2 * xn + T) ++ [j]) = c := ⟨_, rfl⟩
                                                                    have HGn : Hid (Gm (cD V D0 xn ni) w8 cz3 vz3 lz3 wz3) := by rw [← hwz3, ← hcz3, ← hvz3, ← hlz3]; exact HG4
                                                                    rw [hcz3, hlz3] at HDn
                                                                    rw [hwz3]
                                                                    clear hwz3 hcz3 hvz3 hlz3 HG4 HG HD
                                                                    have HG := HGn
                                                                    have HD := HDn
                                                                    clear HGn HDn
                                                                    obtain ⟨a2, k2, hv2, hch⟩ := HG.out.head (cD_ok V D0 xn ni) (i := 3) (k := T) (j := 3 * xn + T) (by show 3 < 10; omega) (by show T < xn; exact hTm) rfl
                                                                    have hle : (lz3 (3 * xn + T)).length ≤ j + 1 := HD.out.len_r HVM.out (f := 3) (by omega) hTm
                                                                    obtain ⟨n2, hn2⟩ : ∃ n, (lz3 (3 * xn + T)).length = n := ⟨_, rfl⟩
                                                                    rw [hn2] at hle hv2 hch
                                                                    have hle2 : n2 ≤ 2000000 := by omega
                                                                    have hch2 : wz3.cell? ⟨D0 + 1 + 1 + 1, T, none⟩ = some (.slice a2 n2 k2) := hch
                                                                    have HN2 := hidden hn2
                                                                    have HV2 := hidden hv2
                                                                    have HLE := hidden hle2
                                                                    have HCF : Hid ((cD V D0 xn ni).cl (3 * xn + T) j = .bool (V.wr j)) := by show _ = _; rw [cD_cl hTm]; rfl
                                                                    have HET : Hid ((cD V D0 xn ni).eT (3 * xn + T) = 4) := cD_eT hTm
                                                                    clear hn2 hv2 hch hle hle2
                                                                    go_upto_if 566 with (first | (at_builtin; refine op_at (.call { callee := .builtin .append, args := #[.tmp 560, .tmp 562], argTypes := #[28, 28] }) rfl ?_; refine gm_app wz3 (cD_ok V D0 xn ni) HG.out rfl (.tmp 560) (.tmp 562) 28 4 (.bool false) 1 rfl Try.underlying28 infoB4 rfl (by decide) 3 T (3 * xn + T) j (by show 3 < 10; omega) (by show T < xn; exact hTm) rfl HET.out n2 HN2.out _ HV2.out (by go_simp) _ HCF.out rfl (by go_simp) HLE.out ?_; intro av2 cv2 w2 hc2 hf2 HG4; have hc2' : w2.cell? ⟨D0 + 1 + 1 + 1, T, none⟩ = some (.slice a2 n2 k2) := hc2; have hf2' : w2.frozen? ⟨D0 + 1 + 1 + 1, T, none⟩ = false := hf2; clear hc2 hf2) | fail)
                                                                    clear hc2' hf2' hch2 HV2 HN2 HLE HCF HET
                                                                    have HDn : Hid (Dd V j (4) 0 0 (at' lz3 (3 * xn + T) (lz3 (3 * xn + T) ++ [j])) (at' cz3 3 (at' (cz3 3) T (.slice av2 (n2 + 1) cv2)))) := by
                                                                      have h := HD.out.rd (e := 3) HOWN.out (by omega) (by rw [HVM.out]; exact hTm) HRT.out (at' (cz3 3) T (.slice av2 (n2 + 1) cv2))
                                                                      rw [HVM.out] at h
                                                                      exact h
                                                                    obtain ⟨wz4, hwz4⟩ : ∃ w, World.setCell w2 ⟨D0 + 1 + 1 + 1, T, none⟩ (.slice av2 (n2 + 1) cv2) = w := ⟨_, rfl⟩
                                                                    obtain ⟨cz4, hcz4⟩ : ∃ c, at' cz3 3 (at' (cz3 3) T (.slice av2 (n2 + 1) cv2)) = c := ⟨_, rfl⟩
                                                                    obtain ⟨vz4, hvz4⟩ : ∃ c, at' vz3 (3 * xn + T) (.slice av2 (n2 + 1) cv2) = c := ⟨_, rfl⟩
                                                                    obtain ⟨lz4, hlz4⟩ : ∃ c, at' lz3 (3 * xn + T) (lz3 (3 * xn + T) ++ [j]) = c := ⟨_, rfl⟩
                                                                    have HGn : Hid (Gm (cD V D0 xn ni) w8 cz4 vz4 lz4 wz4) := by rw [← hwz4, ← hcz4, ← hvz4, ← hlz4]; exact HG4
                                                                    rw [hcz4, hlz4] at HDn
                                                                    rw [hwz4]
                                                                    clear hwz4 hcz4 hvz4 hlz4 HG4 HG HD
                                                                    have HG := HGn
                                                                    have HD := HDn
                                                                    clear HGn HDn
                                                                    cases hsr : V.src j with
                                                                    | none =>
                                                                      have hsz := srcZ_no hsr
                                                                      have hca : wz4.cell? ⟨D0 + 1 + 1 + 1 + 1 + 1 + 1 + 1 + 1 + 1, x, none⟩ = some (.int .i64 ((V.armed x j : Nat) : Int)) := by
                                                                        have h := (HG.out.fix 9 (by show 9 < 10; omega)).cell (i := x) (by show x < ni; omega)
                                                                        rw [HD.out.c9 x (by rw [hVN]; omega), Nat.add_zero] at h
                                                                        exact h
                                                                      have hfa : wz4.frozen? ⟨D0 + 1 + 1 + 1 + 1 + 1 + 1 + 1 + 1 + 1, x, none⟩ = false := (HG.out.fix 9 (by show 9 < 10; omega)).frozen x
                                                                      have hab : V.armed x j ≤ j := cnt_le _ _
                                                                      obtain ⟨A, hA⟩ : ∃ A, V.armed x j = A := ⟨_, rfl⟩
                                                                      rw [hA] at hca hab
                                                                      have HG6 : Hid (Gm (cD V D0 xn ni) w8 (at' cz4 9 (at' (cz4 9) x (.int .i64 ((A : Int) + 1)))) vz4 lz4 (wz4.setCell ⟨D0 + 1 + 1 + 1 + 1 + 1 + 1 + 1 + 1 + 1, x, none⟩ (.int .i64 ((A : Int) + 1)))) := HG.out.set (i := 9) (by show 9 < 10; omega) (fun _ => rfl) x _
                                                                      have HD6 : Hid (Dd V (j + 1) 0 0 0 lz4 (at' cz4 9 (at' (cz4 9) x (.int .i64 ((A : Int) + 1))))) := HD.out.init HOWN.out hsr HIT.out hA
                                                                      rw [hsz]
                                                                      clear hsz hsr hA HG HD
                                                                      go_wp2
                                                                      go_roundg (gk - 1)
                                                                      case measure => omega
                                                                      case rel => exact ⟨j + 1, _, _, _, by omega, by go_num, HG6, HD6⟩
                                                                    | some s =>
                                                                      have HSRC := hidden hsr
                                                                      have hsm : s < xn := by have h := VIn.src_lt HFIT.out (by rw [HVR.out]; omega) hsr; rw [HVM.out] at h; exact h
                                                                      have hsz := srcZ_of hsr
                                                                      have hcp : wz4.cell? ⟨D0 + 1 + 1 + 1 + 1 + 1 + 1 + 1 + 1, T, none⟩ = some (.int .i64 ((V.pending T j : Nat) : Int)) := by
                                                                        have h := (HG.out.fix 8 (by show 8 < 10; omega)).cell (i := T) (by show T < xn; omega)
                                                                        rw [HD.out.c8 T (by rw [HVM.out]; exact hTm), Nat.add_zero] at h
                                                                        exact h
                                                                      have hfp : wz4.frozen? ⟨D0 + 1 + 1 + 1 + 1 + 1 + 1 + 1 + 1, T, none⟩ = false := (HG.out.fix 8 (by show 8 < 10; omega)).frozen T
                                                                      have hpb : V.pending T j ≤ j := cnt_le _ _
                                                                      obtain ⟨A, hA⟩ : ∃ A, V.pending T j = A := ⟨_, rfl⟩
                                                                      rw [hA] at hcp hpb
                                                                      have HG6 : Hid (Gm (cD V D0 xn ni) w8 (at' cz4 8 (at' (cz4 8) T (.int .i64 ((A : Int) + 1)))) vz4 lz4 (wz4.setCell ⟨D0 + 1 + 1 + 1 + 1 + 1 + 1 + 1 + 1, T, none⟩ (.int .i64 ((A : Int) + 1)))) := HG.out.set (i := 8) (by show 8 < 10; omega) (fun _ => rfl) T _
                                                                      have HD6 : Hid (Dd V j (4 + 0) 1 0 lz4 (at' cz4 8 (at' (cz4 8) T (.int .i64 ((A : Int) + 1))))) := HD.out.pend HOWN.out hsr HRT.out hA
                                                                      rw [hsz]
                                                                      have hs2 : (s : Int) < xn := by omega
                                                                      have HSZ := hidden hsz
                                                                      clear hsz hsr hA HG HD
                                                                      go_upto_region 131 with fail
                                                                      clear hcp hfp
                                                                      obtain ⟨wz5, hw5⟩ : ∃ w, World.setCell wz4 ⟨D0 + 1 + 1 + 1 + 1 + 1 + 1 + 1 + 1, T, none⟩ (.int .i64 ((A : Int) + 1)) = w := ⟨_, rfl⟩
                                                                      obtain ⟨cz5, hct5⟩ : ∃ c, at' cz4 8 (at' (cz4 8) T (.int .i64 ((A : Int) + 1))) = c := ⟨_, rfl⟩
                                                                      obtain ⟨vz5, hv5⟩ : ∃ c, vz4 = c := ⟨_, rfl⟩
                                                                      obtain ⟨lz5, hL5⟩ : ∃ c, lz4 = c := ⟨_, rfl⟩
                                                                      rw [hw5, hct5, hv5, hL5] at HG6
                                                                      rw [hct5, hL5] at HD6
                                                                      rw [hw5]
                                                                      clear hw5 hct5 hv5 hL5
                                                                      have HG := HG6
                                                                      have HD := HD6
                                                                      clear HG6 HD6
                                                                      obtain ⟨a2, k2, hv2, hch⟩ := HG.out.head (cD_ok V D0 xn ni) (i := 4) (k := s) (j := 4 * xn + s) (by show 4 < 10; omega) (by show s < xn; exact hsm) rfl
                                                                      have hle : (lz5 (4 * xn + s)).length ≤ j + 1 := HD.out.len_s HVM.out (f := 0) (by omega) hsm
                                                                      obtain ⟨n2, hn2⟩ : ∃ n, (lz5 (4 * xn + s)).length = n := ⟨_, rfl⟩
                                                                      rw [hn2] at hle hv2 hch
                                                                      have hle2 : n2 ≤ 2000000 := by omega
                                                                      have hch2 : wz5.cell? ⟨D0 + 1 + 1 + 1 + 1, s, none⟩ = some (.slice a2 n2 k2) := hch
                                                                      have HN2 := hidden hn2
                                                                      have HV2 := hidden hv2
                                                                      have HLE := hidden hle2
                                                                      have HCF : Hid ((cD V D0 xn ni).cl (4 * xn + s) j = .int .i64 (T : Int)) := by show _ = _; rw [cD_cl hsm]; show Value.int .i64 (V.rt j : Int) = _; rw [HRT.out]
                                                                      have HET : Hid ((cD V D0 xn ni).eT (4 * xn + s) = 3) := cD_eT hsm
                                                                      clear hn2 hv2 hch hle hle2
                                                                      go_upto_region 132 with (first | (at_builtin; refine op_at (.call { callee := .builtin .append, args := #[.tmp 584, .tmp 586], argTypes := #[24, 24] }) rfl ?_; refine gm_app wz5 (cD_ok V D0 xn ni) HG.out rfl (.tmp 584) (.tmp 586) 24 3 (.int .i64 0) 8 rfl Try.underlying24 infoI rfl (by decide) 4 s (4 * xn + s) j (by show 4 < 10; omega) (by show s < xn; exact hsm) rfl HET.out n2 HN2.out _ HV2.out (by go_simp) _ HCF.out rfl (by go_simp) HLE.out ?_; intro av2 cv2 w2 hc2 hf2 HG4; have hc2' : w2.cell? ⟨D0 + 1 + 1 + 1 + 1, s, none⟩ = some (.slice a2 n2 k2) := hc2; have hf2' : w2.frozen? ⟨D0 + 1 + 1 + 1 + 1, s, none⟩ = false := hf2; clear hc2 hf2) | fail)
                                                                      clear hc2' hf2' hch2 HV2 HN2 HLE HCF HET
                                                                      have HDn : Hid (Dd V j (5) 1 0 (at' lz5 (4 * xn + s) (lz5 (4 * xn + s) ++ [j])) (at' cz5 4 (at' (cz5 4) s (.slice av2 (n2 + 1) cv2)))) := by
                                                                        have h := HD.out.sn (e := 0) HOWN.out (by omega) (by rw [HVM.out]; exact hsm) HSRC.out (at' (cz5 4) s (.slice av2 (n2 + 1) cv2))
                                                                        rw [HVM.out] at h
                                                                        exact h
                                                                      obtain ⟨wz6, hwz6⟩ : ∃ w, World.setCell w2 ⟨D0 + 1 + 1 + 1 + 1, s, none⟩ (.slice av2 (n2 + 1) cv2) = w := ⟨_, rfl⟩
                                                                      obtain ⟨cz6, hcz6⟩ : ∃ c, at' cz5 4 (at' (cz5 4) s (.slice av2 (n2 + 1) cv2)) = c := ⟨_, rfl⟩
                                                                      obtain ⟨vz6, hvz6⟩ : ∃ c, at' vz5 (4 * xn + s) (.slice av2 (n2 + 1) cv2) = c := ⟨_, rfl⟩
                                                                      obtain ⟨lz6, hlz6⟩ : ∃ c, at' lz5 (4 * xn + s) (lz5 (4 * xn + s) ++ [j]) = c := ⟨_, rfl⟩
                                                                      have HGn : Hid (Gm (cD V D0 xn ni) w8 cz6 vz6 lz6 wz6) := by rw [← hwz6, ← hcz6, ← hvz6, ← hlz6]; exact HG4
                                                                      rw [hcz6, hlz6] at HDn
                                                                      rw [hwz6]
                                                                      clear hwz6 hcz6 hvz6 hlz6 HG4 HG HD
                                                                      have HG := HGn
                                                                      have HD := HDn
                                                                      clear HGn HDn
                                                                      obtain ⟨a2, k2, hv2, hch⟩ := HG.out.head (cD_ok V D0 xn ni) (i := 5) (k := s) (j := 5 * xn + s) (by show 5 < 10; omega) (by show s < xn; exact hsm) rfl
                                                                      have hle : (lz6 (5 * xn + s)).length ≤ j + 1 := HD.out.len_s HVM.out (f := 1) (by omega) hsm
                                                                      obtain ⟨n2, hn2⟩ : ∃ n, (lz6 (5 * xn + s)).length = n := ⟨_, rfl⟩
                                                                      rw [hn2] at hle hv2 hch
                                                                      have hle2 : n2 ≤ 2000000 := by omega
                                                                      have hch2 : wz6.cell? ⟨D0 + 1 + 1 + 1 + 1 + 1, s, none⟩ = some (.slice a2 n2 k2) := hch
                                                                      have HN2 := hidden hn2
                                                                      have HV2 := hidden hv2
                                                                      have HLE := hidden hle2
                                                                      have HCF : Hid ((cD V D0 xn ni).cl (5 * xn + s) j = .int .i64 (x : Int)) := by show _ = _; rw [cD_cl hsm]; show Value.int .i64 (V.it j : Int) = _; rw [HIT.out]
                                                                      have HET : Hid ((cD V D0 xn ni).eT (5 * xn + s) = 3) := cD_eT hsm
                                                                      clear hn2 hv2 hch hle hle2
                                                                      go_upto_region 133 with (first | (at_builtin; refine op_at (.call { callee := .builtin .append, args := #[.tmp 594, .tmp 596], argTypes := #[24, 24] }) rfl ?_; refine gm_app wz6 (cD_ok V D0 xn ni) HG.out rfl (.tmp 594) (.tmp 596) 24 3 (.int .i64 0) 8 rfl Try.underlying24 infoI rfl (by decide) 5 s (5 * xn + s) j (by show 5 < 10; omega) (by show s < xn; exact hsm) rfl HET.out n2 HN2.out _ HV2.out (by go_simp) _ HCF.out rfl (by go_simp) HLE.out ?_; intro av2 cv2 w2 hc2 hf2 HG4; have hc2' : w2.cell? ⟨D0 + 1 + 1 + 1 + 1 + 1, s, none⟩ = some (.slice a2 n2 k2) := hc2; have hf2' : w2.frozen? ⟨D0 + 1 + 1 + 1 + 1 + 1, s, none⟩ = false := hf2; clear hc2 hf2) | fail)
                                                                      clear hc2' hf2' hch2 HV2 HN2 HLE HCF HET
                                                                      have HDn : Hid (Dd V j (6) 1 0 (at' lz6 (5 * xn + s) (lz6 (5 * xn + s) ++ [j])) (at' cz6 5 (at' (cz6 5) s (.slice av2 (n2 + 1) cv2)))) := by
                                                                        have h := HD.out.sn (e := 1) HOWN.out (by omega) (by rw [HVM.out]; exact hsm) HSRC.out (at' (cz6 5) s (.slice av2 (n2 + 1) cv2))
                                                                        rw [HVM.out] at h
                                                                        exact h
                                                                      obtain ⟨wz7, hwz7⟩ : ∃ w, World.setCell w2 ⟨D0 + 1 + 1 + 1 + 1 + 1, s, none⟩ (.slice av2 (n2 + 1) cv2) = w := ⟨_, rfl⟩
                                                                      obtain ⟨cz7, hcz7⟩ : ∃ c, at' cz6 5 (at' (cz6 5) s (.slice av2 (n2 + 1) cv2)) = c := ⟨_, rfl⟩
                                                                      obtain ⟨vz7, hvz7⟩ : ∃ c, at' vz6 (5 * xn + s) (.slice av2 (n2 + 1) cv2) = c := ⟨_, rfl⟩
                                                                      obtain ⟨lz7, hlz7⟩ : ∃ c, at' lz6 (5 * xn + s) (lz6 (5 * xn + s) ++ [j]) = c := ⟨_, rfl⟩
                                                                      have HGn : Hid (Gm (cD V D0 xn ni) w8 cz7 vz7 lz7 wz7) := by rw [← hwz7, ← hcz7, ← hvz7, ← hlz7]; exact HG4
                                                                      rw [hcz7, hlz7] at HDn
                                                                      rw [hwz7]
                                                                      clear hwz7 hcz7 hvz7 hlz7 HG4 HG HD
                                                                      have HG := HGn
                                                                      have HD := HDn
                                                                      clear HGn HDn
                                                                      obtain ⟨a2, k2, hv2, hch⟩ := HG.out.head (cD_ok V D0 xn ni) (i := 6) (k := s) (j := 6 * xn + s) (by show 6 < 10; omega) (by show s < xn; exact hsm) rfl
                                                                      have hle : (lz7 (6 * xn + s)).length ≤ j + 1 := HD.out.len_s HVM.out (f := 2) (by omega) hsm
                                                                      obtain ⟨n2, hn2⟩ : ∃ n, (lz7 (6 * xn + s)).length = n := ⟨_, rfl⟩
                                                                      rw [hn2] at hle hv2 hch
                                                                      have hle2 : n2 ≤ 2000000 := by omega
                                                                      have hch2 : wz7.cell? ⟨D0 + 1 + 1 + 1 + 1 + 1 + 1, s, none⟩ = some (.slice a2 n2 k2) := hch
                                                                      have HN2 := hidden hn2
                                                                      have HV2 := hidden hv2
                                                                      have HLE := hidden hle2
                                                                      have HCF : Hid ((cD V D0 xn ni).cl (6 * xn + s) j = .int .i64 (s : Int)) := by show _ = _; rw [cD_cl hsm]; show Value.int .i64 (V.srcZ j) = _; rw [HSZ.out]
                                                                      have HET : Hid ((cD V D0 xn ni).eT (6 * xn + s) = 3) := cD_eT hsm
                                                                      clear hn2 hv2 hch hle hle2
                                                                      go_upto_region 134 with (first | (at_builtin; refine op_at (.call { callee := .builtin .append, args := #[.tmp 604, .tmp 606], argTypes := #[24, 24] }) rfl ?_; refine gm_app wz7 (cD_ok V D0 xn ni) HG.out rfl (.tmp 604) (.tmp 606) 24 3 (.int .i64 0) 8 rfl Try.underlying24 infoI rfl (by decide) 6 s (6 * xn + s) j (by show 6 < 10; omega) (by show s < xn; exact hsm) rfl HET.out n2 HN2.out _ HV2.out (by go_simp) _ HCF.out rfl (by go_simp) HLE.out ?_; intro av2 cv2 w2 hc2 hf2 HG4; have hc2' : w2.cell? ⟨D0 + 1 + 1 + 1 + 1 + 1 + 1, s, none⟩ = some (.slice a2 n2 k2) := hc2; have hf2' : w2.frozen? ⟨D0 + 1 + 1 + 1 + 1 + 1 + 1, s, none⟩ = false := hf2; clear hc2 hf2) | fail)
                                                                      clear hc2' hf2' hch2 HV2 HN2 HLE HCF HET
                                                                      have HDn : Hid (Dd V j (7) 1 0 (at' lz7 (6 * xn + s) (lz7 (6 * xn + s) ++ [j])) (at' cz7 6 (at' (cz7 6) s (.slice av2 (n2 + 1) cv2)))) := by
                                                                        have h := HD.out.sn (e := 2) HOWN.out (by omega) (by rw [HVM.out]; exact hsm) HSRC.out (at' (cz7 6) s (.slice av2 (n2 + 1) cv2))
                                                                        rw [HVM.out] at h
                                                                        exact h
                                                                      obtain ⟨wz8, hwz8⟩ : ∃ w, World.setCell w2 ⟨D0 + 1 + 1 + 1 + 1 + 1 + 1, s, none⟩ (.slice av2 (n2 + 1) cv2) = w := ⟨_, rfl⟩
                                                                      obtain ⟨cz8, hcz8⟩ : ∃ c, at' cz7 6 (at' (cz7 6) s (.slice av2 (n2 + 1) cv2)) = c := ⟨_, rfl⟩
                                                                      obtain ⟨vz8, hvz8⟩ : ∃ c, at' vz7 (6 * xn + s) (.slice av2 (n2 + 1) cv2) = c := ⟨_, rfl⟩
                                                                      obtain ⟨lz8, hlz8⟩ : ∃ c, at' lz7 (6 * xn + s) (lz7 (6 * xn + s) ++ [j]) = c := ⟨_, rfl⟩
                                                                      have HGn : Hid (Gm (cD V D0 xn ni) w8 cz8 vz8 lz8 wz8) := by rw [← hwz8, ← hcz8, ← hvz8, ← hlz8]; exact HG4
                                                                      rw [hcz8, hlz8] at HDn
                                                                      rw [hwz8]
                                                                      clear hwz8 hcz8 hvz8 hlz8 HG4 HG HD
                                                                      have HG := HGn
                                                                      have HD := HDn
                                                                      clear HGn HDn
                                                                      obtain ⟨a2, k2, hv2, hch⟩ := HG.out.head (cD_ok V D0 xn ni) (i := 7) (k := s) (j := 7 * xn + s) (by show 7 < 10; omega) (by show s < xn; exact hsm) rfl
                                                                      have hle : (lz8 (7 * xn + s)).length ≤ j + 1 := HD.out.len_s HVM.out (f := 3) (by omega) hsm
                                                                      obtain ⟨n2, hn2⟩ : ∃ n, (lz8 (7 * xn + s)).length = n := ⟨_, rfl⟩
                                                                      rw [hn2] at hle hv2 hch
                                                                      have hle2 : n2 ≤ 2000000 := by omega
                                                                      have hch2 : wz8.cell? ⟨D0 + 1 + 1 + 1 + 1 + 1 + 1 + 1, s, none⟩ = some (.slice a2 n2 k2) := hch
                                                                      have HN2 := hidden hn2
                                                                      have HV2 := hidden hv2
                                                                      have HLE := hidden hle2
                                                                      have HCF : Hid ((cD V D0 xn ni).cl (7 * xn + s) j = .bool (V.wr j)) := by show _ = _; rw [cD_cl hsm]; rfl
                                                                      have HET : Hid ((cD V D0 xn ni).eT (7 * xn + s) = 4) := cD_eT hsm
                                                                      clear hn2 hv2 hch hle hle2
                                                                      go_wp2_with (first | (at_builtin; refine op_at (.call { callee := .builtin .append, args := #[.tmp 614, .tmp 616], argTypes := #[28, 28] }) rfl ?_; refine gm_app wz8 (cD_ok V D0 xn ni) HG.out rfl (.tmp 614) (.tmp 616) 28 4 (.bool false) 1 rfl Try.underlying28 infoB4 rfl (by decide) 7 s (7 * xn + s) j (by show 7 < 10; omega) (by show s < xn; exact hsm) rfl HET.out n2 HN2.out _ HV2.out (by go_simp) _ HCF.out rfl (by go_simp) HLE.out ?_; intro av2 cv2 w2 hc2 hf2 HG4; have hc2' : w2.cell? ⟨D0 + 1 + 1 + 1 + 1 + 1 + 1 + 1, s, none⟩ = some (.slice a2 n2 k2) := hc2; have hf2' : w2.frozen? ⟨D0 + 1 + 1 + 1 + 1 + 1 + 1 + 1, s, none⟩ = false := hf2; clear hc2 hf2) | fail)
                                                                      have HDn : Hid (Dd V j (8) 1 0 (at' lz8 (7 * xn + s) (lz8 (7 * xn + s) ++ [j])) (at' cz8 7 (at' (cz8 7) s (.slice av2 (n2 + 1) cv2)))) := by
                                                                        have h := HD.out.sn (e := 3) HOWN.out (by omega) (by rw [HVM.out]; exact hsm) HSRC.out (at' (cz8 7) s (.slice av2 (n2 + 1) cv2))
                                                                        rw [HVM.out] at h
                                                                        exact h
                                                                      have HDf := hidden (HDn.out.fin HSRC.out)
                                                                      go_roundg (gk - 1)
                                                                      case measure => omega
                                                                      case rel => exact ⟨j + 1, _, _, _, by omega, by go_num, HG4, HDf⟩
                                                            · have e : j = bn := by omega
                                                              subst e
                                                              go_wp2
                                                              go_meet
                                                              exact ⟨ct, v, L, HG, HD⟩
                                                    case rest =>
                                                      as_aux_lemma =>
                                                        clear HG0 HD0
                                                        obtain ⟨ctE, vE, LE, HGE, HDE⟩ := hcut
                                                        have HBl : Hid (Below w8.heap.size w8 wc) := by show Below _ _ _; rw [HD0s.out]; exact HGE.out.bel
                                                        have HBk7 := hidden (HBk6.out.kept HBl.out)
                                                        have HBW : Hid (Below w1.heap.size w1 wc) := (H19.out.kept HBl.out).bel
                                                        have HEND : Hid (End6 V D0 xn ni wc) := by
                                                          have h := HDE.out
                                                          rw [← HVR.out] at h
                                                          exact End6.of HGE.out h HVM.out hVN HFIT.out (by rw [HVM.out]; exact b2) (by rw [hVN]; exact b3) (by rw [HVR.out]; exact b8)
                                                        have HU1 := hidden HBk7.out.bk.u1
                                                        have HU2 := hidden HBk7.out.bk.u2
                                                        unfold URows at HU1 HU2
                                                        rw [HVM.out] at HU1 HU2
                                                        have c5 := HBk7.out.bk.c5
                                                        have c6 := HBk7.out.bk.c6
                                                        have c10 := HBk7.out.bk.c10
                                                        have c11 := HBk7.out.bk.c11
                                                        have c12 := HBk7.out.bk.c12
                                                        have c13 := HBk7.out.bk.c13
                                                        clear H19 HBk6 HBl HGE HDE HWR2 HD0s
                                                        rw [← drewN_zero wc]
                                                        go_upto_region 139 with (first | (go_at_call 25; refine (eqints_at (w := wc) (by first | exact ⟨_, HBk7.out.bk.r8, HEND.out.e8, by simp⟩ | exact ⟨_, HBk7.out.bk.r9, HEND.out.e9, by simp⟩) (by omega) _).mono ?_; rintro e w' ⟨rfl, d1, rfl⟩) | (go_at_call 27; refine (eqrows_at (w := wc) (by first | exact pair_of HU1.out.1 HEND.out.e0 | exact pair_of HU1.out.2.1 HEND.out.e1 | exact pair_of HU1.out.2.2.1 HEND.out.e2) b2 _).mono ?_; rintro e w' ⟨rfl, d2, rfl⟩) | (go_at_call 29; refine (eqbools_at (w := wc) (by exact pairB_of HU1.out.2.2.2 HEND.out.e3) b2 _).mono ?_; rintro e w9 ⟨rfl, hb9⟩; have HB9 := hidden hb9; clear hb9) | fail)
                                                        clear c5 c6 c10 c11 c12 c13 HU1
                                                        have HBk8 := hidden (HBk7.out.kept HB9.out)
                                                        have HEND2 := hidden (HEND.out.kept HB9.out)
                                                        have HBW2 : Hid (Below w1.heap.size w1 w9) := HBW.out.trans (HB9.out.mono HBW.out.size)
                                                        have HU3 := hidden HBk8.out.bk.u2
                                                        unfold URows at HU3
                                                        rw [HVM.out] at HU3
                                                        have c14 := HBk8.out.bk.c14
                                                        have c15 := HBk8.out.bk.c15
                                                        have c16 := HBk8.out.bk.c16
                                                        have c17 := HBk8.out.bk.c17
                                                        clear HBk7 HEND HBW HB9 HU2
                                                        rw [← drewN_zero w9]
                                                        go_wp2_with (first | (go_at_call 27; refine (eqrows_at (w := w9) (by first | exact pair_of HU3.out.1 HEND2.out.e4 | exact pair_of HU3.out.2.1 HEND2.out.e5 | exact pair_of HU3.out.2.2.1 HEND2.out.e6) b2 _).mono ?_; rintro e w' ⟨rfl, d2, rfl⟩) | (go_at_call 29; refine (eqbools_at (w := w9) (by exact pairB_of HU3.out.2.2.2 HEND2.out.e7) b2 _).mono ?_; rintro e w10 ⟨rfl, hb10⟩; have HB10 := hidden hb10; clear hb10) | fail)
                                                        go_ret
                                                        exact BoolKept.mk true rfl rfl (HBW2.out.trans (HB10.out.mono HBW2.out.size))
end Go.Proofs.Qxb6603374a
