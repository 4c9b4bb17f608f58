/- The law FnViewSearchBookkeeping: every call answers true. -/
import Derived.Test.Qxb6603374aZv
import Derived.Test.Qxb6603374aZvMem
import Derived.Test.Qxb6603374aVLawMem
import Derived.Test.Qxb6603374aBk
import Derived.Test.Qxb6603374aVDom
import Derived.Test.Qxb6603374aClone
namespace Go.Proofs.Qxb6603374a
open Go.ChangeShapes Go.WideShapes Go.ChangeAt Go.RowKit

set_option maxRecDepth 100000 in
set_option maxHeartbeats 20000000 in
theorem vlaw7_any (pa xa ia oa ta ma sa wa : Option Addr) (ni pc xc ic oc tc mc sc bc : Nat) (ira : Nat → Option Addr) (irc : Nat → Nat) (IR : Nat → List Int) (ops txns ro rt ri rs : List Int) (bs : List Bool) (w : World)
    (hP : Row w pa ops) (hX : Row w xa txns) (hI : RowsAt w ia ni ira irc IR) (hO : Row w oa ro) (hT : Row w ta rt) (hM : Row w ma ri) (hS : Row w sa rs) (hW : BRow w wa bs) :
    Calls Try.prog 7 #[.slice pa ops.length pc, .slice xa txns.length xc, .slice ia ni ic, .slice oa ro.length oc, .slice ta rt.length tc, .slice ma ri.length mc, .slice sa rs.length sc, .slice wa bs.length bc] w fun e w' => BoolKept (fun r => r = true) w e w' := by
  obtain ⟨pn, hpn⟩ : ∃ n, ops.length = n := ⟨_, rfl⟩
  obtain ⟨xn, hxn⟩ : ∃ n, txns.length = n := ⟨_, rfl⟩
  obtain ⟨on, hon⟩ : ∃ n, ro.length = n := ⟨_, rfl⟩
  obtain ⟨tn, htn⟩ : ∃ n, rt.length = n := ⟨_, rfl⟩
  obtain ⟨mn, hmn⟩ : ∃ n, ri.length = n := ⟨_, rfl⟩
  obtain ⟨sn, hsn⟩ : ∃ n, rs.length = n := ⟨_, rfl⟩
  obtain ⟨bn, hbn⟩ : ∃ n, bs.length = n := ⟨_, rfl⟩
  rw [hpn, hxn, hon, htn, hmn, hsn, hbn]
  have q24 : ∀ (w : World) (a : Option Addr) (n c n' c' : Nat), (binOp .neq 24 (.slice a n c) (.slice none n' c')).run Try.prog w = .ok (.bool (!a.isNone)) w := fun w a n c n' c' => run_neq_slice_nil_any w _ _ a n c n' c' Try.underlying24
  have q28 : ∀ (w : World) (a : Option Addr) (n c n' c' : Nat), (binOp .neq 28 (.slice a n c) (.slice none n' c')).run Try.prog w = .ok (.bool (!a.isNone)) w := fun w a n c n' c' => run_neq_slice_nil_any w _ _ a n c n' c' Try.underlying28
  have HP := hidden hP
  have HX := hidden hX
  have HI := hidden hI
  have HO := hidden hO
  have HT := hidden hT
  have HM := hidden hM
  have HS := hidden hS
  have HW := hidden hW
  have HPN := hidden hpn
  have HXN := hidden hxn
  have HON := hidden hon
  have HTN := hidden htn
  have HMN := hidden hmn
  have HSN := hidden hsn
  have HBN := hidden hbn
  clear hP hX hI hO hT hM hS hW hpn hxn hon htn hmn hsn hbn
  go_enter Try.func7, Try.ntmps7
  go_upto_if 99 with (first | (go_at_call 30; refine (vbytes7_any pa xa ia oa ta ma sa wa pn pc xn xc ni ic on oc tn tc mn mc sn sc bn bc ira irc IR _ HI.out).mono ?_; intro e w1 h1; obtain ⟨r, he, -, hw⟩ := h1; subst he; subst hw; cases r) | fail)
  all_goals first
    | (go_ret; exact BoolKept.mk true rfl rfl (Below.refl _ _))
    | skip
  rename_i d1 d2 d3 d4 d5 d6 d7 d8 K1 hK1
  have HB1 : Hid ((pn ≤ 1048576 ∧ xn ≤ 1048576 ∧ ni ≤ 1048576 ∧ on ≤ 1048576) ∧ (tn ≤ 1048576 ∧ mn ≤ 1048576 ∧ sn ≤ 1048576 ∧ bn ≤ 1048576)) := by
    refine ⟨⟨by omega, by omega, by omega, by omega⟩, ⟨by omega, by omega, by omega, ?_⟩⟩
    first
      | omega
      | (have h := d8.2; omega)
      | (have h := d8; simp at h; omega)
  clear d1 d2 d3 d4 d5 d6 d7 d8
  have H8 : Hid (L8 pa xa ia oa ta ma sa wa ni ira irc IR ops txns ro rt ri rs bs w1 w1) := ⟨HP.out, HX.out, HI.out, HO.out, HT.out, HM.out, HS.out, HW.out, Below.refl _ _⟩
  clear HP HX HI HO HT HM HS HW
  go_cut [0] from 50 to 106 (fun v wx => ∃ a9 c9, v = .slice a9 pn c9 ∧ Hid (L8 a9 xa ia oa ta ma sa wa ni ira irc IR ops txns ro rt ri rs bs w1 wx))
  case first =>
    as_aux_lemma =>
      have hmk := run_make_row' (P := Try.prog) 24 3 (.int .i64 0) 8 Try.underlying24 Try.info3 rfl .i64 .i64 pn (by have := HB1.out; omega) (by have := HB1.out; omega)
      cases pa with
      | none =>
        go_wp2
        go_meet
        exact ⟨none, pc, rfl, H8⟩
      | some ad =>
        go_wp2_with (refine op_at (.call { callee := .builtin .copy, args := #[.tmp 103, .tmp 104], argTypes := #[24, 24] }) rfl ?_; refine copy_ints _ rfl (.tmp 103) (.tmp 104) rfl (some ad) pc pn ops HPN.out rfl rfl H8.out.hP ?_; intro w' hr' hb')
        go_meet
        exact ⟨_, _, rfl, { H8.out.kept hb'.out with hP := hr'.out }⟩
  case rest =>
    as_aux_lemma =>
      clear H8
      obtain ⟨pa', pc', hv, H8⟩ := hcut
      subst hv
      go_upto_if 108 with fail
      go_cut [3] from 107 to 115 (fun v wx => ∃ a9 c9, v = .slice a9 on c9 ∧ Hid (L8 pa' xa ia a9 ta ma sa wa ni ira irc IR ops txns ro rt ri rs bs w1 wx))
      case first =>
        as_aux_lemma =>
          have hmk := run_make_row' (P := Try.prog) 24 3 (.int .i64 0) 8 Try.underlying24 Try.info3 rfl .i64 .i64 on (by have := HB1.out; omega) (by have := HB1.out; omega)
          cases oa with
          | none =>
            go_wp2
            go_meet
            exact ⟨none, oc, rfl, H8⟩
          | some ad =>
            go_wp2_with (refine op_at (.call { callee := .builtin .copy, args := #[.tmp 112, .tmp 113], argTypes := #[24, 24] }) rfl ?_; refine copy_ints _ rfl (.tmp 112) (.tmp 113) rfl (some ad) oc on ro HON.out rfl rfl H8.out.hO ?_; intro w' hr' hb')
            go_meet
            exact ⟨_, _, rfl, { H8.out.kept hb'.out with hO := hr'.out }⟩
      case rest =>
        as_aux_lemma =>
          clear H8
          obtain ⟨oa', oc', hv, H8⟩ := hcut
          subst hv
          go_upto_if 117 with fail
          go_cut [4] from 116 to 124 (fun v wx => ∃ a9 c9, v = .slice a9 tn c9 ∧ Hid (L8 pa' xa ia oa' a9 ma sa wa ni ira irc IR ops txns ro rt ri rs bs w1 wx))
          case first =>
            as_aux_lemma =>
              have hmk := run_make_row' (P := Try.prog) 24 3 (.int .i64 0) 8 Try.underlying24 Try.info3 rfl .i64 .i64 tn (by have := HB1.out; omega) (by have := HB1.out; omega)
              cases ta with
              | none =>
                go_wp2
                go_meet
                exact ⟨none, tc, rfl, H8⟩
              | some ad =>
                go_wp2_with (refine op_at (.call { callee := .builtin .copy, args := #[.tmp 121, .tmp 122], argTypes := #[24, 24] }) rfl ?_; refine copy_ints _ rfl (.tmp 121) (.tmp 122) rfl (some ad) tc tn rt HTN.out rfl rfl H8.out.hT ?_; intro w' hr' hb')
                go_meet
                exact ⟨_, _, rfl, { H8.out.kept hb'.out with hT := hr'.out }⟩
          case rest =>
            as_aux_lemma =>
              clear H8
              obtain ⟨ta', tc', hv, H8⟩ := hcut
              subst hv
              go_upto_if 126 with fail
              go_cut [5] from 125 to 133 (fun v wx => ∃ a9 c9, v = .slice a9 mn c9 ∧ Hid (L8 pa' xa ia oa' ta' a9 sa wa ni ira irc IR ops txns ro rt ri rs bs w1 wx))
              case first =>
                as_aux_lemma =>
                  have hmk := run_make_row' (P := Try.prog) 24 3 (.int .i64 0) 8 Try.underlying24 Try.info3 rfl .i64 .i64 mn (by have := HB1.out; omega) (by have := HB1.out; omega)
                  cases ma with
                  | none =>
                    go_wp2
                    go_meet
                    exact ⟨none, mc, rfl, H8⟩
                  | some ad =>
                    go_wp2_with (refine op_at (.call { callee := .builtin .copy, args := #[.tmp 130, .tmp 131], argTypes := #[24, 24] }) rfl ?_; refine copy_ints _ rfl (.tmp 130) (.tmp 131) rfl (some ad) mc mn ri HMN.out rfl rfl H8.out.hM ?_; intro w' hr' hb')
                    go_meet
                    exact ⟨_, _, rfl, { H8.out.kept hb'.out with hM := hr'.out }⟩
              case rest =>
                as_aux_lemma =>
                  clear H8
                  obtain ⟨ma', mc', hv, H8⟩ := hcut
                  subst hv
                  go_upto_if 135 with fail
                  go_cut [6] from 134 to 142 (fun v wx => ∃ a9 c9, v = .slice a9 sn c9 ∧ Hid (L8 pa' xa ia oa' ta' ma' a9 wa ni ira irc IR ops txns ro rt ri rs bs w1 wx))
                  case first =>
                    as_aux_lemma =>
                      have hmk := run_make_row' (P := Try.prog) 24 3 (.int .i64 0) 8 Try.underlying24 Try.info3 rfl .i64 .i64 sn (by have := HB1.out; omega) (by have := HB1.out; omega)
                      cases sa with
                      | none =>
                        go_wp2
                        go_meet
                        exact ⟨none, sc, rfl, H8⟩
                      | some ad =>
                        go_wp2_with (refine op_at (.call { callee := .builtin .copy, args := #[.tmp 139, .tmp 140], argTypes := #[24, 24] }) rfl ?_; refine copy_ints _ rfl (.tmp 139) (.tmp 140) rfl (some ad) sc sn rs HSN.out rfl rfl H8.out.hS ?_; intro w' hr' hb')
                        go_meet
                        exact ⟨_, _, rfl, { H8.out.kept hb'.out with hS := hr'.out }⟩
                  case rest =>
                    as_aux_lemma =>
                      clear H8
                      obtain ⟨sa', sc', hv, H8⟩ := hcut
                      subst hv
                      go_upto_if 144 with fail
                      go_cut [7] from 143 to 151 (fun v wx => ∃ a9 c9, v = .slice a9 bn c9 ∧ Hid (L8 pa' xa ia oa' ta' ma' sa' a9 ni ira irc IR ops txns ro rt ri rs bs w1 wx))
                      case first =>
                        as_aux_lemma =>
                          have hmk := run_make_row' (P := Try.prog) 28 4 (.bool false) 1 Try.underlying28 infoB rfl .i64 .i64 bn (by have := HB1.out; omega) (by have := HB1.out; omega)
                          cases wa with
                          | none =>
                            go_wp2
                            go_meet
                            exact ⟨none, bc, rfl, H8⟩
                          | some ad =>
                            go_wp2_with (refine op_at (.call { callee := .builtin .copy, args := #[.tmp 148, .tmp 149], argTypes := #[28, 28] }) rfl ?_; refine copy_bools _ rfl (.tmp 148) (.tmp 149) rfl (some ad) bc bn bs HBN.out rfl rfl H8.out.hW ?_; intro w' hr' hb')
                            go_meet
                            exact ⟨_, _, rfl, { H8.out.kept hb'.out with hW := hr'.out }⟩
                      case rest =>
                        as_aux_lemma =>
                          clear H8
                          obtain ⟨wa', bc', hv, H8⟩ := hcut
                          subst hv
                          clear q24 q28
                          have b1 := HB1.out.1.1
                          have b2 := HB1.out.1.2.1
                          have b3 := HB1.out.1.2.2.1
                          have b4 := HB1.out.1.2.2.2
                          have b5 := HB1.out.2.1
                          have b6 := HB1.out.2.2.1
                          have b7 := HB1.out.2.2.2.1
                          have b8 := HB1.out.2.2.2.2
                          go_upto_block 0 with fail
                          all_goals first
                            | (go_ret; exact BoolKept.mk true rfl rfl H8.out.bel)
                            | skip
                          go_cut [] from 152 to 199 (fun wx => Hid (L8 pa' xa ia oa' ta' ma' sa' wa' ni ira irc IR ops txns ro rt ri rs bs w1 wx) ∧ Hid (8 * sumTo (fun x => (IR x).length) ni ≤ 1048576))
                          case first =>
                            as_aux_lemma =>
                              go_wp2
                              go_loop [23, 24] (fun s i => ∃ k z : Nat, k ≤ ni ∧ z ≤ 1048576 ∧ i = .int .i64 (k : Int) ∧ s = .int .i64 (z : Int) ∧ Hid (8 * sumTo (fun x => (IR x).length) k ≤ z)) (fun _ i => ni - (intOf i).toNat)
                              case atStart => exact ⟨0, 8 * (pn + xn + ni + on + tn + mn + sn) + bn, by omega, by omega, rfl, by go_num, Nat.zero_le _⟩
                              case round =>
                                as_aux_lemma =>
                                  obtain ⟨k, z, hk, hz, rfl, rfl, HSU⟩ := hrel
                                  by_cases hlt : (k : Int) < ni
                                  · obtain ⟨tb, tq, hta, hc, -, hm⟩ := H8.out.hI k (by omega)
                                    subst hta
                                    go_wp2
                                    all_goals first
                                      | (go_ret; exact BoolKept.mk true rfl rfl H8.out.bel)
                                      | skip
                                    go_round
                                    case rel =>
                                      refine ⟨k + 1, z + 8 * (IR k).length, by omega, by omega, by go_num, by go_num, ?_⟩
                                      show 8 * (sumTo (fun x => (IR x).length) k + (IR k).length) ≤ _
                                      have h := HSU.out
                                      omega
                                    case measure => simp [intOf]; omega
                                  · have e : k = ni := by omega
                                    subst e
                                    go_wp2
                                    go_meet
                                    exact ⟨H8, Nat.le_trans HSU.out hz⟩
                          case rest =>
                            as_aux_lemma =>
                              obtain ⟨H9, HSU⟩ := hcut
                              clear H8
                              have HLEN : Hid (∀ it, it < ni → (IR it).length ≤ 1048576) := fun it hi => by
                                have h1 := sumTo_lt (fun x => (IR x).length) (x := it) (n := ni) hi
                                have h2 := HSU.out
                                omega
                              go_upto_if 209 with (first | (go_at_call 22; refine (vdomain_any pa' xa ia oa' ta' ma' sa' wa' pn pc' xn xc ni ic on oc' tn tc' mn mc' sn sc' bn bc' ira irc IR ops txns rt ri rs _ H9.out.hP HPN.out H9.out.hX HXN.out H9.out.hI H9.out.hT HTN.out H9.out.hM HMN.out H9.out.hS HSN.out b1 b2 b3 b5 HLEN.out).mono ?_; intro e w2 h2; obtain ⟨r, he, hd, hb⟩ := h2; subst he) | fail)
                              cases r with
                              | false =>
                                go_wp2
                                go_ret
                                exact BoolKept.mk true rfl rfl (H9.out.kept hb).bel
                              | true =>
                                obtain ⟨⟨el1, el2, el3, el4⟩, hdom⟩ := hd rfl
                                have HDM := hidden hdom
                                have H10 : Hid (L8 pa' xa ia oa' ta' ma' sa' wa' ni ira irc IR ops txns ro rt ri rs bs w1 w2) := H9.out.kept hb
                                clear hd hdom hb H9
                                subst el1 el2 el3 el4
                                go_upto_region 43 with (first | (go_at_call 18; refine (clone_all xa xc xn txns _ H10.out.hX HXN.out b2).mono ?_; intro e w3 h3; obtain ⟨xa', xc', he, hx', hb'⟩ := h3; subst he) | fail)
                                have H11 : Hid (L8 pa' xa' ia oa' ta' ma' sa' wa' ni ira irc IR ops txns ro rt ri rs bs w1 w3) := { H10.out.kept hb' with hX := hx' }
                                clear H10 hx' hb'
                                have HZI : Hid (ZvIn pa' xa' ia oa' ta' ma' sa' wa' pn xn ni bn ira irc IR ops txns ro rt ri rs bs w3) := ⟨H11.out.hP, H11.out.hX, H11.out.hI, H11.out.hO, H11.out.hT, H11.out.hM, H11.out.hS, H11.out.hW, HPN.out, HXN.out, HON.out, HTN.out, HMN.out, HSN.out, HBN.out, HDM.out, by have h := HSU.out; omega⟩
                                go_cut [25] from 200 to 220 (fun v wx => ∃ oB, v = .pointer (some ⟨oB, 0, none⟩) ∧ Hid (L8 pa' xa' ia oa' ta' ma' sa' wa' ni ira irc IR ops txns ro rt ri rs bs w1 wx) ∧ (Hid (OutRow oB #[.bool false, .bool true, .slice none 0 0, .slice none 0 0, .slice none 0 0, .slice none 0 0, .slice none 0 0, .slice none 0 0, .slice none 0 0, .slice none 0 0, .slice none 0 0, .slice none 0 0, .slice none 0 0, .slice none 0 0, .slice none 0 0, .slice none 0 0, .slice none 0 0, .slice none 0 0] wx) ∨ ∃ g b ra2 ra3 ra4 ra5 rc2 rc3 rc4 rc5 H1 H2, Hid (OutRow oB #[.bool true, .bool false, .slice xa' (vinOf txns ni IR rt ri rs bs).m xc', .slice (some ⟨b 1, 0, none⟩) (vinOf txns ni IR rt ri rs bs).m (vinOf txns ni IR rt ri rs bs).m, .slice (some ⟨b 6, 0, none⟩) (vinOf txns ni IR rt ri rs bs).ni (vinOf txns ni IR rt ri rs bs).ni, .slice (some ⟨b 8, 0, none⟩) (vinOf txns ni IR rt ri rs bs).m (vinOf txns ni IR rt ri rs bs).m, .slice (some ⟨b 9, 0, none⟩) (vinOf txns ni IR rt ri rs bs).ni (vinOf txns ni IR rt ri rs bs).ni, .slice (some ⟨b 7, 0, none⟩) (vinOf txns ni IR rt ri rs bs).m (vinOf txns ni IR rt ri rs bs).m, .slice (some ⟨b 4, 0, none⟩) (vinOf txns ni IR rt ri rs bs).m (vinOf txns ni IR rt ri rs bs).m, .slice (some ⟨b 5, 0, none⟩) (vinOf txns ni IR rt ri rs bs).ni (vinOf txns ni IR rt ri rs bs).ni, .slice (some ⟨H1, 0, none⟩) (vinOf txns ni IR rt ri rs bs).m (vinOf txns ni IR rt ri rs bs).m, .slice (some ⟨H1 + 1, 0, none⟩) (vinOf txns ni IR rt ri rs bs).m (vinOf txns ni IR rt ri rs bs).m, .slice (some ⟨H1 + 2, 0, none⟩) (vinOf txns ni IR rt ri rs bs).m (vinOf txns ni IR rt ri rs bs).m, .slice (some ⟨H1 + 3, 0, none⟩) (vinOf txns ni IR rt ri rs bs).m (vinOf txns ni IR rt ri rs bs).m, .slice (some ⟨H2, 0, none⟩) (vinOf txns ni IR rt ri rs bs).m (vinOf txns ni IR rt ri rs bs).m, .slice (some ⟨H2 + 1, 0, none⟩) (vinOf txns ni IR rt ri rs bs).m (vinOf txns ni IR rt ri rs bs).m, .slice (some ⟨H2 + 2, 0, none⟩) (vinOf txns ni IR rt ri rs bs).m (vinOf txns ni IR rt ri rs bs).m, .slice (some ⟨H2 + 3, 0, none⟩) (vinOf txns ni IR rt ri rs bs).m (vinOf txns ni IR rt ri rs bs).m] wx) ∧ Hid (∀ i, i < (vinOf txns ni IR rt ri rs bs).nr → ¬ (vinOf txns ni IR rt ri rs bs).Bad i) ∧ Hid (NvEnd (vinOf txns ni IR rt ri rs bs) (stF (opOf ops txns) pn pn) xa' xc' g b ra2 ra3 ra4 ra5 rc2 rc3 rc4 rc5 wx) ∧ Hid (URows (vinOf txns ni IR rt ri rs bs) (fun t => (vinOf txns ni IR rt ri rs bs).reads t (vinOf txns ni IR rt ri rs bs).nr) H1 wx) ∧ Hid (URows (vinOf txns ni IR rt ri rs bs) (fun t => (vinOf txns ni IR rt ri rs bs).seenBy t (vinOf txns ni IR rt ri rs bs).nr) H2 wx)))
                                case first =>
                                  as_aux_lemma =>
                                    go_wp2_with (first | (go_at_call 23; go_must (refine (zv_any pa' xa' ia oa' ta' ma' sa' wa' pn xn ni bn pc' xc' ic oc' tc' mc' sc' bc' ira irc IR ops txns ro rt ri rs bs w3.heap.size w3 HZI.out b1 b2 b3 b8 rfl).mono ?_; rintro e w' ⟨hbel, ⟨rfl, hbad⟩ | ⟨g, b, ra2, ra3, ra4, ra5, rc2, rc3, rc4, rc5, H1, H2, rfl, hnb, hend, hu1, hu2⟩⟩)) | (refine store41_at (.tmp 25) (.tmp 220) rfl ?_; first | (refine store18n _ rfl (.tmp 25) (.tmp 220) rfl _ rfl (.bool false) (.bool true) (.slice none 0 0) (.slice none 0 0) (.slice none 0 0) (.slice none 0 0) (.slice none 0 0) (.slice none 0 0) (.slice none 0 0) (.slice none 0 0) (.slice none 0 0) (.slice none 0 0) (.slice none 0 0) (.slice none 0 0) (.slice none 0 0) (.slice none 0 0) (.slice none 0 0) (.slice none 0 0) rfl (z41_row _) rfl rfl rfl rfl rfl rfl rfl rfl rfl rfl rfl rfl rfl rfl rfl rfl rfl rfl ?_; intro wn HOut HKeep) | (refine store18n _ rfl (.tmp 25) (.tmp 220) rfl _ rfl (.bool true) (.bool false) (.slice xa' (vinOf txns ni IR rt ri rs bs).m xc') (.slice (some ⟨b 1, 0, none⟩) (vinOf txns ni IR rt ri rs bs).m (vinOf txns ni IR rt ri rs bs).m) (.slice (some ⟨b 6, 0, none⟩) (vinOf txns ni IR rt ri rs bs).ni (vinOf txns ni IR rt ri rs bs).ni) (.slice (some ⟨b 8, 0, none⟩) (vinOf txns ni IR rt ri rs bs).m (vinOf txns ni IR rt ri rs bs).m) (.slice (some ⟨b 9, 0, none⟩) (vinOf txns ni IR rt ri rs bs).ni (vinOf txns ni IR rt ri rs bs).ni) (.slice (some ⟨b 7, 0, none⟩) (vinOf txns ni IR rt ri rs bs).m (vinOf txns ni IR rt ri rs bs).m) (.slice (some ⟨b 4, 0, none⟩) (vinOf txns ni IR rt ri rs bs).m (vinOf txns ni IR rt ri rs bs).m) (.slice (some ⟨b 5, 0, none⟩) (vinOf txns ni IR rt ri rs bs).ni (vinOf txns ni IR rt ri rs bs).ni) (.slice (some ⟨H1, 0, none⟩) (vinOf txns ni IR rt ri rs bs).m (vinOf txns ni IR rt ri rs bs).m) (.slice (some ⟨H1 + 1, 0, none⟩) (vinOf txns ni IR rt ri rs bs).m (vinOf txns ni IR rt ri rs bs).m) (.slice (some ⟨H1 + 2, 0, none⟩) (vinOf txns ni IR rt ri rs bs).m (vinOf txns ni IR rt ri rs bs).m) (.slice (some ⟨H1 + 3, 0, none⟩) (vinOf txns ni IR rt ri rs bs).m (vinOf txns ni IR rt ri rs bs).m) (.slice (some ⟨H2, 0, none⟩) (vinOf txns ni IR rt ri rs bs).m (vinOf txns ni IR rt ri rs bs).m) (.slice (some ⟨H2 + 1, 0, none⟩) (vinOf txns ni IR rt ri rs bs).m (vinOf txns ni IR rt ri rs bs).m) (.slice (some ⟨H2 + 2, 0, none⟩) (vinOf txns ni IR rt ri rs bs).m (vinOf txns ni IR rt ri rs bs).m) (.slice (some ⟨H2 + 3, 0, none⟩) (vinOf txns ni IR rt ri rs bs).m (vinOf txns ni IR rt ri rs bs).m) rfl (z41_row _) rfl rfl rfl rfl rfl rfl rfl rfl rfl rfl rfl rfl rfl rfl rfl rfl rfl rfl ?_; intro wn HOut HKeep)) | fail)
                                    · have HBL := hidden hbel
                                      clear hbel hbad
                                      have HBN2 : Hid (Below w3.heap.size w3 wn) := HKeep.out _ _ HBL.out.size (HBL.out.alloc HBL.out.size _)
                                      clear HBL HKeep
                                      simp only [Act.put]
                                      go_meet
                                      exact ⟨_, rfl, H11.out.kept HBN2.out, .inl HOut⟩
                                    · have HBL := hidden hbel
                                      have HNB := hidden hnb
                                      have HEN := hidden hend
                                      have HU1 := hidden hu1
                                      have HU2 := hidden hu2
                                      clear hbel hnb hend hu1 hu2
                                      have HBN2 : Hid (Below w3.heap.size w3 wn) := HKeep.out _ _ HBL.out.size (HBL.out.alloc HBL.out.size _)
                                      have HBN3 : Hid (Below w'.heap.size w' wn) := HKeep.out _ _ (Nat.le_refl _) ((Below.refl _ _).alloc (Nat.le_refl _) _)
                                      have HEN2 := hidden (HEN.out.kept HBN3.out)
                                      have HU12 := hidden (HU1.out.kept HBN3.out)
                                      have HU22 := hidden (HU2.out.kept HBN3.out)
                                      clear HBL HKeep HBN3 HEN HU1 HU2
                                      simp only [Act.put]
                                      go_meet
                                      exact ⟨_, rfl, H11.out.kept HBN2.out, .inr ⟨g, b, ra2, ra3, ra4, ra5, rc2, rc3, rc4, rc5, H1, H2, HOut, HNB, HEN2, HU12, HU22⟩⟩
                                case rest =>
                                  as_aux_lemma =>
                                    obtain ⟨oB, rfl, H12, hres⟩ := hcut
                                    have HBW : Hid (Below w1.heap.size w1 wc) := H12.out.bel
                                    have HFIT : Hid ((vinOf txns ni IR rt ri rs bs).Fits) := vin_fits HDM.out
                                    have HNR : Hid ((vinOf txns ni IR rt ri rs bs).nr ≤ 1048576) := by show rt.length ≤ _; rw [HTN.out]; exact b8
                                    have HVM : Hid ((vinOf txns ni IR rt ri rs bs).m = xn) := HXN.out
                                    clear H11 H12 HZI HDM HLEN HSU HPN HON HTN HMN HSN HBN HB1
                                    rcases hres with HN | ⟨g, b, ra2, ra3, ra4, ra5, rc2, rc3, rc4, rc5, H1, H2, HO', HNB, HEN, HU1, HU2⟩
                                    · have hc0 : wc.cell? ⟨oB, 0, none⟩ = some (.bool false) := HN.out.cell (i := 0) (by omega)
                                      have hc1 : wc.cell? ⟨oB, 1, none⟩ = some (.bool true) := HN.out.cell (i := 1) (by omega)
                                      go_wp2
                                      go_ret
                                      exact BoolKept.mk true rfl rfl HBW.out
                                    · have HBX : Hid (Bk (vinOf txns ni IR rt ri rs bs) xn ni oB (b 4) (b 5) (b 6) (b 8) (b 9) H1 H2 ra4 ra5 rc4 rc5 wc) := Bk.of HVM.out rfl HO'.out HEN.out HU1.out HU2.out
                                      obtain ⟨V, hV⟩ : ∃ V, vinOf txns ni IR rt ri rs bs = V := ⟨_, rfl⟩
                                      obtain ⟨p4, hp4⟩ : ∃ n, b 4 = n := ⟨_, rfl⟩
                                      obtain ⟨p5, hp5⟩ : ∃ n, b 5 = n := ⟨_, rfl⟩
                                      obtain ⟨p6, hp6⟩ : ∃ n, b 6 = n := ⟨_, rfl⟩
                                      obtain ⟨p8, hp8⟩ : ∃ n, b 8 = n := ⟨_, rfl⟩
                                      obtain ⟨p9, hp9⟩ : ∃ n, b 9 = n := ⟨_, rfl⟩
                                      rw [hV, hp4, hp5, hp6, hp8, hp9] at HBX
                                      rw [hV] at HFIT HNR HVM HNB
                                      have HBk : Hid (Bk V xn ni oB p4 p5 p6 p8 p9 H1 H2 ra4 ra5 rc4 rc5 wc) := HBX
                                      clear HO' HEN HU1 HU2 hV hp4 hp5 hp6 hp8 hp9 HBX
                                      have hVN : V.ni = ni := HBk.out.hn
                                      have c0 := HBk.out.c0
                                      have c1 := HBk.out.c1
                                      have c4 := HBk.out.c4
                                      have c5 := HBk.out.c5
                                      have c6 := HBk.out.c6
                                      have c8 := HBk.out.c8
                                      have c9 := HBk.out.c9
                                      have c10 := HBk.out.c10
                                      have c11 := HBk.out.c11
                                      have c12 := HBk.out.c12
                                      have c13 := HBk.out.c13
                                      have c14 := HBk.out.c14
                                      have c15 := HBk.out.c15
                                      have c16 := HBk.out.c16
                                      have c17 := HBk.out.c17
                                      go_upto_block 2 with fail
                                      clear c0 c1 c4 c5 c6 c8 c9 c10 c11 c12 c13 c14 c15 c16 c17
                                      obtain ⟨N, hN⟩ : ∃ N, sumTo (fun t => (V.writes t ni).length) xn = N := ⟨_, rfl⟩
                                      have hNb : N ≤ xn * 1048576 := by
                                        rw [← hN]
                                        exact sumTo_le (fun i _ => Nat.le_trans (V.writes_len i ni) b3)
                                      have HNN := hidden hN
                                      clear hN
                                      go_cut [28] from 221 to 368 (fun p wx => p = .int .i64 (N : Int) ∧ wx = wc)
                                      case first =>
                                        as_aux_lemma =>
                                          go_wp2 --TAGL1
                                          go_loopg [28, 29] xn (fun q p i wr => ∃ t z : Nat, t + q = xn ∧ i = .int .i64 (t : Int) ∧ p = .int .i64 (z : Int) ∧ z ≤ t * 1048576 ∧ Hid (z = sumTo (fun t => (V.writes t ni).length) t) ∧ wr = wc)
                                          case atStart => exact ⟨0, 0, by omega, rfl, rfl, by omega, rfl, rfl⟩
                                          case round =>
                                            as_aux_lemma =>
                                              obtain ⟨t, z, ht, rfl, rfl, hzb, HZ, rfl⟩ := hrel
                                              by_cases hlt : (t : Int) < xn
                                              · have hcw := HBk.out.wrs (t := t) (by omega)
                                                have c8 := HBk.out.c8
                                                have c9 := HBk.out.c9
                                                have hRW := HBk.out.wrsRow (t := t) (by omega)
                                                have hlb : (V.writes t ni).length ≤ ni := V.writes_len t ni
                                                obtain ⟨ln, hln⟩ : ∃ n, (V.writes t ni).length = n := ⟨_, rfl⟩
                                                obtain ⟨rA, hrA⟩ : ∃ a, ra4 t = a := ⟨_, rfl⟩
                                                obtain ⟨rC, hrC⟩ : ∃ a, rc4 t = a := ⟨_, rfl⟩
                                                rw [hln] at hlb
                                                rw [hln, hrA, hrC] at hcw
                                                rw [hrA] at hRW
                                                have HRW := hidden hRW
                                                have HLN := hidden hln
                                                clear hln hrA hrC hRW
                                                go_wp2
                                                clear hcw
                                                go_loopg [28, 31] ln (fun q p i wq => ∃ k y : Nat, k + q = ln ∧ y = z + k ∧ i = .int .i64 (k : Int) ∧ p = .int .i64 (y : Int) ∧ wq = wr)
                                                case atStart => exact ⟨0, z, by omega, by omega, rfl, rfl, rfl⟩
                                                case round =>
                                                  as_aux_lemma =>
                                                    obtain ⟨k, y, hk, hy, rfl, rfl, rfl⟩ := hrel
                                                    by_cases hlk : (k : Int) < ln
                                                    · obtain ⟨rb, ro', hra, hck⟩ := natRow_at HRW.out (k := k) (by rw [HLN.out]; omega)
                                                      have hx1 := VIn.writes_lt (V := V) (t := t) (n := ni) (k := k) (by rw [HLN.out]; omega)
                                                      have hx2 := VIn.writes_in (V := V) (t := t) (n := ni) (k := k) (by rw [HLN.out]; omega)
                                                      have hpr : ∀ k', k = k' + 1 → ∃ y' : Nat, wr.cell? ⟨rb, ro' + k', none⟩ = some (.int .i64 (y' : Int)) ∧ (y' : Int) < ((V.writes t ni).getD k 0 : Nat) := fun k' e => by
                                                        obtain ⟨rb2, ro2, hra2, hck2⟩ := natRow_at HRW.out (k := k') (by rw [HLN.out]; omega)
                                                        rw [hra] at hra2
                                                        cases hra2
                                                        refine ⟨_, hck2, ?_⟩
                                                        have := V.writes_asc t ni k' k (by omega) (by rw [natInts_length, HLN.out]; omega)
                                                        rw [natInts_getD, natInts_getD] at this
                                                        exact this
                                                      subst hra
                                                      obtain ⟨x, hx⟩ : ∃ x, (V.writes t ni).getD k 0 = x := ⟨_, rfl⟩
                                                      rw [hx] at hck hx1 hx2 hpr
                                                      clear hx
                                                      have hx3 : (x : Int) < ni := by omega
                                                      have hcx := HBk.out.wts (x := x) hx1
                                                      have hRX := HBk.out.wtsRow (x := x) hx1
                                                      have hwl := VIn.writers_len HFIT.out (x := x) (by rw [hVN]; exact hx1)
                                                      rw [HVM.out] at hwl
                                                      have hcon := contains_any (ra5 x) (rc5 x) (V.writers x).length (natInts (V.writers x)) (t : Int) wr hRX (natInts_length _) (by omega)
                                                      obtain ⟨wl, hwl'⟩ : ∃ n, (V.writers x).length = n := ⟨_, rfl⟩
                                                      obtain ⟨wA, hwA⟩ : ∃ a, ra5 x = a := ⟨_, rfl⟩
                                                      obtain ⟨wC, hwC⟩ : ∃ a, rc5 x = a := ⟨_, rfl⟩
                                                      rw [hwl', hwA, hwC] at hcx hcon
                                                      have HCON : Hid (Calls Try.prog 31 #[.slice wA wl wC, .int .i64 (t : Int)] wr fun e w' => e = .returned (.bool true) ∧ w' = wr) := hcon.mono fun e w' ⟨r, h1, h2, h3⟩ => by
                                                        have : r = true := h2.2 (has_nat.2 hx2)
                                                        subst this
                                                        exact ⟨h1, h3⟩
                                                      clear hcon hx2 hRX hwl hwl' hwA hwC
                                                      have d1 : decide ((x : Int) < 0) = false := by simp
                                                      have d2 : decide ((ni : Int) ≤ x) = false := by first | (simp; omega) | simp
                                                      by_cases c2 : k = 0
                                                      · subst c2
                                                        clear hpr
                                                        rw [Nat.add_zero] at hck
                                                        go_wp2_with (first | (go_at_call 31; refine HCON.out.mono ?_; rintro e w' ⟨rfl, rfl⟩) | fail)
                                                        go_roundg (gk - 1)
                                                        case measure => omega
                                                        case rel => exact ⟨1, y + 1, by omega, by omega, by go_num, by go_num, rfl⟩
                                                      · obtain ⟨k', hk'⟩ : ∃ k', k = k' + 1 := ⟨k - 1, by omega⟩
                                                        obtain ⟨y', hcy, hyx⟩ := hpr k' hk'
                                                        clear hpr
                                                        subst hk'
                                                        have hsub : ((k' + 1 : Nat) : Int) - 1 = (k' : Int) := by omega
                                                        have d3 : decide ((x : Int) ≤ y') = false := by first | (simp; omega) | simp
                                                        have d4 : decide ((0 : Int) < ((k' + 1 : Nat) : Int)) = true := by simp
                                                        have hk'2 : (k' : Int) < ln := by omega
                                                        go_wp2_with (first | (go_at_call 31; refine HCON.out.mono ?_; rintro e w' ⟨rfl, rfl⟩) | fail)
                                                        go_roundg (gk - 1)
                                                        case measure => omega
                                                        case rel => exact ⟨k' + 1 + 1, y + 1, by omega, by omega, by go_num, by go_num, rfl⟩
                                                    · have e : k = ln := by omega
                                                      subst e
                                                      subst hy
                                                      go_wp2
                                                      go_roundg (xn - (t + 1))
                                                      case measure => omega
                                                      case rel => exact ⟨t + 1, z + k, by omega, by go_num, by go_num, by omega, hidden (by show z + k = sumTo _ t + (V.writes t ni).length; rw [HZ.out, HLN.out]), rfl⟩
                                              · have e : t = xn := by omega
                                                subst e
                                                have e2 : z = N := by rw [HZ.out, HNN.out]
                                                subst e2
                                                go_wp2
                                                go_meet
                                                exact ⟨rfl, rfl⟩
                                      case rest =>
                                        as_aux_lemma =>
                                          obtain ⟨rfl, hw⟩ := hcut
                                          subst hw
                                          have HMK : Hid (∀ n : Nat, n ≤ 1048576 → ∀ w : World, (Instr.makeSlice 24 (.int .i64 (n : Int)) (.int .i64 (n : Int))).run Try.prog w = .ok (.slice (some ⟨w.heap.size, 0, none⟩) n n) (w.alloc (.cells (madeCells #[.int .i64 0] n) 3))) := fun n hn => run_make_row' (P := Try.prog) 24 3 (.int .i64 0) 8 Try.underlying24 Try.info3 rfl .i64 .i64 n (by omega) (by omega)
                                          have hmk := HMK.out xn b2
                                          go_upto_block 6 with fail
                                          clear hmk
                                          obtain ⟨sB, hsB⟩ : ∃ n, wc.heap.size = n := ⟨_, rfl⟩
                                          rw [hsB]
                                          have HSR : Hid ((wc.alloc (.cells (madeCells #[.int .i64 0] xn) 3)).rowIs sB 3 xn (fun _ => .int .i64 0)) := by rw [← hsB]; exact World.rowIs_made _ _ _ _
                                          have HSB : Hid (Below wc.heap.size wc (wc.alloc (.cells (madeCells #[.int .i64 0] xn) 3))) := (Below.refl _ _).alloc (Nat.le_refl _) _
                                          have HsB := hidden hsB
                                          clear hsB
                                          go_cut [28] from 369 to 434 (fun p wx => p = .int .i64 0 ∧ Hid (Below wc.heap.size wc wx))
                                          case first =>
                                            as_aux_lemma =>
                                              go_wp2 --TAGL2
                                              go_loopg [28, 34] ni (fun q p i wr => ∃ (x : Nat) (z : Int) (f : Nat → Int), x + q = ni ∧ i = .int .i64 (x : Int) ∧ p = .int .i64 z ∧ Hid (z = (N : Int) - sumTo (fun x => (V.writers x).length) x) ∧ Hid (wr.rowIs sB 3 xn (fun t => .int .i64 (f t))) ∧ Hid (∀ t, t < xn → 0 ≤ f t ∧ f t ≤ x) ∧ Hid (Below wc.heap.size wc wr))
                                              case atStart => exact ⟨0, N, fun _ => 0, by omega, rfl, rfl, hidden (by simp [sumTo]), HSR, hidden (fun t _ => ⟨Int.le_refl 0, by show (0 : Int) ≤ ((0 : Nat) : Int); omega⟩), HSB⟩
                                              case round =>
                                                as_aux_lemma =>
                                                  obtain ⟨x, z, f, hx, rfl, rfl, HZ, HRow, HF, HBel⟩ := hrel
                                                  clear HSR HSB
                                                  by_cases hlt : (x : Int) < ni
                                                  · have HBr : Hid (Bk V xn ni oB p4 p5 p6 p8 p9 H1 H2 ra4 ra5 rc4 rc5 wr) := HBk.out.kept HBel.out
                                                    have hwl := VIn.writers_len HFIT.out (x := x) (by rw [hVN]; omega)
                                                    rw [HVM.out] at hwl
                                                    have hzb : -1099511627776 ≤ z ∧ z ≤ 1099511627776 := by
                                                      have h1 := HZ.out
                                                      have h2 : sumTo (fun x => (V.writers x).length) x ≤ x * 1048576 := sumTo_le (fun i hi => by
                                                        have := VIn.writers_len HFIT.out (x := i) (by rw [hVN]; omega)
                                                        rw [HVM.out] at this
                                                        omega)
                                                      omega
                                                    obtain ⟨hz1, hz2⟩ := hzb
                                                    have c9 := HBr.out.c9
                                                    have hcx := HBr.out.wts (x := x) (by omega)
                                                    obtain ⟨wl, hwl'⟩ : ∃ n, (V.writers x).length = n := ⟨_, rfl⟩
                                                    obtain ⟨wA, hwA⟩ : ∃ a, ra5 x = a := ⟨_, rfl⟩
                                                    obtain ⟨wC, hwC⟩ : ∃ a, rc5 x = a := ⟨_, rfl⟩
                                                    rw [hwl', hwA, hwC] at hcx
                                                    rw [hwl'] at hwl
                                                    have HWL := hidden hwl'
                                                    have HWA := hidden hwA
                                                    have HWC := hidden hwC
                                                    clear hwl' hwA hwC
                                                    go_wp2
                                                    clear c9 hcx
                                                    go_loopg [28, 382] wl (fun q p i wr => ∃ (k : Nat) (y : Int) (f : Nat → Int), k + q = wl ∧ y = z - k ∧ i = .int .i64 (k : Int) ∧ p = .int .i64 y ∧ Hid (wr.rowIs sB 3 xn (fun t => .int .i64 (f t))) ∧ Hid (∀ t, t < xn → 0 ≤ f t ∧ (f t ≤ x ∨ (f t = (x : Int) + 1 ∧ ∃ j, j < k ∧ (V.writers x).getD j 0 = t))) ∧ Hid (Below wc.heap.size wc wr))
                                                    case atStart => exact ⟨0, z, f, by omega, by omega, rfl, rfl, HRow, hidden (fun t ht => ⟨(HF.out t ht).1, .inl (HF.out t ht).2⟩), HBel⟩
                                                    case round =>
                                                      as_aux_lemma =>
                                                        clear HRow HF HBel HBr
                                                        obtain ⟨k, y, f, hk, hy, rfl, rfl, HRow, HF, HBel⟩ := hrel
                                                        have HBr : Hid (Bk V xn ni oB p4 p5 p6 p8 p9 H1 H2 ra4 ra5 rc4 rc5 wr) := HBk.out.kept HBel.out
                                                        by_cases hlk : (k : Int) < wl
                                                        · have hRX := HBr.out.wtsRow (x := x) (by omega)
                                                          rw [HWA.out] at hRX
                                                          obtain ⟨rb, ro', hra, hck⟩ := natRow_at hRX (k := k) (by rw [HWL.out]; omega)
                                                          have ht1 := VIn.writers_lt HFIT.out (x := x) (k := k) (by rw [hVN]; omega) (by rw [HWL.out]; omega)
                                                          rw [HVM.out] at ht1
                                                          have hnd : ∀ j, j < k → (V.writers x).getD j 0 ≠ (V.writers x).getD k 0 := fun j hj => nodup_getD (once_nodup _) hj (by show k < (V.writers x).length; rw [HWL.out]; omega)
                                                          have HWA2 : Hid (ra5 x = some ⟨rb, ro', none⟩) := by rw [← hra]; exact HWA
                                                          clear hRX HWA
                                                          subst hra
                                                          obtain ⟨t, ht⟩ : ∃ t, (V.writers x).getD k 0 = t := ⟨_, rfl⟩
                                                          rw [ht] at hck ht1 hnd
                                                          have HT0 := hidden ht
                                                          have hF1 := HF.out t ht1
                                                          have hcs := HRow.out.cell (i := t) ht1
                                                          have hfs := HRow.out.frozen t
                                                          obtain ⟨F, hF⟩ : ∃ F, f t = F := ⟨_, rfl⟩
                                                          rw [hF] at hF1 hcs
                                                          have hF2 : 0 ≤ F ∧ F ≤ x := ⟨hF1.1, hF1.2.elim id (fun ⟨_, j, hj, e⟩ => absurd e (hnd j hj))⟩
                                                          have hne : (F == (x : Int) + 1) = false := by first | (simp; omega) | simp
                                                          have HRow2 : Hid ((wr.setCell ⟨sB, t, none⟩ (.int .i64 ((x : Int) + 1))).rowIs sB 3 xn (fun u => .int .i64 (if u = t then (x : Int) + 1 else f u))) := (HRow.out.set t _).congr (fun u _ => by
                                                            by_cases e : u = t
                                                            · rw [if_pos e, if_pos e]
                                                            · rw [if_neg e, if_neg e])
                                                          have HBel2 : Hid (Below wc.heap.size wc (wr.setCell ⟨sB, t, none⟩ (.int .i64 ((x : Int) + 1)))) := HBel.out.setCell (by rw [HsB.out]; exact Nat.le_refl _) _
                                                          have HF2 : Hid (∀ u, u < xn → 0 ≤ (if u = t then (x : Int) + 1 else f u) ∧ ((if u = t then (x : Int) + 1 else f u) ≤ x ∨ ((if u = t then (x : Int) + 1 else f u) = (x : Int) + 1 ∧ ∃ j, j < k + 1 ∧ (V.writers x).getD j 0 = u))) := fun u hu => by
                                                            by_cases e : u = t
                                                            · rw [if_pos e]
                                                              exact ⟨by omega, .inr ⟨rfl, k, by omega, by rw [e]; exact ht⟩⟩
                                                            · rw [if_neg e]
                                                              obtain ⟨h1, h2⟩ := HF.out u hu
                                                              exact ⟨h1, h2.imp id (fun ⟨h3, j, hj, h4⟩ => ⟨h3, j, by omega, h4⟩)⟩
                                                          have ht2 : (t : Int) < xn := by omega
                                                          have d1 : decide ((t : Int) < 0) = false := by simp
                                                          have d2 : decide ((xn : Int) ≤ t) = false := by first | (simp; omega) | simp
                                                          have hy1 : -1099512676353 ≤ y := by omega
                                                          have hy2 : y ≤ 1099512676353 := by omega
                                                          obtain ⟨hF3, hF4⟩ := hF2
                                                          have HY := hidden hy
                                                          clear hF1 hnd ht hF HRow HF hy
                                                          go_wp2
                                                          go_roundg (gk - 1)
                                                          case measure => omega
                                                          case rel => exact ⟨k + 1, y - 1, _, by omega, by have := HY.out; omega, by go_num, by go_num, HRow2, HF2, HBel2⟩
                                                        · have e : k = wl := by omega
                                                          subst e
                                                          have c4 := HBr.out.c4
                                                          have c9 := HBr.out.c9
                                                          have hcx := HBr.out.wts (x := x) (by omega)
                                                          have hcf := HBr.out.fin (x := x) (by omega)
                                                          have hRX := HBr.out.wtsRow (x := x) (by omega)
                                                          rw [HWL.out, HWA.out, HWC.out] at hcx
                                                          rw [HWA.out] at hRX
                                                          have HF3 : Hid (∀ t, t < xn → 0 ≤ f t ∧ f t ≤ ((x + 1 : Nat) : Int)) := fun t ht => by
                                                            obtain ⟨h1, h2⟩ := HF.out t ht
                                                            refine ⟨h1, ?_⟩
                                                            rcases h2 with h2 | ⟨h2, -⟩ <;> omega
                                                          have HZ2 : Hid (y = (N : Int) - sumTo (fun x => (V.writers x).length) (x + 1)) := by
                                                            show _ = (N : Int) - ((sumTo (fun x => (V.writers x).length) x + (V.writers x).length : Nat) : Int)
                                                            rw [HWL.out, hy, HZ.out]
                                                            omega
                                                          clear hy
                                                          by_cases h0 : k = 0
                                                          · subst h0
                                                            have hnil : V.writers x = [] := List.length_eq_zero_iff.1 HWL.out
                                                            have hfin : V.final x = -1 := by unfold VIn.final; rw [if_pos (VIn.writers_nil.1 hnil)]
                                                            rw [hfin] at hcf
                                                            clear hnil hfin hRX
                                                            go_wp2
                                                            go_roundg (ni - (x + 1))
                                                            case measure => omega
                                                            case rel => exact ⟨x + 1, y, f, by omega, by go_num, rfl, HZ2, HRow, HF3, HBel⟩
                                                          · have hrow : V.row x ≠ [] := fun e => by
                                                              have h1 := VIn.writers_nil.2 e
                                                              have h2 := HWL.out
                                                              rw [h1] at h2
                                                              exact h0 h2.symm
                                                            obtain ⟨t, htm, hft⟩ := VIn.final_mem hrow
                                                            rw [hft] at hcf
                                                            have HQ := hidden (fun d => contains_quiet (c := wC) (n := k) hRX (by rw [natInts_length]; exact HWL.out) (by omega) (has_nat.2 htm) d)
                                                            have dk : ((k : Int) == 0) = false := by first | (simp; omega) | simp
                                                            have HRow2 : Hid (∀ d, (wr.drewN d).rowIs sB 3 xn (fun t => .int .i64 (f t))) := fun d => HRow.out.of_block rfl
                                                            clear hRX hrow htm hft
                                                            go_wp2
                                                            go_quiet ((go_at_call 31; exact HQ.out _))
                                                            go_wp2
                                                            go_roundg (ni - (x + 1))
                                                            case measure => omega
                                                            case rel => exact ⟨x + 1, y, f, by omega, by go_num, rfl, HZ2, HRow2.out _, HF3, below_drewN HBel.out _⟩
                                                  · have e : x = ni := by omega
                                                    subst e
                                                    have hz0 : z = 0 := by
                                                      have h1 := HZ.out
                                                      have h2 := VIn.pairs HFIT.out
                                                      rw [HVM.out, hVN, HNN.out] at h2
                                                      rw [← h2] at h1
                                                      omega
                                                    subst hz0
                                                    go_wp2
                                                    go_meet
                                                    exact ⟨rfl, HBel⟩
                                          case rest =>
                                            as_aux_lemma =>
                                              obtain ⟨rfl, HB2⟩ := hcut
                                              have HBk2 : Hid (Bk V xn ni oB p4 p5 p6 p8 p9 H1 H2 ra4 ra5 rc4 rc5 wc) := HBk.out.kept HB2.out
                                              have HBW2 : Hid (Below w1.heap.size w1 wc) := HBW.out.trans (HB2.out.mono HBW.out.size)
                                              clear HSR HSB HsB HBk HBW HB2 HNN
                                              have hmk := HMK.out ni b3
                                              go_upto_block 10 with fail
                                              clear hmk HMK
                                              obtain ⟨aB, haB⟩ : ∃ n, wc.heap.size = n := ⟨_, rfl⟩
                                              rw [haB]
                                              have HAR : Hid ((wc.alloc (.cells (madeCells #[.int .i64 0] ni) 3)).rowIs aB 3 ni (fun x => .int .i64 (V.armT 0 0 x : Int))) := by rw [← haB]; exact World.rowIs_made _ _ _ _
                                              have HAB : Hid (Below wc.heap.size wc (wc.alloc (.cells (madeCells #[.int .i64 0] ni) 3))) := (Below.refl _ _).alloc (Nat.le_refl _) _
                                              have HaB := hidden haB
                                              clear haB
                                              obtain ⟨S, hS⟩ : ∃ S, sumTo (fun t => V.pending t V.nr) xn = S := ⟨_, rfl⟩
                                              have HSS := hidden hS
                                              clear hS
                                              go_cut [38] from 435 to 567 (fun s wx => s = .int .i64 (S : Int) ∧ Hid (Below wc.heap.size wc wx) ∧ Hid (wx.rowIs aB 3 ni (fun x => .int .i64 (V.armed x V.nr : Int))))
                                              case first =>
                                                as_aux_lemma =>
                                                  go_wp2 --TAGL3
                                                  go_loopg [38, 39] xn (fun q s i wr => ∃ t z : Nat, t + q = xn ∧ i = .int .i64 (t : Int) ∧ s = .int .i64 (z : Int) ∧ z ≤ t * 1048576 ∧ Hid (z = sumTo (fun t => V.pending t V.nr) t) ∧ Hid (wr.rowIs aB 3 ni (fun x => .int .i64 (V.armT t 0 x : Int))) ∧ Hid (Below wc.heap.size wc wr))
                                                  case atStart => exact ⟨0, 0, by omega, rfl, rfl, by omega, rfl, HAR, HAB⟩
                                                  case round =>
                                                    as_aux_lemma =>
                                                      clear HAR HAB
                                                      obtain ⟨t, z, ht, rfl, rfl, hzb, HZ, HRow, HBel⟩ := hrel
                                                      by_cases hlt : (t : Int) < xn
                                                      · have HBr : Hid (Bk V xn ni oB p4 p5 p6 p8 p9 H1 H2 ra4 ra5 rc4 rc5 wr) := HBk2.out.kept HBel.out
                                                        have c10 := HBr.out.c10
                                                        have c11 := HBr.out.c11
                                                        have c12 := HBr.out.c12
                                                        have c13 := HBr.out.c13
                                                        obtain ⟨g0, g1, g2, g3⟩ := HBr.out.u1.heads (t := t) (by rw [HVM.out]; omega)
                                                        have hnb : (V.reads t V.nr).length ≤ 1048576 := Nat.le_trans (V.reads_len t V.nr) HNR.out
                                                        obtain ⟨n, hn⟩ : ∃ n, (V.reads t V.nr).length = n := ⟨_, rfl⟩
                                                        obtain ⟨q0, hq0⟩ : ∃ n, H1 + 4 + 4 * t = n := ⟨_, rfl⟩
                                                        obtain ⟨q1, hq1⟩ : ∃ n, H1 + 5 + 4 * t = n := ⟨_, rfl⟩
                                                        obtain ⟨q2, hq2⟩ : ∃ n, H1 + 6 + 4 * t = n := ⟨_, rfl⟩
                                                        obtain ⟨q3, hq3⟩ : ∃ n, H1 + 7 + 4 * t = n := ⟨_, rfl⟩
                                                        rw [hn, hq0] at g0
                                                        rw [hn, hq1] at g1
                                                        rw [hn, hq2] at g2
                                                        rw [hn, hq3] at g3
                                                        rw [hn] at hnb
                                                        have HN := hidden hn
                                                        have HQ0 := hidden (And.intro hq0 (And.intro hq1 (And.intro hq2 hq3)))
                                                        clear hn hq0 hq1 hq2 hq3
                                                        go_wp2
                                                        clear c10 c11 c12 c13 g0 g1 g2 g3
                                                        go_loopg [41, 42] n (fun q p i wr => ∃ k P : Nat, k + q = n ∧ i = .int .i64 (k : Int) ∧ p = .int .i64 (P : Int) ∧ P ≤ k ∧ Hid (P = V.penK t k) ∧ Hid (wr.rowIs aB 3 ni (fun x => .int .i64 (V.armT t k x : Int))) ∧ Hid (Below wc.heap.size wc wr))
                                                        case atStart => exact ⟨0, 0, by omega, rfl, rfl, by omega, rfl, HRow, HBel⟩
                                                        case round =>
                                                          as_aux_lemma =>
                                                            clear HRow HBel HBr
                                                            obtain ⟨k, P, hk, rfl, rfl, hPk, HP, HRow, HBel⟩ := hrel
                                                            have HBr : Hid (Bk V xn ni oB p4 p5 p6 p8 p9 H1 H2 ra4 ra5 rc4 rc5 wr) := HBk2.out.kept HBel.out
                                                            by_cases hlk : (k : Int) < n
                                                            · have c10 := HBr.out.c10
                                                              have c11 := HBr.out.c11
                                                              have c12 := HBr.out.c12
                                                              have c13 := HBr.out.c13
                                                              have c8 := HBr.out.c8
                                                              obtain ⟨g0, g1, g2, g3⟩ := HBr.out.u1.heads (t := t) (by rw [HVM.out]; omega)
                                                              obtain ⟨e0, e1, e2, e3⟩ := HBr.out.u1.elems (t := t) (k := k) (by rw [HVM.out]; omega) (by rw [HN.out]; omega)
                                                              obtain ⟨a1, a2, a3⟩ := VIn.reads_at (V := V) (t := t) (n := V.nr) (k := k) (by rw [HN.out]; omega)
                                                              have hit := HFIT.out.it _ a1
                                                              rw [hVN] at hit
                                                              have hwr := VIn.wr_has (V := V) a3 (by rw [hVN]; exact hit)
                                                              have hsn := VIn.src_ne (HNB.out _ a1) a2
                                                              have hsl : ∀ s, V.src ((V.reads t V.nr).getD k 0) = some s → s < xn := fun s hs => by have := VIn.src_lt HFIT.out a1 hs; rw [HVM.out] at this; exact this
                                                              obtain ⟨q0e, q1e, q2e, q3e⟩ := HQ0.out
                                                              rw [HN.out, q0e] at g0
                                                              rw [HN.out, q1e] at g1
                                                              rw [HN.out, q2e] at g2
                                                              rw [HN.out, q3e] at g3
                                                              rw [q0e, a3] at e0
                                                              rw [q1e] at e1
                                                              rw [q2e] at e2
                                                              rw [q3e] at e3
                                                              rw [hVN] at hwr
                                                              have hcw := HBr.out.wrs (t := t) (by omega)
                                                              have hRW := HBr.out.wrsRow (t := t) (by omega)
                                                              have hlb : (V.writes t ni).length ≤ ni := V.writes_len t ni
                                                              have hsq := fun d => sorted_quiet (w := wr) (c := rc4 t) hRW (natInts_length _) (by omega) (V.writes_asc t ni) hwr d
                                                              have han : ∀ x, V.src ((V.reads t V.nr).getD k 0) = none → V.armT t (k + 1) x = if x = V.it ((V.reads t V.nr).getD k 0) then V.armT t k x + 1 else V.armT t k x := fun x h => VIn.armT_none h
                                                              have hpn := VIn.penK_none (V := V) (t := t) (k := k)
                                                              rw [a3] at hsn
                                                              obtain ⟨X, hX⟩ : ∃ x, V.it ((V.reads t V.nr).getD k 0) = x := ⟨_, rfl⟩
                                                              obtain ⟨B, hB⟩ : ∃ x, V.wr ((V.reads t V.nr).getD k 0) = x := ⟨_, rfl⟩
                                                              obtain ⟨ln, hln⟩ : ∃ n, (V.writes t ni).length = n := ⟨_, rfl⟩
                                                              obtain ⟨rA, hrA⟩ : ∃ a, ra4 t = a := ⟨_, rfl⟩
                                                              obtain ⟨rC, hrC⟩ : ∃ a, rc4 t = a := ⟨_, rfl⟩
                                                              rw [hX] at e1 hit hsq
                                                              rw [hB] at e3 hsq
                                                              simp only [hln, hrA, hrC] at hcw hsq
                                                              simp only [hX] at han
                                                              have HSQ := hidden hsq
                                                              have hX2 : (X : Int) < ni := by omega
                                                              have d1 : decide ((X : Int) < 0) = false := by simp
                                                              have d2 : decide ((ni : Int) ≤ X) = false := by first | (simp; omega) | simp
                                                              clear hsq hwr hB hln hrA hrC hRW hlb a1 a2 a3
                                                              cases hs : V.src ((V.reads t V.nr).getD k 0) with
                                                              | none =>
                                                                have hZ : V.srcZ ((V.reads t V.nr).getD k 0) = -1 := by unfold VIn.srcZ; rw [hs]
                                                                rw [hZ] at e2
                                                                have hca := HRow.out.cell (i := X) hit
                                                                have hfa := HRow.out.frozen X
                                                                have hab : V.armT t k X ≤ 1099511627776 := by
                                                                  have h1 : sumTo (fun t' => V.armK t' X (V.reads t' V.nr).length) t ≤ t * 1048576 := sumTo_le (fun i _ => Nat.le_trans (cnt_le _ _) (Nat.le_trans (V.reads_len i V.nr) HNR.out))
                                                                  have h2 : V.armK t X k ≤ k := cnt_le _ _
                                                                  have h3 : V.armT t k X = sumTo (fun t' => V.armK t' X (V.reads t' V.nr).length) t + V.armK t X k := rfl
                                                                  omega
                                                                obtain ⟨A, hA⟩ : ∃ A, V.armT t k X = A := ⟨_, rfl⟩
                                                                have HRow2 : Hid (∀ d, ((wr.drewN d).setCell ⟨aB, X, none⟩ (.int .i64 ((A : Int) + 1))).rowIs aB 3 ni (fun x => .int .i64 (V.armT t (k + 1) x : Int))) := fun d => ((HRow.out.of_block (w' := wr.drewN d) rfl).set X _).congr (fun u _ => by
                                                                  rw [han u hs]
                                                                  by_cases e : u = X
                                                                  · rw [if_pos e, if_pos e, e, hA]; rfl
                                                                  · rw [if_neg e, if_neg e])
                                                                have HBel2 : Hid (∀ d, Below wc.heap.size wc ((wr.drewN d).setCell ⟨aB, X, none⟩ (.int .i64 ((A : Int) + 1)))) := fun d => (below_drewN HBel.out d).setCell (by rw [HaB.out]; exact Nat.le_refl _) _
                                                                have HP2 : Hid (P = V.penK t (k + 1)) := by show P = _; rw [hpn hs]; exact HP.out
                                                                rw [hA] at hca hab
                                                                have d3 : decide ((xn : Int) ≤ -1) = false := by first | (simp; omega) | simp
                                                                have d4 : ((-1 : Int) == (t : Int)) = false := by first | (simp; omega) | simp
                                                                clear hsn hsl hs hZ hX hA HRow han hpn HP
                                                                go_wp2
                                                                go_quiet ((go_at_call 28; exact HSQ.out _))
                                                                go_wp2
                                                                go_roundg (gk - 1)
                                                                case measure => omega
                                                                case rel => exact ⟨k + 1, P, by omega, by go_num, rfl, by omega, HP2, HRow2.out _, HBel2.out _⟩
                                                              | some s =>
                                                                have hZ : V.srcZ ((V.reads t V.nr).getD k 0) = (s : Int) := by unfold VIn.srcZ; rw [hs]
                                                                rw [hZ] at e2
                                                                have hs1 := hsl s hs
                                                                have hs2 : s ≠ t := fun e => hsn (by rw [hs, e])
                                                                have HRow2 : Hid (∀ d, (wr.drewN d).rowIs aB 3 ni (fun x => .int .i64 (V.armT t (k + 1) x : Int))) := fun d => (HRow.out.of_block (w' := wr.drewN d) rfl).congr (fun u _ => by rw [VIn.armT_some (by rw [hs]; rfl)])
                                                                have HP2 : Hid (P + 1 = V.penK t (k + 1)) := by show P + 1 = _; rw [VIn.penK_some (by rw [hs]; rfl), ← HP.out]
                                                                have d3 : decide ((xn : Int) ≤ (s : Int)) = false := by first | (simp; omega) | simp
                                                                have d4 : ((s : Int) == (t : Int)) = false := by first | (simp; omega) | simp
                                                                have d5 : decide ((s : Int) < -1) = false := by first | (simp; omega) | simp
                                                                have d6 : ((s : Int) == -1) = false := by first | (simp; omega) | simp
                                                                clear hsn hsl hs hZ hX HRow han hpn HP hs2
                                                                go_wp2
                                                                go_quiet ((go_at_call 28; exact HSQ.out _))
                                                                go_wp2
                                                                go_roundg (gk - 1)
                                                                case measure => omega
                                                                case rel => exact ⟨k + 1, P + 1, by omega, by go_num, by go_num, by omega, HP2, HRow2.out _, below_drewN HBel.out _⟩
                                                            · have e : k = n := by omega
                                                              subst e
                                                              have hp1 : P = V.pending t V.nr := by rw [HP.out, ← V.penK_all t, HN.out]
                                                              have c5 := HBr.out.c5
                                                              have hcp := HBr.out.pen (t := t) (by omega)
                                                              rw [← hp1] at hcp
                                                              have HP1 := hidden hp1
                                                              clear hp1
                                                              go_wp2
                                                              go_roundg (xn - (t + 1))
                                                              case measure => omega
                                                              case rel => exact ⟨t + 1, z + P, by omega, by go_num, by go_num, by omega, hidden (by show z + P = sumTo _ t + V.pending t V.nr; rw [HZ.out, HP1.out]), hidden (HRow.out.congr (fun u _ => by rw [← HN.out, V.armT_next])), HBel⟩
                                                      · have e : t = xn := by omega
                                                        subst e
                                                        have e2 : z = S := by rw [HZ.out, HSS.out]
                                                        subst e2
                                                        go_wp2
                                                        go_meet
                                                        exact ⟨rfl, HBel, hidden (HRow.out.congr (fun u _ => by have := VIn.armT_all HFIT.out u; rw [HVM.out] at this; rw [this]))⟩
                                              case rest =>
                                                as_aux_lemma =>
                                                  clear HAR HAB
                                                  obtain ⟨rfl, HB3, HAR⟩ := hcut
                                                  have HBk3 : Hid (Bk V xn ni oB p4 p5 p6 p8 p9 H1 H2 ra4 ra5 rc4 rc5 wc) := HBk2.out.kept HB3.out
                                                  have HBW3 : Hid (Below w1.heap.size w1 wc) := HBW2.out.trans (HB3.out.mono HBW2.out.size)
                                                  clear HBk2 HBW2 HB3 HaB
                                                  have HEQ := hidden (eq_same (some ⟨p9, 0, none⟩) (some ⟨aB, 0, none⟩) ni ni ni ((List.range ni).map (fun x => (V.armed x V.nr : Int))) wc HBk3.out.r9 (row_of_rowIs HAR.out (fun t _ => rfl) (fun t _ => by have := cnt_le (fun i => !V.own i && decide (V.it i = t) && (V.src i).isNone) V.nr; have h2 := HNR.out; unfold VIn.armed; exact ⟨by omega, by omega⟩)) (by simp) (by omega))
                                                  have c6 := HBk3.out.c6
                                                  go_upto_block 14 with (first | (go_at_call 25; refine HEQ.out.mono ?_; rintro e w4 ⟨rfl, nd, hw4⟩; have HW4 := hidden hw4; clear hw4) | fail)
                                                  clear HEQ c6 HAR
                                                  have HBD : Hid (Below wc.heap.size wc w4) := by show Below _ _ _; rw [HW4.out]; exact below_drewN (Below.refl _ _) nd
                                                  have HBk4 : Hid (Bk V xn ni oB p4 p5 p6 p8 p9 H1 H2 ra4 ra5 rc4 rc5 w4) := HBk3.out.kept HBD.out
                                                  have HBW4 : Hid (Below w1.heap.size w1 w4) := HBW3.out.trans (HBD.out.mono HBW3.out.size)
                                                  clear HBk3 HBW3 HBD HW4
                                                  go_cut [45] from 568 to 650 (fun s wx => s = .int .i64 (S : Int) ∧ wx = w4)
                                                  case first =>
                                                    as_aux_lemma =>
                                                      go_wp2 --TAGL4
                                                      go_loopg [45, 46] xn (fun q s i wr => ∃ t z : Nat, t + q = xn ∧ i = .int .i64 (t : Int) ∧ s = .int .i64 (z : Int) ∧ z ≤ t * 1048576 ∧ Hid (z = sumTo (fun s => (V.seenBy s V.nr).length) t) ∧ wr = w4)
                                                      case atStart => exact ⟨0, 0, by omega, rfl, rfl, by omega, rfl, rfl⟩
                                                      case round =>
                                                        as_aux_lemma =>
                                                          obtain ⟨t, z, ht, rfl, rfl, hzb, HZ, rfl⟩ := hrel
                                                          by_cases hlt : (t : Int) < xn
                                                          · have c14 := HBk4.out.c14
                                                            have c15 := HBk4.out.c15
                                                            have c16 := HBk4.out.c16
                                                            have c17 := HBk4.out.c17
                                                            obtain ⟨g0, g1, g2, g3⟩ := HBk4.out.u2.heads (t := t) (by rw [HVM.out]; omega)
                                                            have hnb : (V.seenBy t V.nr).length ≤ 1048576 := Nat.le_trans (V.seenBy_len t V.nr) HNR.out
                                                            obtain ⟨n, hn⟩ : ∃ n, (V.seenBy t V.nr).length = n := ⟨_, rfl⟩
                                                            obtain ⟨q0, hq0⟩ : ∃ n, H2 + 4 + 4 * t = n := ⟨_, rfl⟩
                                                            obtain ⟨q1, hq1⟩ : ∃ n, H2 + 5 + 4 * t = n := ⟨_, rfl⟩
                                                            obtain ⟨q2, hq2⟩ : ∃ n, H2 + 6 + 4 * t = n := ⟨_, rfl⟩
                                                            obtain ⟨q3, hq3⟩ : ∃ n, H2 + 7 + 4 * t = n := ⟨_, rfl⟩
                                                            rw [hn, hq0] at g0
                                                            rw [hn, hq1] at g1
                                                            rw [hn, hq2] at g2
                                                            rw [hn, hq3] at g3
                                                            rw [hn] at hnb
                                                            have HN := hidden hn
                                                            have HQ0 := hidden (And.intro hq0 hq2)
                                                            clear hn hq0 hq1 hq2 hq3
                                                            go_wp2
                                                            go_loopg [45, 48] n (fun q s i wq => ∃ k y : Nat, k + q = n ∧ y = z + k ∧ i = .int .i64 (k : Int) ∧ s = .int .i64 (y : Int) ∧ wq = wr)
                                                            case atStart => exact ⟨0, z, by omega, by omega, rfl, rfl, rfl⟩
                                                            case round =>
                                                              as_aux_lemma =>
                                                                obtain ⟨k, y, hk, hy, rfl, rfl, rfl⟩ := hrel
                                                                by_cases hlk : (k : Int) < n
                                                                · obtain ⟨e0, e1, e2, e3⟩ := HBk4.out.u2.elems (t := t) (k := k) (by rw [HVM.out]; omega) (by rw [HN.out]; omega)
                                                                  obtain ⟨a1, a2, a3⟩ := VIn.seenBy_at (V := V) (s := t) (n := V.nr) (k := k) (by rw [HN.out]; omega)
                                                                  have hrt := HFIT.out.rt _ a1
                                                                  rw [HVM.out] at hrt
                                                                  have hsn := VIn.src_ne (HNB.out _ a1) a2
                                                                  rw [a3] at hsn
                                                                  have hZ : V.srcZ ((V.seenBy t V.nr).getD k 0) = (t : Int) := by unfold VIn.srcZ; rw [a3]
                                                                  rw [HQ0.out.1] at e0
                                                                  rw [HQ0.out.2, hZ] at e2
                                                                  obtain ⟨r, hr⟩ : ∃ x, V.rt ((V.seenBy t V.nr).getD k 0) = x := ⟨_, rfl⟩
                                                                  rw [hr] at e0 hrt hsn
                                                                  have hrt2 : (r : Int) ≠ t := fun e => hsn (by congr 1; omega)
                                                                  have d1 : decide ((r : Int) < 0) = false := by simp
                                                                  have d2 : decide ((xn : Int) ≤ r) = false := by first | (simp; omega) | simp
                                                                  have d3 : ((r : Int) == (t : Int)) = false := by first | (simp; omega) | simp
                                                                  clear e1 e3 a1 a2 a3 hsn hZ hr
                                                                  go_wp2
                                                                  go_roundg (gk - 1)
                                                                  case measure => omega
                                                                  case rel => exact ⟨k + 1, y + 1, by omega, by omega, by go_num, by go_num, rfl⟩
                                                                · have e : k = n := by omega
                                                                  subst e
                                                                  subst hy
                                                                  go_wp2
                                                                  go_roundg (xn - (t + 1))
                                                                  case measure => omega
                                                                  case rel => exact ⟨t + 1, z + k, by omega, by go_num, by go_num, by omega, hidden (by show z + k = sumTo _ t + (V.seenBy t V.nr).length; rw [HZ.out, HN.out]), rfl⟩
                                                          · have e : t = xn := by omega
                                                            subst e
                                                            have e2 : z = S := by
                                                              have h1 := VIn.seen_sum HFIT.out
                                                              rw [HVM.out, HSS.out] at h1
                                                              rw [HZ.out, h1]
                                                            subst e2
                                                            go_wp2
                                                            go_meet
                                                            exact ⟨rfl, rfl⟩
                                                  case rest =>
                                                    as_aux_lemma =>
                                                      obtain ⟨rfl, hw⟩ := hcut
                                                      subst hw
                                                      go_wp2
                                                      go_ret
                                                      exact BoolKept.mk true rfl rfl HBW4.out
end Go.Proofs.Qxb6603374a
