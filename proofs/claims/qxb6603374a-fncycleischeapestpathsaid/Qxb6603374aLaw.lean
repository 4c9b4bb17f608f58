/- The law FnCycleIsCheapestPath, walked. -/
import Derived.Test.Qxb6603374aZc
import Derived.Test.Qxb6603374aReads
import Derived.Test.Qxb6603374aLawMem
import Derived.Deep.LoopGhost
import Derived.Deep.CutBlock
import Derived.Deep.DeepCutAuto
namespace Go.Proofs.Qxb6603374a
open Go.ChangeShapes Go.WideShapes Go.ChangeAt Go.RowKit

theorem wk_lits {n : Nat} {TR LR : Nat → List Int} {ord lev mark : List Int} {st a b up : Int} {b' x m c : Nat} {s : List Int} (hD : Dom n TR LR lev.length mark st a b) (hI : ∀ x i, x < n → i < (TR x).length → I64 ((LR x).getD i 0))
    (h : (grOf n TR LR ord lev up).Wk b' x m c s) : ∀ l ∈ s, 0 ≤ l ∧ l / 2 < lev.length ∧ I64 l := by
  induction h with
  | nil => intro l hl; simp at hl
  | @snoc x m c s i h ha ih =>
    intro l hl
    rcases List.mem_append.1 hl with h1 | h1
    · exact ih l h1
    · unfold Gr.lits at h1
      by_cases c0 : 0 ≤ (grOf n TR LR ord lev up).L x i
      · rw [if_pos c0] at h1
        simp at h1
        subst h1
        exact ⟨c0, (hD.arc x i ha.1 ha.2.1).2.2 c0, hI x i ha.1 ha.2.1⟩
      · rw [if_neg c0] at h1; simp at h1
/-- The cost that Bellman-Ford finds is the found walk's. -/
theorem cost_meets {g : Gr} {a b m c : Nat} {s : List Int} {D : Nat → Int} (ha : a < g.n) (hA : g.Attained b D) (hU : g.Upto b g.n D) (h0 : 0 ≤ D a) (hw : g.Wk b a m c s) (hm : m + 1 ≤ g.n) (hb : ∀ m' c' s', g.Wk b a m' c' s' → c ≤ c') : D a = (c : Int) := by
  obtain ⟨m', c', s', hw', e⟩ := (hA a ha).2 h0
  have h1 := hb m' c' s' hw'
  have h2 := (hU a m c s hw (by omega)).2
  omega
theorem rev_at {p : Int} {acc : List Int} {j : Nat} (hj : j < acc.length) : (p :: acc).getD (acc.length - j) 0 = acc.reverse.getD j 0 := by
  obtain ⟨i, hi⟩ : ∃ i, acc.length - j = i + 1 := ⟨acc.length - j - 1, by omega⟩
  rw [hi]
  have h1 : i < acc.length := by omega
  have h2 : acc.length - 1 - j = i := by omega
  simp only [List.getD, List.getElem?_cons_succ, List.getElem?_reverse hj, h2]
theorem sum_take {f : Int → Nat} {s : List Int} {j : Nat} (hj : j < s.length) : ((s.take (j + 1)).map f).sum = ((s.take j).map f).sum + f (s.getD j 0) := by
  rw [List.take_succ_eq_append_getElem hj, List.map_append, List.sum_append]
  simp [List.getD, List.getElem?_eq_getElem hj]

set_option maxRecDepth 100000 in
set_option maxHeartbeats 20000000 in
theorem law_any (ta la oa va ka : Option Addr) (tn tc ln lc oc vc kc : Nat) (tra lra : Nat → Option Addr) (trc lrc : Nat → Nat) (TR LR : Nat → List Int) (ord lev mark : List Int) (st a b p : Int) (w : World)
    (hT : RowsAt w ta tn tra trc TR) (hL : RowsAt w la ln lra lrc LR) (hO : Row w oa ord) (hV : Row w va lev) (hK : Row w ka mark) (hst : I64 st) :
    Calls Try.prog 5 #[.slice ta tn tc, .slice la ln lc, .slice oa ord.length oc, .slice va lev.length vc, .slice ka mark.length kc, .int .i64 st, .int .i64 a, .int .i64 b, .int .i64 p] w fun e w' => BoolKept (fun r => r = true) w e w' := by
  obtain ⟨on, hon⟩ : ∃ on, ord.length = on := ⟨_, rfl⟩
  obtain ⟨vn, hvn⟩ : ∃ vn, lev.length = vn := ⟨_, rfl⟩
  obtain ⟨kn, hkn⟩ : ∃ kn, mark.length = kn := ⟨_, rfl⟩
  rw [hon, hvn, hkn]
  have q24 : ∀ (w : World) (a : Option Addr) (n c n' c' : Nat), (binOp .neq 24 (.slice a n c) (.slice none n' c')).run Try.prog w = .ok (.bool (!a.isNone)) w := fun w a n c n' c' => run_neq_slice_nil_any w _ _ a n c n' c' Try.underlying24
  have HT := hidden hT
  have HL := hidden hL
  have HO := hidden hO
  have HV := hidden hV
  have HK := hidden hK
  have HST := hidden hst
  have HON := hidden hon
  have HVN := hidden hvn
  have HKN := hidden hkn
  clear hT hL hO hV hK hst hon hvn hkn
  go_enter Try.func5, Try.ntmps5
  go_upto_if 68 with (first | (go_at_call 15; refine (bytes_any ta la oa va ka tn tc ln lc on oc vn vc kn kc tra lra trc lrc TR LR st a b p _ HT.out HL.out).mono ?_; intro e w1 h1; obtain ⟨r, he, -, hw⟩ := h1; subst he; subst hw; cases r) | fail)
  all_goals first
    | (go_ret; exact BoolKept.mk true rfl rfl (Below.refl _ _))
    | skip
  rename_i d1 d2 d3 d4 d5 K1 hK1
  have HB1 := hidden (And.intro d1 (And.intro d2 (And.intro d3 (And.intro d4 d5.2))))
  clear d1 d2 d3 d4 d5
  go_cut [2] (fun v wx => ∃ oa' oc', v = .slice oa' on oc' ∧ Hid (Row wx oa' ord) ∧ Hid (Below w1.heap.size w1 wx))
  case first =>
    as_aux_lemma =>
      have hmk := run_make_row' (P := Try.prog) 24 3 (.int .i64 0) 8 Try.underlying24 Try.info3 rfl .i64 .i64 on (by have := HB1.out; omega) (by have := HB1.out; omega)
      cases oa with
      | none =>
        go_wp2
        go_meet
        exact ⟨none, oc, rfl, HO, Below.refl _ _⟩
      | some ad =>
        go_wp2_with (refine copy_ints _ rfl (.tmp 72) (.tmp 73) rfl (some ad) oc on ord HON.out rfl rfl HO.out ?_; intro w' hr' hb')
        go_meet
        exact ⟨_, _, rfl, hr', hb'⟩
  case rest =>
    obtain ⟨oa', oc', hv, HO', HBe⟩ := hcut
    subst hv
    clear HO
    have HV2 := hidden (HV.out.kept HBe.out)
    clear HV
    go_upto_if 77 with fail
    go_cut [3] (fun v wx => ∃ va' vc', v = .slice va' vn vc' ∧ Hid (Row wx va' lev) ∧ Hid (Row wx oa' ord) ∧ Hid (Below w1.heap.size w1 wx))
    case first =>
      as_aux_lemma =>
        have hmk := run_make_row' (P := Try.prog) 24 3 (.int .i64 0) 8 Try.underlying24 Try.info3 rfl .i64 .i64 vn (by have := HB1.out; omega) (by have := HB1.out; omega)
        cases va with
        | none =>
          go_wp2
          go_meet
          exact ⟨none, vc, rfl, HV2, HO', HBe⟩
        | some ad =>
          go_wp2_with (refine copy_ints _ rfl (.tmp 81) (.tmp 82) rfl (some ad) vc vn lev HVN.out rfl rfl HV2.out ?_; intro w' hr' hb')
          go_meet
          exact ⟨_, _, rfl, hr', HO'.out.kept hb'.out, HBe.out.trans (hb'.out.mono HBe.out.size)⟩
    case rest =>
      clear HV2 HO' HBe q24
      obtain ⟨va', vc', hv, HV, HO, HBe⟩ := hcut
      subst hv
      have HT2 := hidden (HT.out.kept HBe.out)
      have HL2 := hidden (HL.out.kept HBe.out)
      have HK2 := hidden (HK.out.kept HBe.out)
      clear HT HL HK
      have b1 := HB1.out.1
      have b2 := HB1.out.2.1
      have b3 := HB1.out.2.2.1
      have b4 := HB1.out.2.2.2.1
      have b5 := HB1.out.2.2.2.2
      go_wp2
      all_goals first
        | (go_ret; exact BoolKept.mk true rfl rfl HBe.out)
        | skip
      have hdom := domain_any ta la oa' va' ka tn tc ln lc on oc' vn vc' kc tra lra trc lrc TR LR mark st a b wc HT2.out HL2.out HK2.out (by omega)
      rw [HKN.out] at hdom
      have HDOM := hidden hdom
      clear hdom
      go_loop [21, 22] (fun s i => ∃ k z : Nat, k ≤ tn ∧ z ≤ 1048576 ∧ i = .int .i64 (k : Int) ∧ s = .int .i64 (z : Int) ∧ Hid (∀ v, v < k → (TR v).length ≤ 1048576)) (fun _ i => tn - (intOf i).toNat)
      case atStart => exact ⟨0, 8 * (tn + ln + on + vn + kn), by omega, by omega, rfl, by go_num, fun v hv => absurd hv (Nat.not_lt_zero _)⟩
      case round =>
        obtain ⟨k, z, hk, hz, rfl, rfl, HTL⟩ := hrel
        by_cases hlt : (k : Int) < tn
        · obtain ⟨tb, tq, hta, hc, -, hm⟩ := HT2.out k (by omega)
          subst hta
          go_wp2
          all_goals first
            | (go_ret; exact BoolKept.mk true rfl rfl HBe.out)
            | skip
          go_round
          case rel =>
            refine ⟨k + 1, z + 8 * (TR k).length, by omega, by omega, by go_num, by go_num, fun v hv => ?_⟩
            by_cases e : v = k
            · subst e; omega
            · exact HTL.out v (by omega)
          case measure => simp [intOf]; omega
        · have e : k = tn := by omega
          subst e
          clear hlt
          go_wp2
          go_loop [21, 23] (fun s i => ∃ j y : Nat, j ≤ ln ∧ y ≤ 1048576 ∧ i = .int .i64 (j : Int) ∧ s = .int .i64 (y : Int)) (fun _ i => ln - (intOf i).toNat)
          case atStart => exact ⟨0, z, by omega, hz, rfl, rfl⟩
          case round =>
            clear hz
            obtain ⟨j, y, hj, hy, rfl, rfl⟩ := hrel
            by_cases hlt : (j : Int) < ln
            · obtain ⟨lb, lq, hla, hc, -, hm⟩ := HL2.out j (by omega)
              subst hla
              go_wp2
              all_goals first
                | (go_ret; exact BoolKept.mk true rfl rfl HBe.out)
                | skip
              go_round
              case rel => exact ⟨j + 1, y + 8 * (LR j).length, by omega, by omega, by go_num, by go_num⟩
              case measure => simp [intOf]; omega
            · clear hj hy
              go_upto_region 34 with (first | (go_at_call 16; refine HDOM.out.mono ?_; intro e w2 h2; obtain ⟨r, he, hq, hb2⟩ := h2; have HQ := hidden hq; clear hq; subst he; cases r) | fail)
              all_goals first
                | (go_ret; exact BoolKept.mk true rfl rfl (HBe.out.trans (hb2.mono HBe.out.size)))
                | skip
              have HQ2 : Hid (ln = k ∧ on = k ∧ kn = k ∧ Dom k TR LR vn mark st a b) := by first | exact HQ.out rfl | exact HQ.out trivial
              clear HQ hlt
              obtain ⟨e1, e2, e3, hD⟩ := HQ2.out
              subst e1 e2 e3
              clear HQ2 HDOM HB1
              obtain ⟨a', ha'⟩ : ∃ a' : Nat, a = (a' : Int) := ⟨a.toNat, by have := hD.a0; omega⟩
              obtain ⟨b', hb'⟩ : ∃ b' : Nat, b = (b' : Int) := ⟨b.toNat, by have := hD.b0; omega⟩
              subst ha' hb'
              have HB2 : Hid (Below w1.heap.size w1 w2) := HBe.out.trans (hb2.mono HBe.out.size)
              have HT3 := hidden (HT2.out.kept hb2)
              have HL3 := hidden (HL2.out.kept hb2)
              have HO3 := hidden (HO.out.kept hb2)
              have HV3 := hidden (HV.out.kept hb2)
              have HK3 := hidden (HK2.out.kept hb2)
              clear HT2 HL2 HO HV HK2 hb2 HBe
              have ha1 := hD.a0.2
              obtain ⟨ob, oq, hoa, hco, hoi⟩ := HO3.out a' (by rw [HON.out]; omega)
              subst hoa
              obtain ⟨up, hup⟩ : ∃ u, ord.getD a' 0 = u := ⟨_, rfl⟩
              rw [hup] at hco hoi
              have HD2 : Hid (Dom kn TR LR lev.length mark st a' b') := by rw [HVN.out]; exact hD
              have hch := cheap_any ta la (some ⟨ob, oq, none⟩) va' kn tc lc oc' vc' tra lra trc lrc TR LR ord lev mark st a' up b' w2 HT3.out HL3.out HO3.out HV3.out HON.out (by omega) HD2.out
              rw [HVN.out] at hch
              have HCH := hidden hch
              have HUP := hidden hup
              clear hch hup hD hoi
              go_upto_region 36 with (first | (go_at_call 17; refine HCH.out.mono ?_; intro e w3 h3; obtain ⟨he, ⟨D, hrow, hat, hut⟩, hb3, hs3⟩ := h3; have HRow := hidden hrow; have HAt := hidden hat; have HUt := hidden hut; have HB3 := hidden hb3; have HS3 := hidden hs3; clear hrow hat hut hb3 hs3; have he2 : e = .returned (.slice (some ⟨w2.heap.size, 0, none⟩) kn kn) := he; clear he; subst he2) | fail)
              clear HCH hco
              have hcD := HRow.out.cell (i := a') (by show a' < kn; omega)
              obtain ⟨Da, hDa⟩ : ∃ Da, D a' = Da := ⟨_, rfl⟩
              rw [hDa] at hcD
              have HDa := hidden hDa
              clear hDa
              have HB4 : Hid (Below w1.heap.size w1 w3) := HB2.out.trans (HB3.out.mono HB2.out.size)
              by_cases hneg : Da < 0
              · go_wp2
                go_ret
                exact BoolKept.mk true rfl rfl HB4.out
              · have HT4 := hidden (HT3.out.kept HB3.out)
                have HL4 := hidden (HL3.out.kept HB3.out)
                have HO4 := hidden (HO3.out.kept HB3.out)
                have HV4 := hidden (HV3.out.kept HB3.out)
                have HK4 := hidden (HK3.out.kept HB3.out)
                clear HT3 HL3 HO3 HV3 HK3
                have hcl := clone_any ka kc mark w3 HK4.out (by rw [HKN.out]; omega) (by rw [HKN.out]; omega)
                rw [HKN.out] at hcl
                have HCL := hidden hcl
                clear hcl
                go_upto_region 39 with (first | (go_at_call 18; refine HCL.out.mono ?_; intro e w4 h4; obtain ⟨he, hrow4, hb4, hs4⟩ := h4; have HRow4 := hidden hrow4; have HB5 := hidden hb4; have HS4 := hidden hs4; clear hrow4 hb4 hs4; subst he) | fail)
                clear HCL hcD
                have HEX : Hid (∃ m c s, (grOf kn TR LR ord lev up).Wk b' a' m c s) := by
                  obtain ⟨m, c, s, hw, -⟩ := (HAt.out a' (by show a' < kn; omega)).2 (by rw [HDa.out]; omega)
                  exact ⟨m, c, s, hw⟩
                have hzc := zcycle_any ta la (some ⟨ob, oq, none⟩) va' kn tc lc oc' vc' tra lra trc lrc TR LR ord lev mark st p up a' b' w3.heap.size w4.heap.size w3 w4 HT4.out HL4.out HO4.out HV4.out HON.out (by omega) HTL.out HD2.out HST.out HUP.out HEX.out HB5.out rfl rfl HS4.out HRow4.out
                rw [HVN.out] at hzc
                have HZC := hidden hzc
                clear hzc
                go_upto_region 41 with (first | (go_at_call 19; refine HZC.out.mono ?_; intro e w5 h5; obtain ⟨v, acc, he, hown, hwk, hb5⟩ := h5; have HOwn := hidden hown; have HWk := hidden hwk; have HB6 := hidden hb5; clear hown hwk hb5; subst he) | fail)
                clear HZC HK4 HRow4 HEX
                obtain ⟨gR, cR, hv, hcap, -⟩ := owns_shape HOwn.out (by omega)
                subst hv
                obtain ⟨m, c, hwk, hmn, hbest⟩ := HWk.out
                have hI : ∀ x i, x < kn → i < (TR x).length → I64 ((LR x).getD i 0) := fun x i hx hi => by
                  obtain ⟨_, _, _, _, hr2, _⟩ := HL4.out x hx
                  obtain ⟨_, _, _, _, h2⟩ := hr2 i (by rw [HD2.out.len x hx]; exact hi)
                  exact h2
                have hlit := wk_lits HD2.out hI hwk
                rw [HVN.out] at hlit
                have hwd := Gr.Wk.words _ hwk
                have hcost := cost_meets (g := grOf kn TR LR ord lev up) (a := a') (by show a' < kn; omega) HAt.out HUt.out (by rw [HDa.out]; omega) hwk hmn hbest
                rw [HDa.out] at hcost
                have hres : ∀ i, i ≤ acc.length → w5.cell? ⟨gR, i, none⟩ = some (.int .i64 ((p :: acc).getD i 0)) := fun i hi => by
                  have h1 := HOwn.out.cells (g := gR) rfl i (.int .i64 ((p :: acc).getD i 0)) (ints_at (p :: acc) i (by simp; omega))
                  have hadd : (⟨gR, 0, none⟩ : Addr).add i = ⟨gR, i, none⟩ := by unfold Addr.add; split <;> simp_all
                  rwa [hadd] at h1
                have hrev : ∀ j, j < acc.length → (p :: acc).getD (acc.length - j) 0 = acc.reverse.getD j 0 := fun j hj => rev_at hj
                have hls : acc.reverse.length = acc.length := by simp
                obtain ⟨sq, hsq⟩ : ∃ sq, acc.reverse = sq := ⟨_, rfl⟩
                obtain ⟨k1, hk1⟩ : ∃ k1, acc.length = k1 := ⟨_, rfl⟩
                rw [hsq] at hwk hlit hwd hrev hls
                rw [hk1] at hres hrev hls hcap ⊢
                have hk1n : k1 + 1 ≤ kn := by
                  have h1 := hwd.2.1
                  have h2 : m + 1 ≤ kn := hmn
                  omega
                have hc0 : w5.cell? ⟨gR, 0, none⟩ = some (.int .i64 p) := by
                  have := hres 0 (by omega)
                  simpa [List.getD] using this
                have HRes := hidden hres
                have HRev := hidden hrev
                have HLS := hidden hls
                have HLit := hidden hlit
                have HWK := hidden hwk
                have HSum := hidden hwd.2.2
                have HCost := hidden hcost
                clear hres hrev hls hlit hwk hwd hcost hbest hmn hI hsq hk1 HOwn HWk
                have hmk3 := run_make_row' (P := Try.prog) 24 3 (.int .i64 0) 8 Try.underlying24 Try.info3 rfl .i64 .i64 k1 (by omega) (by omega)
                go_wp2
                clear hmk3 hc0
                have HO5 := hidden (HO4.out.kept HB6.out)
                have HV5 := hidden (HV4.out.kept HB6.out)
                have HT5 := hidden (HT4.out.kept HB6.out)
                have HL5 := hidden (HL4.out.kept HB6.out)
                have HB7 : Hid (Below w1.heap.size w1 w5) := HB4.out.trans (HB6.out.mono HB4.out.size)
                have HCD : Hid (w5.cell? ⟨w2.heap.size, a', none⟩ = some (.int .i64 Da)) := by
                  have h1 := HRow.out.cell (i := a') (by show a' < kn; omega)
                  rw [HDa.out] at h1
                  have h2 := HS3.out
                  show _ = _
                  rw [HB6.out.cell (by show w2.heap.size < w3.heap.size; omega)]
                  exact h1
                clear HO4 HV4 HT4 HL4 HB4 HB5 HS4 HRow HAt HUt HB3 HS3 HDa HB2
                go_loopg [30, 31] k1 (fun m hi i wr => ∃ j h : Nat, j + m = k1 ∧ i = .int .i64 (j : Int) ∧ hi = .int .i64 (h : Int) ∧ h ≤ j ∧ Hid (h = ((sq.take j).map (grOf kn TR LR ord lev up).cost).sum) ∧ Hid (wr.rowIs w5.heap.size 3 k1 (fun i => .int .i64 (if i < j then sq.getD i 0 else 0))) ∧ Hid (Below w5.heap.size w5 wr))
                case atStart => exact ⟨0, 0, by omega, rfl, rfl, Nat.le_refl _, hidden (by simp), hidden ((World.rowIs_made _ _ _ _).congr (fun i _ => by simp)), (Below.refl _ _).alloc (Nat.le_refl _) _⟩
                case round =>
                  obtain ⟨j, h, hjm, rfl, rfl, hhj, HSm, HSeq, HBq⟩ := hrel
                  by_cases hlt : j < k1
                  · obtain ⟨i1, hi1⟩ : ∃ i1, k1 - j = i1 := ⟨_, rfl⟩
                    have hcr := cellOld HBq.out (HRes.out i1 (by omega))
                    have hrv := HRev.out j hlt
                    rw [hi1] at hrv
                    rw [hrv] at hcr
                    have hmem : sq.getD j 0 ∈ sq := by
                      have h1 : j < sq.length := by rw [HLS.out]; exact hlt
                      simp [List.getD, List.getElem?_eq_getElem h1]
                    have hlt2 := HLit.out _ hmem
                    have hst := sum_take (f := (grOf kn TR LR ord lev up).cost) (s := sq) (j := j) (by rw [HLS.out]; exact hlt)
                    obtain ⟨l, hl⟩ : ∃ l, sq.getD j 0 = l := ⟨_, rfl⟩
                    rw [hl] at hcr hlt2 hst
                    have HLl := hidden hl
                    obtain ⟨l0, l1, l2⟩ := hlt2
                    have l3 := l2.1
                    have l4 := l2.2
                    obtain ⟨q, hq⟩ : ∃ q : Nat, l / 2 = (q : Int) := ⟨(l / 2).toNat, by omega⟩
                    have hq2 : l.tdiv 2 = (q : Int) := by rw [← hq]; exact Int.tdiv_eq_ediv_of_nonneg l0
                    have hq3 : (q : Int) < vn := by omega
                    obtain ⟨vb, vo, hva, hcv, hv⟩ := HV5.out.kept HBq.out q (by rw [HVN.out]; omega)
                    subst hva
                    obtain ⟨e, he'⟩ : ∃ e, lev.getD q 0 = e := ⟨_, rfl⟩
                    rw [he'] at hcv hv
                    have e1 := hv.1
                    have e2 := hv.2
                    have hidx : (k1 : Int) - (j : Int) = (i1 : Int) := by omega
                    have hi1b : i1 ≤ k1 := by omega
                    have hcw := HSeq.out.cell (i := j) hlt
                    have hfw := HSeq.out.frozen j
                    rw [if_neg (Nat.lt_irrefl _)] at hcw
                    have HSeq2 : Hid ((wr.setCell ⟨w5.heap.size, j, none⟩ (.int .i64 l)).rowIs w5.heap.size 3 k1 (fun i => .int .i64 (if i < j + 1 then sq.getD i 0 else 0))) := (HSeq.out.set j _).congr (fun i _ => by
                      by_cases c : i = j
                      · subst c; rw [if_pos rfl, if_pos (by omega), hl]
                      · rw [if_neg c]
                        by_cases c2 : i < j
                        · rw [if_pos c2, if_pos (by omega)]
                        · rw [if_neg c2, if_neg (by omega)])
                    have HBq2 : Hid (Below w5.heap.size w5 (wr.setCell ⟨w5.heap.size, j, none⟩ (.int .i64 l))) := HBq.out.setCell (Nat.le_refl _) _
                    have HST2 := hidden hst
                    by_cases c5 : 0 < e
                    · have HC := hidden (cost_high (k := kn) (TR := TR) (LR := LR) (ord := ord) (lev := lev) (up := up) l0 hq he' c5)
                      clear hq he' hv hl hst hrv hi1 hmem l2
                      go_wp2
                      go_roundg (gk - 1)
                      case measure => omega
                      case rel => exact ⟨j + 1, h + 1, by omega, by go_num, by go_num, by omega, hidden (by rw [HST2.out, HC.out, ← HSm.out]), HSeq2, HBq2⟩
                    · have HC := hidden (cost_low (k := kn) (TR := TR) (LR := LR) (ord := ord) (lev := lev) (up := up) hq he' c5)
                      clear hq he' hv hl hst hrv hi1 hmem l2
                      go_wp2
                      go_roundg (gk - 1)
                      case measure => omega
                      case rel => exact ⟨j + 1, h, by omega, by go_num, by go_num, by omega, hidden (by rw [HST2.out, HC.out, ← HSm.out]; rfl), HSeq2, HBq2⟩
                  · have e : j = k1 := by omega
                    subst e
                    have hcD := cellOld HBq.out HCD.out
                    have hhc : h = c := by
                      have h1 := HSm.out
                      rw [List.take_of_length_le (Nat.le_of_eq HLS.out)] at h1
                      rw [h1]; exact HSum.out
                    have hbn : ((h : Int) != Da) = false := by
                      have := HCost.out
                      simp
                      omega
                    have hrow : Row wr (some ⟨w5.heap.size, 0, none⟩) sq := fun i hi => by
                      have h1 : i < j := by rw [HLS.out] at hi; exact hi
                      refine ⟨w5.heap.size, 0, rfl, ?_, (HLit.out (sq.getD i 0) (by simp [List.getD, List.getElem?_eq_getElem hi])).2.2⟩
                      have h2 := HSeq.out.cell (i := i) h1
                      rw [if_pos h1] at h2
                      rw [Nat.zero_add]; exact h2
                    have hrd := reads_any ta la (some ⟨ob, oq, none⟩) (some ⟨w5.heap.size, 0, none⟩) kn tc lc oc' j tra lra trc lrc TR LR ord lev mark sq st up a' b' wr (HT5.out.kept HBq.out) (HL5.out.kept HBq.out) (HO5.out.kept HBq.out) hrow HON.out (by omega) (by rw [HLS.out]; omega) HD2.out
                    rw [HLS.out] at hrd
                    have HRD := hidden hrd
                    clear hrd hrow hhc
                    go_wp2_with (go_at_call 20; refine HRD.out.mono ?_; intro e w7 h7; obtain ⟨r, he, hq, hb7⟩ := h7; have hr := hq ⟨m, c, HWK.out⟩; have HB8 := hidden hb7; clear hq hb7; subst hr; subst he)
                    go_ret
                    exact BoolKept.mk true rfl rfl ((HB7.out.trans (HBq.out.mono HB7.out.size)).trans (HB8.out.mono (Nat.le_trans HB7.out.size HBq.out.size)))
end Go.Proofs.Qxb6603374a
