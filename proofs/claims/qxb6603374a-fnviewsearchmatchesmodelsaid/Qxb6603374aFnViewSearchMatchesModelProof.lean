/-
  The proof of the statement on FnViewSearchMatchesModel: the guide's template at this function's number and types; the walk lies in Qxb6603374aL6.
-/
import Derived.Test.Qxb6603374aL6
import Derived.Test.Qxb6603374aOpen
namespace Go.Proofs.Qxb6603374a.fnViewSearchMatchesModel
open Go.ChangeShapes Go.WideShapes Go.ChangeAt Go.RowKit
open VOpen

/-! ### THE ROW's STEP -/
set_option maxRecDepth 100000 in
theorem lifted (os : Os) (started : os.Started) (H : Type) (enc : TypeId × Value → H) :
    ReturnsInHanded {} Try.checked os 6 .any (Rows.fnViewSearchMatchesModelSpec.pre6 enc Try.prog Try.f6 Rows.fnViewSearchMatchesModelRow.domain false) (Rows.fnViewSearchMatchesModelSpec.post enc Try.prog Try.f6 false true false false) := by
  refine returnsInHanded_of_change (C := Try.checked) own started (by kernel_rfl) Try.func6
    (ChangeSpec.witness6 (enc := enc) (C := Try.checked) false ⟨#[], #[.slice none 0 0, .slice none 0 0, .slice none 0 0, .slice none 0 0, .slice none 0 0, .slice none 0 0, .slice none 0 0, .slice none 0 0], []⟩ 8 (by kernel_rfl) (by kernel_rfl) (by kernel_rfl) (by kernel_rfl)) ?_
  intro W base args ds gs before hval0 hW hcnd _
  have hval : ∀ (j : Nat) t v, Try.f6.params[j]? = some t → args[j]? = some v → Value.okWide Try.prog W .any base t v := hval0
  have hW' := hW
  obtain ⟨p, q, hA0, hV, rfl, hfz, hnd⟩ := hW
  have hA : DataW.TrodAll enc Try.prog W 0 (fun _ => true) true Try.f6.params.toList args.toList ds p := hA0
  rw [Try.params6] at hA hval
  obtain ⟨v0, vs0, d0, ds0, p0, q0, hargs, rfl, rfl, h0, r0⟩ := trodAll_cons hA
  obtain ⟨v1, vs1, d1, ds1, p1, q1, rfl, rfl, rfl, h1, r1⟩ := trodAll_cons r0
  obtain ⟨v2, vs2, d2, ds2, p2, q2, rfl, rfl, rfl, h2, r2⟩ := trodAll_cons r1
  obtain ⟨v3, vs3, d3, ds3, p3, q3, rfl, rfl, rfl, h3, r3⟩ := trodAll_cons r2
  obtain ⟨v4, vs4, d4, ds4, p4, q4, rfl, rfl, rfl, h4, r4⟩ := trodAll_cons r3
  obtain ⟨v5, vs5, d5, ds5, p5, q5, rfl, rfl, rfl, h5, r5⟩ := trodAll_cons r4
  obtain ⟨v6, vs6, d6, ds6, p6, q6, rfl, rfl, rfl, h6, r6⟩ := trodAll_cons r5
  obtain ⟨v7, vs7, d7, ds7, p7, q7, rfl, rfl, rfl, h7, r7⟩ := trodAll_cons r6
  obtain ⟨rfl, rfl, rfl⟩ := trodAll_nil r7
  obtain rfl : args = #[v0, v1, v2, v3, v4, v5, v6, v7] := by cases args; simp_all
  obtain ⟨rfl, rfl⟩ := trodVars_none hV
  have lt : ∀ {t v d ps}, DataW.Trod enc Try.prog W 0 (fun _ => true) true t v d ps → ∀ x ∈ ps, x.block < W.heap.size := fun {t v d ps} k => by obtain ⟨m, hm⟩ := k; exact DataW.trod_lt m _ _ _ hm
  obtain ⟨b0, l0, c0, e0⟩ := okWide_slice Try.underlying24 (hval 0 24 v0 rfl rfl)
  obtain ⟨b1, l1, c1, e1⟩ := okWide_slice Try.underlying24 (hval 1 24 v1 rfl rfl)
  obtain ⟨b2, l2, c2, e2⟩ := okWide_slice Try.underlying22 (hval 2 22 v2 rfl rfl)
  obtain ⟨b3, l3, c3, e3⟩ := okWide_slice Try.underlying24 (hval 3 24 v3 rfl rfl)
  obtain ⟨b4, l4, c4, e4⟩ := okWide_slice Try.underlying24 (hval 4 24 v4 rfl rfl)
  obtain ⟨b5, l5, c5, e5⟩ := okWide_slice Try.underlying24 (hval 5 24 v5 rfl rfl)
  obtain ⟨b6, l6, c6, e6⟩ := okWide_slice Try.underlying24 (hval 6 24 v6 rfl rfl)
  obtain ⟨b7, l7, c7, e7⟩ := okWide_slice Try.underlying28 (hval 7 28 v7 rfl rfl)
  subst e0 e1 e2 e3 e4 e5 e6 e7
  have k0 := h0
  have k1 := h1
  have k2 := h2
  have k3 := h3
  have k4 := h4
  have k5 := h5
  have k6 := h6
  have k7 := h7
  obtain ⟨m0, t0⟩ := h0
  obtain ⟨m1, t1⟩ := h1
  obtain ⟨m2, t2⟩ := h2
  obtain ⟨m3, t3⟩ := h3
  obtain ⟨m4, t4⟩ := h4
  obtain ⟨m5, t5⟩ := h5
  obtain ⟨m6, t6⟩ := h6
  obtain ⟨m7, t7⟩ := h7
  obtain ⟨pa, pc, ops, f0, hP, -⟩ := row_of t0
  obtain ⟨xa, xc, txns, f1, hX, -⟩ := row_of t1
  obtain ⟨ia, ni, ic, ira, irc, IR, f2, hI⟩ := rows_of t2
  obtain ⟨oa, oc, ro, f3, hO, -⟩ := row_of t3
  obtain ⟨ta, tc, rt, f4, hT, -⟩ := row_of t4
  obtain ⟨ma, mc, ri, f5, hM, -⟩ := row_of t5
  obtain ⟨sa, sc, rs, f6, hS, -⟩ := row_of t6
  obtain ⟨wa, bc, bs, f7, hB⟩ := brow_of t7
  have hw := vlaw6_any pa xa ia oa ta ma sa wa ni pc xc ic oc tc mc sc bc ira irc IR ops txns ro rt ri rs bs W hP hX hI hO hT hM hS hB
  rw [← f0, ← f1, ← f2, ← f3, ← f4, ← f5, ← f6, ← f7] at hw
  clear hA0 hval0
  refine hw.mono fun e W' ⟨r, he, hr, bel⟩ => ?_
  subst hr he
  exact ⟨_, rfl, _, _, _, [], _, [], hW', trodAll_mk1 (shut_bool Try.underlying4 _),
    (trodAll_cons_mk (Below.trod laidOut (by kernel_rfl) (of_decide_eq_true (by kernel_rfl)) k0 bel (lt k0)) (trodAll_cons_mk (Below.trod laidOut (by kernel_rfl) (of_decide_eq_true (by kernel_rfl)) k1 bel (lt k1)) (trodAll_cons_mk (Below.trod laidOut (by kernel_rfl) (of_decide_eq_true (by kernel_rfl)) k2 bel (lt k2)) (trodAll_cons_mk (Below.trod laidOut (by kernel_rfl) (of_decide_eq_true (by kernel_rfl)) k3 bel (lt k3)) (trodAll_cons_mk (Below.trod laidOut (by kernel_rfl) (of_decide_eq_true (by kernel_rfl)) k4 bel (lt k4)) (trodAll_cons_mk (Below.trod laidOut (by kernel_rfl) (of_decide_eq_true (by kernel_rfl)) k5 bel (lt k5)) (trodAll_cons_mk (Below.trod laidOut (by kernel_rfl) (of_decide_eq_true (by kernel_rfl)) k6 bel (lt k6)) (trodAll_cons_mk (Below.trod laidOut (by kernel_rfl) (of_decide_eq_true (by kernel_rfl)) k7 bel (lt k7)) trodAll_mk0)))))))), rfl, bel.frame _, fun h => by cases h⟩

theorem over : Rows.fnViewSearchMatchesModelRow.holds Try.pinned (OpenSpec.ofChange Rows.fnViewSearchMatchesModelSpec) :=
  OpenClaim.holds_of_wide 6 Try.f6 rfl rfl rfl rfl rfl rfl rfl ⟨rfl, rfl, rfl, rfl, rfl⟩ rfl rfl rfl rfl rfl (by kernel_rfl) Try.func6 (by kernel_rfl)
    (of_decide_eq_true (by kernel_rfl)) (by unfold Func.isWrapper; first | (rw [if_pos (by decide +kernel)]; kernel_rfl) | (rw [if_neg (by decide +kernel)]; exact ⟨rfl, rfl⟩))
    (fun os started H enc _ => lifted os started H enc)

/-- ████ THE STATEMENT ████ -/
theorem proved : Rows.FnViewSearchMatchesModelSaid :=
  over
end Go.Proofs.Qxb6603374a.fnViewSearchMatchesModel
