/-
  The proof of the statement on FnCycleIsCheapestPath: the guide's template at this function's number and types; the walk lies in Qxb6603374aLaw.
-/
import Derived.Test.Qxb6603374aLaw
import Derived.WalkKit
import Derived.ProofKit
import Derived.OpenShut
import Derived.ShutString
import Derived.ChangeOld
import Derived.Below
import Derived.Deep.Slices
namespace Go.Proofs.Qxb6603374a.fnCycleIsCheapestPath
open Go.ChangeShapes Go.WideShapes Go.ChangeAt Go.RowKit
open Go.ChangeMaps (open_string shut_string)
open Go.Deep (open_slice1)

theorem own : ownKnob Try.prog.godebug = none := by kernel_rfl
theorem laidOut : laidOutB Try.prog = true := by kernel_rfl
theorem cells24 : Try.prog.cellsOf 24 = 1 := by kernel_rfl
theorem cells3 : Try.prog.cellsOf 3 = 1 := by kernel_rfl

section
variable {H : Type} {enc : TypeId × Value → H} {w : World} {base : Nat} {spare : Nat → Bool} {held : Bool}

theorem addr_at {a : Addr} {v : Value} (h : w.cell? (a.add 0) = some v) : a = ⟨a.block, a.off, none⟩ := by
  have h1 : a.spot = none := World.cell?_spot (by simpa [Addr.add] using h)
  cases a
  simp at h1
  subst h1
  rfl
theorem add_at (b o i : Nat) : (⟨b, o, none⟩ : Addr).add i = ⟨b, o + i, none⟩ := by unfold Addr.add; split <;> simp_all

/-- A slice of numbers that came in. -/
theorem row_of {fuel : Nat} {v : Value} {x : DataW H × List MemPlace} (h : DataW.trod enc Try.prog w base spare held fuel 24 [v] = some x) :
    ∃ a c zs, v = .slice a (List.length zs) c ∧ Row w a zs ∧ zs.length ≤ 9223372036854775807 := by
  rcases open_ints Try.underlying24 Try.underlying3 cells3 h with ⟨h1, -⟩ | ⟨a, len, cap, zs, h1, -, hl, hm, hz, -, hc, hw⟩
  · simp at h1
    exact ⟨none, 0, [], h1, fun i hi => absurd hi (Nat.not_lt_zero _), by simp⟩
  · simp at h1
    have hlen : len ≤ zs.length := by rw [hz]; split <;> omega
    have htl : (zs.take len).length = len := by simp; omega
    refine ⟨some a, cap, zs.take len, by rw [htl]; exact h1, fun i hi => ?_, by rw [htl]; simp only [maxLen] at hm; omega⟩
    rw [htl] at hi
    have h0 := hc 0 (by omega)
    have ea := addr_at h0
    have hi2 : i < zs.length := by omega
    have eg : (zs.take len).getD i 0 = zs.getD i 0 := by simp [List.getD, hi]
    refine ⟨a.block, a.off, by rw [← ea], ?_, ?_⟩
    · have h2 := hc i hi2
      rw [ea, add_at] at h2
      rw [eg]; exact h2
    · rw [eg]
      have hmem : zs.getD i 0 ∈ zs := by simp [List.getD, List.getElem?_eq_getElem hi2]
      have h3 := hw _ hmem
      have h4 := bounds_i64 h3
      exact h4
/-- A slice of slices of numbers that came in. -/
theorem rows_of {fuel : Nat} {v : Value} {x : DataW H × List MemPlace} (h : DataW.trod enc Try.prog w base spare held fuel 22 [v] = some x) :
    ∃ a n c ra rc R, v = .slice a n c ∧ RowsAt w a n ra rc R := by
  rcases open_slice1 Try.underlying22 cells24 h with ⟨h1, -⟩ | ⟨a, len, cap, m, k, V, D, Pl, h1, -, hl, hm, hmm, -, hx⟩
  · simp at h1
    exact ⟨none, 0, 0, fun _ => none, fun _ => 0, fun _ => [], h1, fun i hi => absurd hi (Nat.not_lt_zero _)⟩
  · simp at h1
    have hlm : len ≤ m := by rw [hmm]; split <;> omega
    have hex : ∀ i, ∃ q : Option Addr × Nat × List Int, i < len → (V i = .slice q.1 q.2.2.length q.2.1 ∧ Row w q.1 q.2.2 ∧ q.2.2.length ≤ 9223372036854775807) := fun i => by
      by_cases hi : i < len
      · obtain ⟨a', c', zs, h2, h3, h4⟩ := row_of (hx i (by omega)).2
        exact ⟨(a', c', zs), fun _ => ⟨h2, h3, h4⟩⟩
      · exact ⟨(none, 0, []), fun h => absurd h hi⟩
    obtain ⟨f, hf⟩ := Classical.skolem.1 hex
    refine ⟨some a, len, cap, fun i => (f i).1, fun i => (f i).2.1, fun i => (f i).2.2, h1, fun i hi => ?_⟩
    obtain ⟨h2, h3, h4⟩ := hf i hi
    have ea := addr_at (hx 0 (by omega)).1
    have hci := (hx i (by omega)).1
    rw [ea, add_at, h2] at hci
    exact ⟨a.block, a.off, by rw [← ea], hci, h3, h4⟩
end

/-! ### THE ROW's STEP -/
set_option maxRecDepth 100000 in
theorem lifted (os : Os) (started : os.Started) (H : Type) (enc : TypeId × Value → H) :
    ReturnsInHanded {} Try.checked os 5 .any (Rows.fnCycleIsCheapestPathSpec.pre6 enc Try.prog Try.f5 Rows.fnCycleIsCheapestPathRow.domain false) (Rows.fnCycleIsCheapestPathSpec.post enc Try.prog Try.f5 false true false false) := by
  refine returnsInHanded_of_change (C := Try.checked) own started (by kernel_rfl) Try.func5
    (ChangeSpec.witness6 (enc := enc) (C := Try.checked) false ⟨#[], #[.slice none 0 0, .slice none 0 0, .slice none 0 0, .slice none 0 0, .slice none 0 0, .int .i64 0, .int .i64 0, .int .i64 0, .int .i64 0], []⟩ 8 (by kernel_rfl) (by kernel_rfl) (by kernel_rfl) (by kernel_rfl)) ?_
  intro W base args ds gs before hval0 hW hcnd _
  have hval : ∀ (j : Nat) t v, Try.f5.params[j]? = some t → args[j]? = some v → Value.okWide Try.prog W .any base t v := hval0
  have hW' := hW
  obtain ⟨p, q, hA0, hV, rfl, hfz, hnd⟩ := hW
  have hA : DataW.TrodAll enc Try.prog W 0 (fun _ => true) true Try.f5.params.toList args.toList ds p := hA0
  rw [Try.params5] at hA hval
  obtain ⟨v0, vs0, d0, ds0, p0, q0, hargs, rfl, rfl, h0, r0⟩ := trodAll_cons hA
  obtain ⟨v1, vs1, d1, ds1, p1, q1, rfl, rfl, rfl, h1, r1⟩ := trodAll_cons r0
  obtain ⟨v2, vs2, d2, ds2, p2, q2, rfl, rfl, rfl, h2, r2⟩ := trodAll_cons r1
  obtain ⟨v3, vs3, d3, ds3, p3, q3, rfl, rfl, rfl, h3, r3⟩ := trodAll_cons r2
  obtain ⟨v4, vs4, d4, ds4, p4, q4, rfl, rfl, rfl, h4, r4⟩ := trodAll_cons r3
  obtain ⟨v5, vs5, d5, ds5, p5, q5, rfl, rfl, rfl, h5, r5⟩ := trodAll_cons r4
  obtain ⟨v6, vs6, d6, ds6, p6, q6, rfl, rfl, rfl, h6, r6⟩ := trodAll_cons r5
  obtain ⟨v7, vs7, d7, ds7, p7, q7, rfl, rfl, rfl, h7, r7⟩ := trodAll_cons r6
  obtain ⟨v8, vs8, d8, ds8, p8, q8, rfl, rfl, rfl, h8, r8⟩ := trodAll_cons r7
  obtain ⟨rfl, rfl, rfl⟩ := trodAll_nil r8
  obtain rfl : args = #[v0, v1, v2, v3, v4, v5, v6, v7, v8] := by cases args; simp_all
  obtain ⟨rfl, rfl⟩ := trodVars_none hV
  obtain ⟨a5, rfl, rfl, rfl, w5⟩ := open_int Try.underlying3 (hval 5 3 v5 rfl rfl) h5
  obtain ⟨a6, rfl, rfl, rfl, w6⟩ := open_int Try.underlying3 (hval 6 3 v6 rfl rfl) h6
  obtain ⟨a7, rfl, rfl, rfl, w7⟩ := open_int Try.underlying3 (hval 7 3 v7 rfl rfl) h7
  obtain ⟨a8, rfl, rfl, rfl, w8⟩ := open_int Try.underlying3 (hval 8 3 v8 rfl rfl) h8
  have lt : ∀ {t v d ps}, DataW.Trod enc Try.prog W 0 (fun _ => true) true t v d ps → ∀ x ∈ ps, x.block < W.heap.size := fun {t v d ps} k => by obtain ⟨m, hm⟩ := k; exact DataW.trod_lt m _ _ _ hm
  obtain ⟨b0, l0, c0, e0⟩ := okWide_slice Try.underlying22 (hval 0 22 v0 rfl rfl)
  obtain ⟨b1, l1, c1, e1⟩ := okWide_slice Try.underlying22 (hval 1 22 v1 rfl rfl)
  obtain ⟨b2, l2, c2, e2⟩ := okWide_slice Try.underlying24 (hval 2 24 v2 rfl rfl)
  obtain ⟨b3, l3, c3, e3⟩ := okWide_slice Try.underlying24 (hval 3 24 v3 rfl rfl)
  obtain ⟨b4, l4, c4, e4⟩ := okWide_slice Try.underlying24 (hval 4 24 v4 rfl rfl)
  subst e0 e1 e2 e3 e4
  have k0 := h0
  have k1 := h1
  have k2 := h2
  have k3 := h3
  have k4 := h4
  obtain ⟨m0, t0⟩ := h0
  obtain ⟨m1, t1⟩ := h1
  obtain ⟨m2, t2⟩ := h2
  obtain ⟨m3, t3⟩ := h3
  obtain ⟨m4, t4⟩ := h4
  obtain ⟨ta, tn, tc, tra, trc, TR, f0, hT⟩ := rows_of t0
  obtain ⟨la, ln, lc, lra, lrc, LR, f1, hL⟩ := rows_of t1
  obtain ⟨oa, oc, ord, f2, hO, -⟩ := row_of t2
  obtain ⟨va, vc, lev, f3, hV', -⟩ := row_of t3
  obtain ⟨ka, kc, mark, f4, hK, -⟩ := row_of t4
  have hw := law_any ta la oa va ka tn tc ln lc oc vc kc tra lra trc lrc TR LR ord lev mark a5 a6 a7 a8 W hT hL hO hV' hK (bounds_i64 w5)
  rw [← f0, ← f1, ← f2, ← f3, ← f4] at hw
  clear hA0 hval0
  refine hw.mono fun e W' ⟨r, he, hr, bel⟩ => ?_
  subst hr he
  exact ⟨_, rfl, _, _, _, [], _, [], hW', trodAll_mk1 (shut_bool Try.underlying4 _),
    (trodAll_cons_mk (Below.trod laidOut (by kernel_rfl) (of_decide_eq_true (by kernel_rfl)) k0 bel (lt k0)) (trodAll_cons_mk (Below.trod laidOut (by kernel_rfl) (of_decide_eq_true (by kernel_rfl)) k1 bel (lt k1)) (trodAll_cons_mk (Below.trod laidOut (by kernel_rfl) (of_decide_eq_true (by kernel_rfl)) k2 bel (lt k2)) (trodAll_cons_mk (Below.trod laidOut (by kernel_rfl) (of_decide_eq_true (by kernel_rfl)) k3 bel (lt k3)) (trodAll_cons_mk (Below.trod laidOut (by kernel_rfl) (of_decide_eq_true (by kernel_rfl)) k4 bel (lt k4))
      (trodAll_cons_mk (shut_int Try.underlying3 w5) (trodAll_cons_mk (shut_int Try.underlying3 w6) (trodAll_cons_mk (shut_int Try.underlying3 w7) (trodAll_cons_mk (shut_int Try.underlying3 w8) trodAll_mk0))))))))), rfl, bel.frame _, fun h => by cases h⟩

theorem over : Rows.fnCycleIsCheapestPathRow.holds Try.pinned (OpenSpec.ofChange Rows.fnCycleIsCheapestPathSpec) :=
  OpenClaim.holds_of_wide 5 Try.f5 rfl rfl rfl rfl rfl rfl rfl ⟨rfl, rfl, rfl, rfl, rfl⟩ rfl rfl rfl rfl rfl (by kernel_rfl) Try.func5 (by kernel_rfl)
    (of_decide_eq_true (by kernel_rfl)) (by unfold Func.isWrapper; first | (rw [if_pos (by decide +kernel)]; kernel_rfl) | (rw [if_neg (by decide +kernel)]; exact ⟨rfl, rfl⟩))
    (fun os started H enc _ => lifted os started H enc)

/-- ████ THE STATEMENT ████ -/
theorem proved : Rows.FnCycleIsCheapestPathSaid :=
  over
end Go.Proofs.Qxb6603374a.fnCycleIsCheapestPath
