/-
  The proof of the statement on FnEncodeRoundedDecodesBackToItsCoefficients: the guide's template at this function's number and types; the walk lies in Qxb6603826aLaw.
-/
import Derived.Test.Qxb6603826aLaw
import Derived.WalkKit
import Derived.ProofKit
import Derived.OpenShut
import Derived.ShutString
import Derived.ChangeOld
import Derived.Below
namespace Go.Proofs.Qxb6603826a.fnEncodeRounded
open Go.ChangeShapes Go.WideShapes Go.ChangeAt Go.RowKit
open Go.ChangeMaps (open_string shut_string)

theorem own : ownKnob Try.prog.godebug = none := by kernel_rfl
theorem laidOut : laidOutB Try.prog = true := by kernel_rfl
theorem und37 : Try.prog.underlying 37 = some (.pointer 40) := by kernel_rfl
theorem und39 : Try.prog.underlying 39 = some (.int .i16) := by kernel_rfl
theorem cells40 : Try.prog.cellsOf 40 = 761 := by kernel_rfl
theorem cells39 : Try.prog.cellsOf 39 = 1 := by kernel_rfl

/-- The argument, opened: nil, or a pointer to 761 numbers. -/
theorem opened {H : Type} {enc : TypeId × Value → H} {W : World} {r : Reach} {b0 base : Nat} {spare : Nat → Bool} {held : Bool} {v : Value} {d : DataW H} {ps : List MemPlace}
    (hval : Value.okWide Try.prog W r b0 37 v) (hd : DataW.Trod enc Try.prog W base spare held 37 v d ps) :
    v = .pointer none ∨ ∃ b off C, v = .pointer (some ⟨b, off, none⟩) ∧ Coefs W b off C := by
  rcases open_ptr und37 (by rw [cells40]; omega) hval hd with ⟨h, -, -⟩ | ⟨b, off, cs, y, fuel, h, -, -, hl, hc, ht⟩
  · exact .inl h
  · right
    obtain ⟨xs, m, -, -, -, hn, hx⟩ := DataW.trod_array und40 ht
    rw [cells40] at hl hc
    rw [cells39] at hx
    refine ⟨b, off, fun i => numOf (xs.getD i (.nil, [])), h, fun i hi => ?_⟩
    have h1 := hx i hi
    have h2 : xs[i]? = some (xs.getD i (.nil, [])) := by
      rw [List.getD_eq_getElem?_getD, List.getElem?_eq_getElem (by omega)]; rfl
    rw [h2] at h1
    obtain ⟨z, hz, hy, hw⟩ := DataW.trod_int und39 h1
    have h3 : numOf (xs.getD i (.nil, [])) = z := by rw [hy]; rfl
    simp only [h3]
    rw [Nat.mul_one] at hz
    exact ⟨by rw [hc i hi]; exact cell_of_cut hz, bounds_i16 hw⟩

theorem walk {W : World} {v : Value} (h : v = .pointer none ∨ ∃ b off C, v = .pointer (some ⟨b, off, none⟩) ∧ Coefs W b off C) : Calls Try.prog 6 #[v] W fun e w' => TrueEnd W e w' := by
  rcases h with rfl | ⟨b, off, C, rfl, hC⟩
  · exact law_nil W
  · exact law_some b off C W hC

/-! ### THE ROW's STEP -/
set_option maxRecDepth 100000 in
theorem lifted (os : Os) (started : os.Started) (H : Type) (enc : TypeId × Value → H) :
    ReturnsInHanded {} Try.checked os 6 .any (Rows.fnEncodeRoundedDecodesBackToItsCoefficientsSpec.pre6 enc Try.prog Try.f6 Rows.fnEncodeRoundedDecodesBackToItsCoefficientsRow.domain false) (Rows.fnEncodeRoundedDecodesBackToItsCoefficientsSpec.post enc Try.prog Try.f6 false true false false) := by
  refine returnsInHanded_of_change (C := Try.checked) own started (by kernel_rfl) Try.func6
    (ChangeSpec.witness6 (enc := enc) (C := Try.checked) false ⟨#[], #[.pointer none], []⟩ 8 (by kernel_rfl) (by kernel_rfl) (by kernel_rfl) (by kernel_rfl)) ?_
  intro W base args ds gs before hval0 hW hcnd _
  have hval : ∀ (j : Nat) t v, Try.f6.params[j]? = some t → args[j]? = some v → Value.okWide Try.prog W .any base t v := hval0
  have hW' := hW
  obtain ⟨p, q, hA0, hV, rfl, hfz, hnd⟩ := hW
  have hA : DataW.TrodAll enc Try.prog W 0 (fun _ => true) true Try.f6.params.toList args.toList ds p := hA0
  rw [Try.params6] at hA hval
  obtain ⟨v0, vs0, d0, ds0, p0, q0, hargs, rfl, rfl, h0, r0⟩ := trodAll_cons hA
  obtain ⟨rfl, rfl, rfl⟩ := trodAll_nil r0
  obtain rfl : args = #[v0] := by cases args; simp_all
  obtain ⟨rfl, rfl⟩ := trodVars_none hV
  have k0 := h0
  have lt0 : ∀ x ∈ p0, x.block < W.heap.size := by obtain ⟨m, hm⟩ := k0; exact DataW.trod_lt m _ _ _ hm
  have ho := opened (hval 0 37 v0 rfl rfl) h0
  clear hA0 hval0
  refine (walk ho).mono fun e W' ⟨he, bel⟩ => ?_
  subst he
  exact ⟨_, rfl, _, _, _, [], _, [], hW', trodAll_mk1 (shut_bool Try.underlying4 _), (trodAll_cons_mk (Below.trod laidOut (by kernel_rfl) (of_decide_eq_true (by kernel_rfl)) k0 bel lt0) trodAll_mk0), rfl, bel.frame _, fun h => by cases h⟩

theorem over : Rows.fnEncodeRoundedDecodesBackToItsCoefficientsRow.holds Try.pinned (OpenSpec.ofChange Rows.fnEncodeRoundedDecodesBackToItsCoefficientsSpec) :=
  OpenClaim.holds_of_wide 6 Try.f6 rfl rfl rfl rfl rfl rfl rfl ⟨rfl, rfl, rfl, rfl, rfl⟩ rfl rfl rfl rfl rfl (by kernel_rfl) Try.func6 (by kernel_rfl)
    (of_decide_eq_true (by kernel_rfl)) (by unfold Func.isWrapper; first | (rw [if_pos (by decide +kernel)]; kernel_rfl) | (rw [if_neg (by decide +kernel)]; exact ⟨rfl, rfl⟩))
    (fun os started H enc _ => lifted os started H enc)

/-- ████ THE STATEMENT ████ -/
theorem proved : Rows.FnEncodeRoundedDecodesBackToItsCoefficientsSaid :=
  over
end Go.Proofs.Qxb6603826a.fnEncodeRounded
