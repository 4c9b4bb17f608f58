/-
  The proof of the statement on FnGroupOfRebuildsYuan: the walk by the contract of groupOf, the rest the guide's template at this function's number and types.
-/
import Derived.Test.Qxb6602993aRows
import Derived.Test.Qxb6602993aGroup
import Derived.WalkKit
import Derived.ProofKit
import Derived.OpenShut
import Derived.ShutString
namespace Go.Proofs.Qxb6602993a.fnGroupOfRebuildsYuan
open Go.ChangeShapes Go.WideShapes Go.ChangeAt Go.RowKit
open Go.ChangeMaps (open_string shut_string)
set_option linter.unusedVariables false      -- a walk need not use every 'w<i>' (that an integer argument fits its kind)

theorem own : ownKnob Try.prog.godebug = none := by kernel_rfl

/-! ### STEP 1: THE WALK: the Go text returns true. 'Grown w w'': the world has at most new blocks (Derived/RowKit3.lean). Part the cases AHEAD of 'go_enter' where a test parts the walk; take each callee by a contract of your own. -/
def sumTo (y : Int) (k : Nat) : Int := y.tmod (10000 ^ k)

theorem place_last (k : Nat) (h : 4 ≤ k) : place (k + 1) = place k := by
  unfold place; rw [Nat.min_eq_right (by omega), Nat.min_eq_right (by omega)]

set_option maxHeartbeats 1000000 in
theorem walk (a0 : Int) (w0 : (Lit.int .i64 a0).wf = true) (w : World) :
    Calls Try.prog 4 #[.int .i64 a0] w fun e w' => e = .returned (.bool true) ∧ Grown w w' := by
  obtain ⟨h1, h2⟩ := bounds_i64 w0
  have hs5 := sum_end a0 h1 h2
  have hg5 := gOf_five a0 h1 h2
  have HS5 : Hid (a0.tmod (10000 ^ 5) = a0) := hs5
  have HG5 : Hid (gOf a0 5 = 0) := hg5
  clear hs5 hg5
  go_enter Try.func4, Try.ntmps4
  go_wp2
  go_loop [3, 4, 5] (fun s p i => ∃ k : Nat, k ≤ 5 ∧ i = .int .i64 k ∧ s = .int .i64 (sumTo a0 k) ∧ p = .int .i64 (place k)) (fun _ _ i => 5 - (intOf i).toNat)
  case atStart => exact ⟨0, by omega, rfl, by simp [sumTo], rfl⟩
  case round =>
    obtain ⟨k, hk, rfl, rfl, rfl⟩ := hrel
    obtain ⟨hb1, hb2⟩ := gOf_bd a0 k
    obtain ⟨hp, hn⟩ := gOf_sign a0 k
    by_cases hlt : (k : Int) < 5
    · rcases Int.le_total a0 0 with hs | hs
      · have hn' := hn hs
        clear hp hn
        go_wp2_with (go_at_call 9; refine (zzGroupOf_any _ _ _ h1 h2 (by omega)).mono ?_; rintro e w' ⟨rfl, rfl⟩)
        all_goals
          go_round
          case rel => exact ⟨k + 1, by omega, by go_num, by unfold sumTo; rw [sum_step _ k (by omega) h1 h2], by first | rw [place_step k (by omega)] | rw [place_last k (by omega)]⟩
          case measure => simp [intOf]; omega
      · have hp' := hp hs
        clear hp hn
        go_wp2_with (go_at_call 9; refine (zzGroupOf_any _ _ _ h1 h2 (by omega)).mono ?_; rintro e w' ⟨rfl, rfl⟩)
        all_goals
          go_round
          case rel => exact ⟨k + 1, by omega, by go_num, by unfold sumTo; rw [sum_step _ k (by omega) h1 h2], by first | rw [place_step k (by omega)] | rw [place_last k (by omega)]⟩
          case measure => simp [intOf]; omega
    · have h5 : k = 5 := by omega
      subst h5
      have hne : (gOf a0 5 != 0) = false := by rw [HG5.out]; rfl
      have heq : (sumTo a0 5 == a0) = true := by unfold sumTo; rw [HS5.out]; simp
      go_wp2_with (go_at_call 9; refine (zzGroupOf_any _ _ _ h1 h2 (by omega)).mono ?_; rintro e w' ⟨rfl, rfl⟩)
      go_ret
      exact ⟨by first | rfl | rw [heq], Grown.refl _⟩

/-! ### THE ROW's STEP: WRITTEN OUT: LEAVE IT -/
set_option maxRecDepth 100000 in
theorem lifted (os : Os) (started : os.Started) (H : Type) (enc : TypeId × Value → H) :
    ReturnsInHanded {} Try.checked os 4 .any (Rows.fnGroupOfRebuildsYuanSpec.pre6 enc Try.prog Try.f4 Rows.fnGroupOfRebuildsYuanRow.domain false) (Rows.fnGroupOfRebuildsYuanSpec.post enc Try.prog Try.f4 false true false false) := by
  refine returnsInHanded_of_change (C := Try.checked) own started (by kernel_rfl) Try.func4
    (ChangeSpec.witness6 (enc := enc) (C := Try.checked) false ⟨#[], #[.int .i64 0], []⟩ 8 (by kernel_rfl) (by kernel_rfl) (by kernel_rfl) (by kernel_rfl)) ?_
  intro W base args ds gs before hval0 hW hcnd _
  have hval : ∀ (j : Nat) t v, Try.f4.params[j]? = some t → args[j]? = some v → Value.okWide Try.prog W .any base t v := hval0
  have hW' := hW
  obtain ⟨p, q, hA0, hV, rfl, hfz, hnd⟩ := hW
  have hA : DataW.TrodAll enc Try.prog W 0 (fun _ => true) true Try.f4.params.toList args.toList ds p := hA0
  rw [Try.params4] at hA hval
  obtain ⟨v0, vs0, d0, ds0, p0, q0, hargs, rfl, rfl, h0, r0⟩ := trodAll_cons hA
  obtain ⟨rfl, rfl, rfl⟩ := trodAll_nil r0
  obtain rfl : args = #[v0] := by cases args; simp_all
  obtain ⟨rfl, rfl⟩ := trodVars_none hV
  obtain ⟨a0, rfl, rfl, rfl, w0⟩ := open_int Try.underlying2 (hval 0 2 v0 rfl rfl) h0
  clear hA0 hval0
  simp only [List.append_nil] at hW'
  refine (walk a0 w0 W).mono fun e W' ⟨he, hg⟩ => ?_
  subst he
  exact ⟨_, rfl, post_of_same (pa := []) (pv := []) hW' (fun _ _ _ => (trodAll_cons_mk (shut_bool Try.underlying4 _) trodAll_mk0)) (fun sp _ => (trodAll_cons_mk (shut_int Try.underlying2 w0) trodAll_mk0)) (fun _ _ => rfl) rfl
    (hg.frame _) hg.2.1 (ok_one (by kernel_rfl) rfl (okWide_bool_mk Try.underlying4 _))⟩

theorem over : Rows.fnGroupOfRebuildsYuanRow.holds Try.pinned (OpenSpec.ofChange Rows.fnGroupOfRebuildsYuanSpec) :=
  OpenClaim.holds_of_wide 4 Try.f4 rfl rfl rfl rfl rfl rfl rfl ⟨rfl, rfl, rfl, rfl, rfl⟩ rfl rfl rfl rfl rfl (by kernel_rfl) Try.func4 (by kernel_rfl)
    (of_decide_eq_true (by kernel_rfl)) (by unfold Func.isWrapper; first | (rw [if_pos (by decide +kernel)]; kernel_rfl) | (rw [if_neg (by decide +kernel)]; exact ⟨rfl, rfl⟩))
    (fun os started H enc _ => lifted os started H enc)

/-- ████ THE STATEMENT ████ -/
theorem proved : Rows.FnGroupOfRebuildsYuanSaid :=
  over
end Go.Proofs.Qxb6602993a.fnGroupOfRebuildsYuan
