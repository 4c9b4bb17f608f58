/- The contract of newViewSearch. -/
import Derived.Test.Qxb6603374aNvFin
namespace Go.Proofs.Qxb6603374a
open Go.ChangeShapes Go.WideShapes Go.ChangeAt Go.RowKit

attribute [-go_sem] Instr.build
set_option linter.unusedSimpArgs false in
set_option maxRecDepth 100000 in
set_option maxHeartbeats 20000000 in
theorem nvs_any (V : VIn) (sB vB opB rdB pn m ni nr : Nat) (xa ia : Option Addr) (xc ic : Nat) (ira : Nat → Option Addr) (irc : Nat → Nat) (IR : Nat → List Int) (txns : List Int) (op : Nat → Nat) (rop : Nat → Int) (w : World)
    (s0 : w.cell? ⟨sB, 0, none⟩ = some (.slice (some ⟨opB, 0, none⟩) pn pn)) (s1 : w.cell? ⟨sB, 1, none⟩ = some (.slice xa m xc))
    (v1 : w.cell? ⟨vB, 1, none⟩ = some (.slice ia ni ic)) (v3 : w.cell? ⟨vB, 3, none⟩ = some (.slice (some ⟨rdB, 0, none⟩) nr nr))
    (hN : NvIn V opB rdB pn m ni nr xa ia ira irc IR txns op rop w) (bm : m ≤ 1048576) (bn : ni ≤ 1048576) (bp : pn ≤ 1048576) (br : nr ≤ 1048576) :
    Calls Try.prog 34 #[.pointer (some ⟨sB, 0, none⟩), .pointer (some ⟨vB, 0, none⟩)] w fun e w' => NvPost V (stF op pn pn) nr xa xc w e w' := by
  have HN := hidden hN
  have HX := hidden hN.row
  have HXN := hidden hN.len
  have HA := hidden hN.asc
  clear hN
  have hmm := make_hint m
  have s1' := cellOld ((Below.refl w.heap.size w).alloc (Nat.le_refl _) (.map #[] 0)) s1
  go_enter Try.func34, Try.ntmps34
  go_wp2
  clear hmm s1'
  go_loopg [36] m (fun q i wr => ∃ k f, k + q = m ∧ i = .int .i64 ((k : Nat) : Int) ∧ Hid (MapFn wr 3 w.heap.size k f) ∧ Hid (Idx txns k f) ∧ Hid (Below w.heap.size w wr))
  case atStart => exact ⟨0, fun _ => none, by omega, rfl, MapFn.made w 3, fun i hi => absurd hi (Nat.not_lt_zero _), (Below.refl _ _).alloc (Nat.le_refl _) _⟩
  case round =>
    obtain ⟨k, f, hkq, rfl, HM, HI, HB⟩ := hrel
    by_cases hlt : (k : Int) < m
    · obtain ⟨b, o, hra, hc, hi64⟩ := HX.out.kept HB.out k (by rw [HXN.out]; omega)
      subst hra
      obtain ⟨X, hX⟩ : ∃ X, txns.getD k 0 = X := ⟨_, rfl⟩
      rw [hX] at hc hi64
      have HXX := hidden hX
      clear hX
      have hx1 := hi64.1
      have hx2 := hi64.2
      go_wp2_with (first | (at_mapUpdate; go_must (refine put_map _ rfl _ _ _ 60 rfl 3 keyed3 und60 w.heap.size k f rfl HM.out (by omega) (.int .i64 X) (.int .i64 X) (k : Int) rfl rfl (key3 (Go.WalkArith.wf_i64 ⟨by omega, by omega⟩)) (Go.WalkArith.wf_i64 ⟨by omega, by omega⟩) ?_; intro w' hm' hg')) | fail)
      go_roundg (gk - 1)
      case measure => omega
      case rel => exact ⟨k + 1, _, by omega, by go_num, hm', HI.out.next HA.out (by rw [HXN.out]; omega) HXX.out, HB.out.grown hg' HB.out.size (fun q hq => by cases hq; omega)⟩
    · have e : k = m := by omega
      subst e
      go_upto_region 7 with fail
      go_cut [4] (fun v wx => ∃ gB start reads seenBy writes writers final placed pending armed, v = .pointer (some ⟨gB, 0, none⟩) ∧ Hid (Vs0 wr.drew k ni xa xc gB start reads seenBy writes writers final placed pending armed wx))
      case first => as_aux_lemma =>
        have s1r := cellOld HB.out s1
        have v1r := cellOld HB.out v1
        refine wp_region_held_drew (S := fun w' => w'.cell? ⟨sB, 1, none⟩ = some (.slice xa k xc) ∧ w'.cell? ⟨vB, 1, none⟩ = some (.slice ia ni ic)) (by kernel_rfl) ?_ (fun hHeld => ?_)
        · exact ⟨s1r, v1r⟩
        · clear s1r v1r
          refine wpAnyH_take (i := 0) (v := (.pointer (some ⟨sB, 0, none⟩))) rfl (by kernel_rfl) (by kernel_rfl) (by kernel_rfl) (fun _ _ _ h => h) (Or.inl ⟨by rfl, fun w hSw => ?_⟩) hHeld ?_
          · obtain ⟨q1, q2⟩ := hSw
            go_simp
          simp only [Act.put, List.getElem_toArray, List.getElem_cons_zero, List.getElem_cons_succ, List.setIfInBounds_toArray, List.set_cons_zero, List.set_cons_succ]
          refine wpAnyH_take (i := 1) (v := (.pointer (some ⟨sB, 0, none⟩))) rfl (by kernel_rfl) (by kernel_rfl) (by kernel_rfl) (fun _ _ _ h => h) (Or.inl ⟨by rfl, fun w hSw => ?_⟩) hHeld ?_
          · obtain ⟨q1, q2⟩ := hSw
            go_simp
          simp only [Act.put, List.getElem_toArray, List.getElem_cons_zero, List.getElem_cons_succ, List.setIfInBounds_toArray, List.set_cons_zero, List.set_cons_succ]
          refine wpAnyH_take (i := 2) (v := (.pointer (some ⟨sB, 1, none⟩))) rfl (by kernel_rfl) (by kernel_rfl) (by kernel_rfl) (fun _ _ _ h => h) (Or.inl ⟨by rfl, fun w hSw => ?_⟩) hHeld ?_
          · obtain ⟨q1, q2⟩ := hSw
            go_simp
          simp only [Act.put, List.getElem_toArray, List.getElem_cons_zero, List.getElem_cons_succ, List.setIfInBounds_toArray, List.set_cons_zero, List.set_cons_succ]
          refine wpAnyH_take (i := 3) (v := (.slice xa k xc)) rfl (by kernel_rfl) (by kernel_rfl) (by kernel_rfl) (fun _ _ _ h => h) (Or.inl ⟨by rfl, fun w hSw => ?_⟩) hHeld ?_
          · obtain ⟨q1, q2⟩ := hSw
            go_simp
          simp only [Act.put, List.getElem_toArray, List.getElem_cons_zero, List.getElem_cons_succ, List.setIfInBounds_toArray, List.set_cons_zero, List.set_cons_succ]
          refine wpAnyH_take (i := 4) (v := (.pointer (some ⟨sB, 0, none⟩))) rfl (by kernel_rfl) (by kernel_rfl) (by kernel_rfl) (fun _ _ _ h => h) (Or.inl ⟨by rfl, fun w hSw => ?_⟩) hHeld ?_
          · obtain ⟨q1, q2⟩ := hSw
            go_simp
          simp only [Act.put, List.getElem_toArray, List.getElem_cons_zero, List.getElem_cons_succ, List.setIfInBounds_toArray, List.set_cons_zero, List.set_cons_succ]
          refine wpAnyH_take (i := 5) (v := (.pointer (some ⟨sB, 0, none⟩))) rfl (by kernel_rfl) (by kernel_rfl) (by kernel_rfl) (fun _ _ _ h => h) (Or.inl ⟨by rfl, fun w hSw => ?_⟩) hHeld ?_
          · obtain ⟨q1, q2⟩ := hSw
            go_simp
          simp only [Act.put, List.getElem_toArray, List.getElem_cons_zero, List.getElem_cons_succ, List.setIfInBounds_toArray, List.set_cons_zero, List.set_cons_succ]
          refine wpAnyH_take (i := 6) (v := (.pointer (some ⟨sB, 1, none⟩))) rfl (by kernel_rfl) (by kernel_rfl) (by kernel_rfl) (fun _ _ _ h => h) (Or.inl ⟨by rfl, fun w hSw => ?_⟩) hHeld ?_
          · obtain ⟨q1, q2⟩ := hSw
            go_simp
          simp only [Act.put, List.getElem_toArray, List.getElem_cons_zero, List.getElem_cons_succ, List.setIfInBounds_toArray, List.set_cons_zero, List.set_cons_succ]
          refine wpAnyH_take (i := 7) (v := (.slice xa k xc)) rfl (by kernel_rfl) (by kernel_rfl) (by kernel_rfl) (fun _ _ _ h => h) (Or.inl ⟨by rfl, fun w hSw => ?_⟩) hHeld ?_
          · obtain ⟨q1, q2⟩ := hSw
            go_simp
          simp only [Act.put, List.getElem_toArray, List.getElem_cons_zero, List.getElem_cons_succ, List.setIfInBounds_toArray, List.set_cons_zero, List.set_cons_succ]
          refine wpAnyH_take (i := 8) (v := (.int .i64 (k : Int))) rfl (by kernel_rfl) (by kernel_rfl) (by kernel_rfl) (fun _ _ _ h => h) (Or.inl ⟨by rfl, fun w hSw => ?_⟩) hHeld ?_
          · obtain ⟨q1, q2⟩ := hSw
            go_simp
          simp only [Act.put, List.getElem_toArray, List.getElem_cons_zero, List.getElem_cons_succ, List.setIfInBounds_toArray, List.set_cons_zero, List.set_cons_succ]
          refine wpAnyH_take (i := 10) (v := (.pointer (some ⟨sB, 0, none⟩))) rfl (by kernel_rfl) (by kernel_rfl) (by kernel_rfl) (fun _ _ _ h => h) (Or.inl ⟨by rfl, fun w hSw => ?_⟩) hHeld ?_
          · obtain ⟨q1, q2⟩ := hSw
            go_simp
          simp only [Act.put, List.getElem_toArray, List.getElem_cons_zero, List.getElem_cons_succ, List.setIfInBounds_toArray, List.set_cons_zero, List.set_cons_succ]
          refine wpAnyH_take (i := 11) (v := (.pointer (some ⟨sB, 0, none⟩))) rfl (by kernel_rfl) (by kernel_rfl) (by kernel_rfl) (fun _ _ _ h => h) (Or.inl ⟨by rfl, fun w hSw => ?_⟩) hHeld ?_
          · obtain ⟨q1, q2⟩ := hSw
            go_simp
          simp only [Act.put, List.getElem_toArray, List.getElem_cons_zero, List.getElem_cons_succ, List.setIfInBounds_toArray, List.set_cons_zero, List.set_cons_succ]
          refine wpAnyH_take (i := 12) (v := (.pointer (some ⟨sB, 1, none⟩))) rfl (by kernel_rfl) (by kernel_rfl) (by kernel_rfl) (fun _ _ _ h => h) (Or.inl ⟨by rfl, fun w hSw => ?_⟩) hHeld ?_
          · obtain ⟨q1, q2⟩ := hSw
            go_simp
          simp only [Act.put, List.getElem_toArray, List.getElem_cons_zero, List.getElem_cons_succ, List.setIfInBounds_toArray, List.set_cons_zero, List.set_cons_succ]
          refine wpAnyH_take (i := 13) (v := (.slice xa k xc)) rfl (by kernel_rfl) (by kernel_rfl) (by kernel_rfl) (fun _ _ _ h => h) (Or.inl ⟨by rfl, fun w hSw => ?_⟩) hHeld ?_
          · obtain ⟨q1, q2⟩ := hSw
            go_simp
          simp only [Act.put, List.getElem_toArray, List.getElem_cons_zero, List.getElem_cons_succ, List.setIfInBounds_toArray, List.set_cons_zero, List.set_cons_succ]
          refine wpAnyH_take (i := 14) (v := (.int .i64 (k : Int))) rfl (by kernel_rfl) (by kernel_rfl) (by kernel_rfl) (fun _ _ _ h => h) (Or.inl ⟨by rfl, fun w hSw => ?_⟩) hHeld ?_
          · obtain ⟨q1, q2⟩ := hSw
            go_simp
          simp only [Act.put, List.getElem_toArray, List.getElem_cons_zero, List.getElem_cons_succ, List.setIfInBounds_toArray, List.set_cons_zero, List.set_cons_succ]
          refine wpAnyH_take (i := 16) (v := (.pointer (some ⟨sB, 0, none⟩))) rfl (by kernel_rfl) (by kernel_rfl) (by kernel_rfl) (fun _ _ _ h => h) (Or.inl ⟨by rfl, fun w hSw => ?_⟩) hHeld ?_
          · obtain ⟨q1, q2⟩ := hSw
            go_simp
          simp only [Act.put, List.getElem_toArray, List.getElem_cons_zero, List.getElem_cons_succ, List.setIfInBounds_toArray, List.set_cons_zero, List.set_cons_succ]
          refine wpAnyH_take (i := 17) (v := (.pointer (some ⟨sB, 0, none⟩))) rfl (by kernel_rfl) (by kernel_rfl) (by kernel_rfl) (fun _ _ _ h => h) (Or.inl ⟨by rfl, fun w hSw => ?_⟩) hHeld ?_
          · obtain ⟨q1, q2⟩ := hSw
            go_simp
          simp only [Act.put, List.getElem_toArray, List.getElem_cons_zero, List.getElem_cons_succ, List.setIfInBounds_toArray, List.set_cons_zero, List.set_cons_succ]
          refine wpAnyH_take (i := 18) (v := (.pointer (some ⟨sB, 1, none⟩))) rfl (by kernel_rfl) (by kernel_rfl) (by kernel_rfl) (fun _ _ _ h => h) (Or.inl ⟨by rfl, fun w hSw => ?_⟩) hHeld ?_
          · obtain ⟨q1, q2⟩ := hSw
            go_simp
          simp only [Act.put, List.getElem_toArray, List.getElem_cons_zero, List.getElem_cons_succ, List.setIfInBounds_toArray, List.set_cons_zero, List.set_cons_succ]
          refine wpAnyH_take (i := 19) (v := (.slice xa k xc)) rfl (by kernel_rfl) (by kernel_rfl) (by kernel_rfl) (fun _ _ _ h => h) (Or.inl ⟨by rfl, fun w hSw => ?_⟩) hHeld ?_
          · obtain ⟨q1, q2⟩ := hSw
            go_simp
          simp only [Act.put, List.getElem_toArray, List.getElem_cons_zero, List.getElem_cons_succ, List.setIfInBounds_toArray, List.set_cons_zero, List.set_cons_succ]
          refine wpAnyH_take (i := 20) (v := (.int .i64 (k : Int))) rfl (by kernel_rfl) (by kernel_rfl) (by kernel_rfl) (fun _ _ _ h => h) (Or.inl ⟨by rfl, fun w hSw => ?_⟩) hHeld ?_
          · obtain ⟨q1, q2⟩ := hSw
            go_simp
          simp only [Act.put, List.getElem_toArray, List.getElem_cons_zero, List.getElem_cons_succ, List.setIfInBounds_toArray, List.set_cons_zero, List.set_cons_succ]
          refine wpAnyH_take (i := 22) (v := (.pointer (some ⟨vB, 0, none⟩))) rfl (by kernel_rfl) (by kernel_rfl) (by kernel_rfl) (fun _ _ _ h => h) (Or.inl ⟨by rfl, fun w hSw => ?_⟩) hHeld ?_
          · obtain ⟨q1, q2⟩ := hSw
            go_simp
          simp only [Act.put, List.getElem_toArray, List.getElem_cons_zero, List.getElem_cons_succ, List.setIfInBounds_toArray, List.set_cons_zero, List.set_cons_succ]
          refine wpAnyH_take (i := 23) (v := (.pointer (some ⟨vB, 0, none⟩))) rfl (by kernel_rfl) (by kernel_rfl) (by kernel_rfl) (fun _ _ _ h => h) (Or.inl ⟨by rfl, fun w hSw => ?_⟩) hHeld ?_
          · obtain ⟨q1, q2⟩ := hSw
            go_simp
          simp only [Act.put, List.getElem_toArray, List.getElem_cons_zero, List.getElem_cons_succ, List.setIfInBounds_toArray, List.set_cons_zero, List.set_cons_succ]
          refine wpAnyH_take (i := 24) (v := (.pointer (some ⟨vB, 1, none⟩))) rfl (by kernel_rfl) (by kernel_rfl) (by kernel_rfl) (fun _ _ _ h => h) (Or.inl ⟨by rfl, fun w hSw => ?_⟩) hHeld ?_
          · obtain ⟨q1, q2⟩ := hSw
            go_simp
          simp only [Act.put, List.getElem_toArray, List.getElem_cons_zero, List.getElem_cons_succ, List.setIfInBounds_toArray, List.set_cons_zero, List.set_cons_succ]
          refine wpAnyH_take (i := 25) (v := (.slice ia ni ic)) rfl (by kernel_rfl) (by kernel_rfl) (by kernel_rfl) (fun _ _ _ h => h) (Or.inl ⟨by rfl, fun w hSw => ?_⟩) hHeld ?_
          · obtain ⟨q1, q2⟩ := hSw
            go_simp
          simp only [Act.put, List.getElem_toArray, List.getElem_cons_zero, List.getElem_cons_succ, List.setIfInBounds_toArray, List.set_cons_zero, List.set_cons_succ]
          refine wpAnyH_take (i := 26) (v := (.int .i64 (ni : Int))) rfl (by kernel_rfl) (by kernel_rfl) (by kernel_rfl) (fun _ _ _ h => h) (Or.inl ⟨by rfl, fun w hSw => ?_⟩) hHeld ?_
          · obtain ⟨q1, q2⟩ := hSw
            go_simp
          simp only [Act.put, List.getElem_toArray, List.getElem_cons_zero, List.getElem_cons_succ, List.setIfInBounds_toArray, List.set_cons_zero, List.set_cons_succ]
          refine wpAnyH_take (i := 28) (v := (.pointer (some ⟨vB, 0, none⟩))) rfl (by kernel_rfl) (by kernel_rfl) (by kernel_rfl) (fun _ _ _ h => h) (Or.inl ⟨by rfl, fun w hSw => ?_⟩) hHeld ?_
          · obtain ⟨q1, q2⟩ := hSw
            go_simp
          simp only [Act.put, List.getElem_toArray, List.getElem_cons_zero, List.getElem_cons_succ, List.setIfInBounds_toArray, List.set_cons_zero, List.set_cons_succ]
          refine wpAnyH_take (i := 29) (v := (.pointer (some ⟨vB, 0, none⟩))) rfl (by kernel_rfl) (by kernel_rfl) (by kernel_rfl) (fun _ _ _ h => h) (Or.inl ⟨by rfl, fun w hSw => ?_⟩) hHeld ?_
          · obtain ⟨q1, q2⟩ := hSw
            go_simp
          simp only [Act.put, List.getElem_toArray, List.getElem_cons_zero, List.getElem_cons_succ, List.setIfInBounds_toArray, List.set_cons_zero, List.set_cons_succ]
          refine wpAnyH_take (i := 30) (v := (.pointer (some ⟨vB, 1, none⟩))) rfl (by kernel_rfl) (by kernel_rfl) (by kernel_rfl) (fun _ _ _ h => h) (Or.inl ⟨by rfl, fun w hSw => ?_⟩) hHeld ?_
          · obtain ⟨q1, q2⟩ := hSw
            go_simp
          simp only [Act.put, List.getElem_toArray, List.getElem_cons_zero, List.getElem_cons_succ, List.setIfInBounds_toArray, List.set_cons_zero, List.set_cons_succ]
          refine wpAnyH_take (i := 31) (v := (.slice ia ni ic)) rfl (by kernel_rfl) (by kernel_rfl) (by kernel_rfl) (fun _ _ _ h => h) (Or.inl ⟨by rfl, fun w hSw => ?_⟩) hHeld ?_
          · obtain ⟨q1, q2⟩ := hSw
            go_simp
          simp only [Act.put, List.getElem_toArray, List.getElem_cons_zero, List.getElem_cons_succ, List.setIfInBounds_toArray, List.set_cons_zero, List.set_cons_succ]
          refine wpAnyH_take (i := 32) (v := (.int .i64 (ni : Int))) rfl (by kernel_rfl) (by kernel_rfl) (by kernel_rfl) (fun _ _ _ h => h) (Or.inl ⟨by rfl, fun w hSw => ?_⟩) hHeld ?_
          · obtain ⟨q1, q2⟩ := hSw
            go_simp
          simp only [Act.put, List.getElem_toArray, List.getElem_cons_zero, List.getElem_cons_succ, List.setIfInBounds_toArray, List.set_cons_zero, List.set_cons_succ]
          refine wpAnyH_take (i := 34) (v := (.pointer (some ⟨sB, 0, none⟩))) rfl (by kernel_rfl) (by kernel_rfl) (by kernel_rfl) (fun _ _ _ h => h) (Or.inl ⟨by rfl, fun w hSw => ?_⟩) hHeld ?_
          · obtain ⟨q1, q2⟩ := hSw
            go_simp
          simp only [Act.put, List.getElem_toArray, List.getElem_cons_zero, List.getElem_cons_succ, List.setIfInBounds_toArray, List.set_cons_zero, List.set_cons_succ]
          refine wpAnyH_take (i := 35) (v := (.pointer (some ⟨sB, 0, none⟩))) rfl (by kernel_rfl) (by kernel_rfl) (by kernel_rfl) (fun _ _ _ h => h) (Or.inl ⟨by rfl, fun w hSw => ?_⟩) hHeld ?_
          · obtain ⟨q1, q2⟩ := hSw
            go_simp
          simp only [Act.put, List.getElem_toArray, List.getElem_cons_zero, List.getElem_cons_succ, List.setIfInBounds_toArray, List.set_cons_zero, List.set_cons_succ]
          refine wpAnyH_take (i := 36) (v := (.pointer (some ⟨sB, 1, none⟩))) rfl (by kernel_rfl) (by kernel_rfl) (by kernel_rfl) (fun _ _ _ h => h) (Or.inl ⟨by rfl, fun w hSw => ?_⟩) hHeld ?_
          · obtain ⟨q1, q2⟩ := hSw
            go_simp
          simp only [Act.put, List.getElem_toArray, List.getElem_cons_zero, List.getElem_cons_succ, List.setIfInBounds_toArray, List.set_cons_zero, List.set_cons_succ]
          refine wpAnyH_take (i := 37) (v := (.slice xa k xc)) rfl (by kernel_rfl) (by kernel_rfl) (by kernel_rfl) (fun _ _ _ h => h) (Or.inl ⟨by rfl, fun w hSw => ?_⟩) hHeld ?_
          · obtain ⟨q1, q2⟩ := hSw
            go_simp
          simp only [Act.put, List.getElem_toArray, List.getElem_cons_zero, List.getElem_cons_succ, List.setIfInBounds_toArray, List.set_cons_zero, List.set_cons_succ]
          refine wpAnyH_take (i := 38) (v := (.int .i64 (k : Int))) rfl (by kernel_rfl) (by kernel_rfl) (by kernel_rfl) (fun _ _ _ h => h) (Or.inl ⟨by rfl, fun w hSw => ?_⟩) hHeld ?_
          · obtain ⟨q1, q2⟩ := hSw
            go_simp
          simp only [Act.put, List.getElem_toArray, List.getElem_cons_zero, List.getElem_cons_succ, List.setIfInBounds_toArray, List.set_cons_zero, List.set_cons_succ]
          refine wpAnyH_take (i := 40) (v := (.pointer (some ⟨sB, 0, none⟩))) rfl (by kernel_rfl) (by kernel_rfl) (by kernel_rfl) (fun _ _ _ h => h) (Or.inl ⟨by rfl, fun w hSw => ?_⟩) hHeld ?_
          · obtain ⟨q1, q2⟩ := hSw
            go_simp
          simp only [Act.put, List.getElem_toArray, List.getElem_cons_zero, List.getElem_cons_succ, List.setIfInBounds_toArray, List.set_cons_zero, List.set_cons_succ]
          refine wpAnyH_take (i := 41) (v := (.pointer (some ⟨sB, 0, none⟩))) rfl (by kernel_rfl) (by kernel_rfl) (by kernel_rfl) (fun _ _ _ h => h) (Or.inl ⟨by rfl, fun w hSw => ?_⟩) hHeld ?_
          · obtain ⟨q1, q2⟩ := hSw
            go_simp
          simp only [Act.put, List.getElem_toArray, List.getElem_cons_zero, List.getElem_cons_succ, List.setIfInBounds_toArray, List.set_cons_zero, List.set_cons_succ]
          refine wpAnyH_take (i := 42) (v := (.pointer (some ⟨sB, 1, none⟩))) rfl (by kernel_rfl) (by kernel_rfl) (by kernel_rfl) (fun _ _ _ h => h) (Or.inl ⟨by rfl, fun w hSw => ?_⟩) hHeld ?_
          · obtain ⟨q1, q2⟩ := hSw
            go_simp
          simp only [Act.put, List.getElem_toArray, List.getElem_cons_zero, List.getElem_cons_succ, List.setIfInBounds_toArray, List.set_cons_zero, List.set_cons_succ]
          refine wpAnyH_take (i := 43) (v := (.slice xa k xc)) rfl (by kernel_rfl) (by kernel_rfl) (by kernel_rfl) (fun _ _ _ h => h) (Or.inl ⟨by rfl, fun w hSw => ?_⟩) hHeld ?_
          · obtain ⟨q1, q2⟩ := hSw
            go_simp
          simp only [Act.put, List.getElem_toArray, List.getElem_cons_zero, List.getElem_cons_succ, List.setIfInBounds_toArray, List.set_cons_zero, List.set_cons_succ]
          refine wpAnyH_take (i := 44) (v := (.int .i64 (k : Int))) rfl (by kernel_rfl) (by kernel_rfl) (by kernel_rfl) (fun _ _ _ h => h) (Or.inl ⟨by rfl, fun w hSw => ?_⟩) hHeld ?_
          · obtain ⟨q1, q2⟩ := hSw
            go_simp
          simp only [Act.put, List.getElem_toArray, List.getElem_cons_zero, List.getElem_cons_succ, List.setIfInBounds_toArray, List.set_cons_zero, List.set_cons_succ]
          refine wpAnyH_take (i := 46) (v := (.pointer (some ⟨sB, 0, none⟩))) rfl (by kernel_rfl) (by kernel_rfl) (by kernel_rfl) (fun _ _ _ h => h) (Or.inl ⟨by rfl, fun w hSw => ?_⟩) hHeld ?_
          · obtain ⟨q1, q2⟩ := hSw
            go_simp
          simp only [Act.put, List.getElem_toArray, List.getElem_cons_zero, List.getElem_cons_succ, List.setIfInBounds_toArray, List.set_cons_zero, List.set_cons_succ]
          refine wpAnyH_take (i := 47) (v := (.pointer (some ⟨sB, 0, none⟩))) rfl (by kernel_rfl) (by kernel_rfl) (by kernel_rfl) (fun _ _ _ h => h) (Or.inl ⟨by rfl, fun w hSw => ?_⟩) hHeld ?_
          · obtain ⟨q1, q2⟩ := hSw
            go_simp
          simp only [Act.put, List.getElem_toArray, List.getElem_cons_zero, List.getElem_cons_succ, List.setIfInBounds_toArray, List.set_cons_zero, List.set_cons_succ]
          refine wpAnyH_take (i := 48) (v := (.pointer (some ⟨sB, 1, none⟩))) rfl (by kernel_rfl) (by kernel_rfl) (by kernel_rfl) (fun _ _ _ h => h) (Or.inl ⟨by rfl, fun w hSw => ?_⟩) hHeld ?_
          · obtain ⟨q1, q2⟩ := hSw
            go_simp
          simp only [Act.put, List.getElem_toArray, List.getElem_cons_zero, List.getElem_cons_succ, List.setIfInBounds_toArray, List.set_cons_zero, List.set_cons_succ]
          refine wpAnyH_take (i := 49) (v := (.slice xa k xc)) rfl (by kernel_rfl) (by kernel_rfl) (by kernel_rfl) (fun _ _ _ h => h) (Or.inl ⟨by rfl, fun w hSw => ?_⟩) hHeld ?_
          · obtain ⟨q1, q2⟩ := hSw
            go_simp
          simp only [Act.put, List.getElem_toArray, List.getElem_cons_zero, List.getElem_cons_succ, List.setIfInBounds_toArray, List.set_cons_zero, List.set_cons_succ]
          refine wpAnyH_take (i := 50) (v := (.int .i64 (k : Int))) rfl (by kernel_rfl) (by kernel_rfl) (by kernel_rfl) (fun _ _ _ h => h) (Or.inl ⟨by rfl, fun w hSw => ?_⟩) hHeld ?_
          · obtain ⟨q1, q2⟩ := hSw
            go_simp
          simp only [Act.put, List.getElem_toArray, List.getElem_cons_zero, List.getElem_cons_succ, List.setIfInBounds_toArray, List.set_cons_zero, List.set_cons_succ]
          refine wpAnyH_take (i := 52) (v := (.pointer (some ⟨vB, 0, none⟩))) rfl (by kernel_rfl) (by kernel_rfl) (by kernel_rfl) (fun _ _ _ h => h) (Or.inl ⟨by rfl, fun w hSw => ?_⟩) hHeld ?_
          · obtain ⟨q1, q2⟩ := hSw
            go_simp
          simp only [Act.put, List.getElem_toArray, List.getElem_cons_zero, List.getElem_cons_succ, List.setIfInBounds_toArray, List.set_cons_zero, List.set_cons_succ]
          refine wpAnyH_take (i := 53) (v := (.pointer (some ⟨vB, 0, none⟩))) rfl (by kernel_rfl) (by kernel_rfl) (by kernel_rfl) (fun _ _ _ h => h) (Or.inl ⟨by rfl, fun w hSw => ?_⟩) hHeld ?_
          · obtain ⟨q1, q2⟩ := hSw
            go_simp
          simp only [Act.put, List.getElem_toArray, List.getElem_cons_zero, List.getElem_cons_succ, List.setIfInBounds_toArray, List.set_cons_zero, List.set_cons_succ]
          refine wpAnyH_take (i := 54) (v := (.pointer (some ⟨vB, 1, none⟩))) rfl (by kernel_rfl) (by kernel_rfl) (by kernel_rfl) (fun _ _ _ h => h) (Or.inl ⟨by rfl, fun w hSw => ?_⟩) hHeld ?_
          · obtain ⟨q1, q2⟩ := hSw
            go_simp
          simp only [Act.put, List.getElem_toArray, List.getElem_cons_zero, List.getElem_cons_succ, List.setIfInBounds_toArray, List.set_cons_zero, List.set_cons_succ]
          refine wpAnyH_take (i := 55) (v := (.slice ia ni ic)) rfl (by kernel_rfl) (by kernel_rfl) (by kernel_rfl) (fun _ _ _ h => h) (Or.inl ⟨by rfl, fun w hSw => ?_⟩) hHeld ?_
          · obtain ⟨q1, q2⟩ := hSw
            go_simp
          simp only [Act.put, List.getElem_toArray, List.getElem_cons_zero, List.getElem_cons_succ, List.setIfInBounds_toArray, List.set_cons_zero, List.set_cons_succ]
          refine wpAnyH_take (i := 56) (v := (.int .i64 (ni : Int))) rfl (by kernel_rfl) (by kernel_rfl) (by kernel_rfl) (fun _ _ _ h => h) (Or.inl ⟨by rfl, fun w hSw => ?_⟩) hHeld ?_
          · obtain ⟨q1, q2⟩ := hSw
            go_simp
          simp only [Act.put, List.getElem_toArray, List.getElem_cons_zero, List.getElem_cons_succ, List.setIfInBounds_toArray, List.set_cons_zero, List.set_cons_succ]
          have hmr := run_make_row' (P := Try.prog) 90 104 (.slice none 0 0) 24 Try.underlying90 Try.info104 rfl .i64 .i64 k (by omega) (by omega)
          have hmw := run_make_row' (P := Try.prog) 22 24 (.slice none 0 0) 24 Try.underlying22 Try.info24 rfl .i64 .i64 k (by omega) (by omega)
          have hmv := run_make_row' (P := Try.prog) 22 24 (.slice none 0 0) 24 Try.underlying22 Try.info24 rfl .i64 .i64 ni (by omega) (by omega)
          have hmi := run_make_row' (P := Try.prog) 24 3 (.int .i64 0) 8 Try.underlying24 Try.info3 rfl .i64 .i64 k (by omega) (by omega)
          have hmj := run_make_row' (P := Try.prog) 24 3 (.int .i64 0) 8 Try.underlying24 Try.info3 rfl .i64 .i64 ni (by omega) (by omega)
          have hmb := run_make_row' (P := Try.prog) 28 4 (.bool false) 1 Try.underlying28 Try.info4 rfl .i64 .i64 k (by omega) (by omega)
          refine wpAnyH_makes _ (fun w' m hw => ⟨cellOld ((Below.refl _ _).alloc (Nat.le_refl _) _) hw.1, cellOld ((Below.refl _ _).alloc (Nat.le_refl _) _) hw.2⟩)
            (nine k ni)
            [58, 59, 60] _ _ wr.drew 3 (by simp [nine]) (by simp [nine]) ?hL0 ?hLall ?hLr ?hwait ?hop ?hdone 9 (fun _ => none) wr.drew rfl (MkInv.start _ _) hHeld
          case hL0 =>
            intro m hm
            simp only [nine, List.mem_cons, List.not_mem_nil, or_false] at hm
            rcases hm with rfl | rfl | rfl | rfl | rfl | rfl | rfl | rfl | rfl <;> kernel_rfl
          case hLall => exact lall_of 61 (by kernel_rfl) (by kernel_rfl)
          case hLr =>
            intro j hj
            simp only [List.mem_cons, List.not_mem_nil, or_false] at hj
            rcases hj with rfl | rfl | rfl <;> exact ⟨by kernel_rfl, by simp [nine]⟩
          case hwait =>
            intro j hj o ho
            simp only [List.mem_cons, List.not_mem_nil, or_false] at hj
            rcases hj with rfl | rfl | rfl
            · right
              have h1 := wait_all (md := .any) (idx := [9, 15, 21, 27, 33, 39, 45, 51, 57]) (by kernel_rfl) ho
              intro m hm
              refine h1 m.i ?_
              simp only [nine, List.mem_cons, List.not_mem_nil, or_false] at hm
              rcases hm with rfl | rfl | rfl | rfl | rfl | rfl | rfl | rfl | rfl <;> simp
            · left
              exact wait_one (rest := [58, 59, 60]) (by kernel_rfl) ho
            · left
              exact wait_one (rest := [58, 59, 60]) (by kernel_rfl) ho
          case hop =>
            intro m hm
            simp only [nine, List.mem_cons, List.not_mem_nil, or_false] at hm
            rcases hm with rfl | rfl | rfl | rfl | rfl | rfl | rfl | rfl | rfl
            · exact ⟨_, rfl, rfl, rfl, edges_of (by kernel_rfl), make_op rfl (by simp [nine]) rfl hmr⟩
            · exact ⟨_, rfl, rfl, rfl, edges_of (by kernel_rfl), make_op rfl (by simp [nine]) rfl hmr⟩
            · exact ⟨_, rfl, rfl, rfl, edges_of (by kernel_rfl), make_op rfl (by simp [nine]) rfl hmw⟩
            · exact ⟨_, rfl, rfl, rfl, edges_of (by kernel_rfl), make_op rfl (by simp [nine]) rfl hmv⟩
            · exact ⟨_, rfl, rfl, rfl, edges_of (by kernel_rfl), make_op rfl (by simp [nine]) rfl hmj⟩
            · exact ⟨_, rfl, rfl, rfl, edges_of (by kernel_rfl), make_op rfl (by simp [nine]) rfl hmi⟩
            · exact ⟨_, rfl, rfl, rfl, edges_of (by kernel_rfl), make_op rfl (by simp [nine]) rfl hmb⟩
            · exact ⟨_, rfl, rfl, rfl, edges_of (by kernel_rfl), make_op rfl (by simp [nine]) rfl hmi⟩
            · exact ⟨_, rfl, rfl, rfl, edges_of (by kernel_rfl), make_op rfl (by simp [nine]) rfl hmj⟩
          case hdone =>
            clear hmr hmw hmv hmi hmj hmb
            intro g w2 hall hI hS2
            obtain ⟨b1, g1⟩ : ∃ b, g 9 = some b := hall ⟨9, 54, k, .cells (madeCells #[.slice none 0 0] k) 104⟩ (by simp [nine])
            obtain ⟨b2, g2⟩ : ∃ b, g 15 = some b := hall ⟨15, 60, k, .cells (madeCells #[.slice none 0 0] k) 104⟩ (by simp [nine])
            obtain ⟨b3, g3⟩ : ∃ b, g 21 = some b := hall ⟨21, 66, k, .cells (madeCells #[.slice none 0 0] k) 24⟩ (by simp [nine])
            obtain ⟨b4, g4⟩ : ∃ b, g 27 = some b := hall ⟨27, 72, ni, .cells (madeCells #[.slice none 0 0] ni) 24⟩ (by simp [nine])
            obtain ⟨b5, g5⟩ : ∃ b, g 33 = some b := hall ⟨33, 78, ni, .cells (madeCells #[.int .i64 0] ni) 3⟩ (by simp [nine])
            obtain ⟨b6, g6⟩ : ∃ b, g 39 = some b := hall ⟨39, 84, k, .cells (madeCells #[.int .i64 0] k) 3⟩ (by simp [nine])
            obtain ⟨b7, g7⟩ : ∃ b, g 45 = some b := hall ⟨45, 90, k, .cells (madeCells #[.bool false] k) 4⟩ (by simp [nine])
            obtain ⟨b8, g8⟩ : ∃ b, g 51 = some b := hall ⟨51, 96, k, .cells (madeCells #[.int .i64 0] k) 3⟩ (by simp [nine])
            obtain ⟨b9, g9⟩ : ∃ b, g 57 = some b := hall ⟨57, 102, ni, .cells (madeCells #[.int .i64 0] ni) 3⟩ (by simp [nine])
            simp only [nine, lstMk, putMk, g1, g2, g3, g4, g5, g6, g7, g8, g9, Mk.val, Act.put, List.setIfInBounds_toArray, List.set_cons_zero, List.set_cons_succ]
            have hbd := fun (w : World) => run_vs w xa (some ⟨b6, 0, none⟩) (some ⟨b1, 0, none⟩) (some ⟨b2, 0, none⟩) (some ⟨b3, 0, none⟩) (some ⟨b4, 0, none⟩) (some ⟨b5, 0, none⟩) (some ⟨b7, 0, none⟩) (some ⟨b8, 0, none⟩) (some ⟨b9, 0, none⟩) k k k k k ni ni k k ni xc k k k k ni ni k k ni
            refine wpAnyH_take (i := 58) (v := .agg #[.slice xa k xc, .slice (some ⟨b6, 0, none⟩) k k, .slice (some ⟨b1, 0, none⟩) k k, .slice (some ⟨b2, 0, none⟩) k k, .slice (some ⟨b3, 0, none⟩) k k, .slice (some ⟨b4, 0, none⟩) ni ni, .slice (some ⟨b5, 0, none⟩) ni ni, .slice (some ⟨b7, 0, none⟩) k k, .slice (some ⟨b8, 0, none⟩) k k, .slice (some ⟨b9, 0, none⟩) ni ni]) rfl (by kernel_rfl) (by kernel_rfl) (by kernel_rfl) (fun _ _ _ h => h) (Or.inl ⟨by rfl, fun w hSw => ?_⟩) hS2 ?_
            · clear hSw
              go_simp
            clear hbd
            simp only [Act.put, List.getElem_toArray, List.getElem_cons_zero, List.getElem_cons_succ, List.setIfInBounds_toArray, List.set_cons_zero, List.set_cons_succ]
            refine wpAnyH_ready (rs := [59]) (by kernel_rfl) (by simp) ?_
            refine AllReadyH.cons rfl (fun K hK => ?_) AllReadyH.nil
            go_simp
            refine hK.out _ _ ⟨cellOld ((Below.refl _ _).alloc (Nat.le_refl _) _) hS2.1, cellOld ((Below.refl _ _).alloc (Nat.le_refl _) _) hS2.2⟩ (fun hS3 => ?_)
            clear hK K
            refine wpAnyH_take (i := 60) (v := .pointer (some ⟨w2.heap.size, 0, none⟩)) rfl (by kernel_rfl) (by kernel_rfl) (by kernel_rfl) (fun _ _ _ h => h) (Or.inl ⟨by rfl, fun w hSw => ?_⟩) hS3 ?_
            · go_simp
            simp only [Act.put, List.getElem_toArray, List.getElem_cons_zero, List.getElem_cons_succ, List.setIfInBounds_toArray, List.set_cons_zero, List.set_cons_succ]
            refine wpAnyH_done (by kernel_rfl) ?_ _
            have HV0 := hidden (vs0_of (xa := xa) (xc := xc) hI g1 g2 g3 g4 g5 g6 g7 g8 g9)
            clear hS2 hS3 hall hI g1 g2 g3 g4 g5 g6 g7 g8 g9
            go_wp2
            go_meet
            exact ⟨_, _, _, _, _, _, _, _, _, _, rfl, HV0⟩
      case rest =>
        as_aux_lemma =>
          obtain ⟨gB, start, reads, seenBy, writes, writers, final, placed, pending, armed, rfl, HV⟩ := hcut
          obtain ⟨wv, HWV⟩ : ∃ wv, Hid (wc = wv) := ⟨wc, rfl⟩
          have s0v := cellOld (w := w) (w' := wc) (HB.out.trans ((Below.drew (Below.refl _ _)).trans (HV.out.bel.mono HB.out.size))) s0
          go_upto_block 2 with fail
          clear s0v
          go_cut [9] (fun v wx => Hid (Sv wv start k (fun t => .int .i64 (stF op pn pn t)) wx))
          case first =>
            as_aux_lemma =>
              have HV' : Hid (Vs0 wr.drew k ni xa xc gB start reads seenBy writes writers final placed pending armed wv) := by have h := HV.out; rw [HWV.out] at h; exact h
              go_wp2
              go_loopg [9] pn (fun d i wx => ∃ z : Int, z + 1 = (d : Int) ∧ d ≤ pn ∧ i = .int .i64 z ∧ Hid (Sv wv start k (fun t => .int .i64 (stF op pn (pn - d) t)) wx))
              case atStart =>
                refine ⟨(pn : Int) - 1, by omega, Nat.le_refl _, rfl, ?_⟩
                have h := HV'.out.r1
                rw [Nat.sub_self]
                rw [HWV.out]
                exact Sv.refl h
              case round =>
                as_aux_lemma =>
                  obtain ⟨z, hz, hd, rfl, HS⟩ := hrel
                  by_cases h0 : z < 0
                  · have e0 : gk = 0 := by omega
                    subst e0
                    have hz1 : decide (0 ≤ z) = false := by simp; omega
                    go_wp2
                    go_meet
                    exact HS
                  · obtain ⟨d, rfl⟩ : ∃ d : Nat, z = (d : Int) := ⟨z.toNat, by omega⟩
                    obtain ⟨mf, mb, mc⟩ := HS.out.map HM.out HB.out HV'.out
                    have s0x := cellOld mb s0
                    have ho := cellOld mb (HN.out.op2 d (by omega))
                    have hom := HN.out.op1 d (by omega)
                    obtain ⟨p, hp⟩ : ∃ p, op d = p := ⟨_, rfl⟩
                    rw [hp] at ho hom
                    have hi64 := HN.out.i64 hom
                    have HP := hidden hp
                    have hlk : (Instr.lookup 60 (.map (some w.heap.size)) (.int .i64 (txns.getD p 0)) false).run Try.prog wr.drew = .ok (.int .i64 ((p : Nat) : Int)) wr.drew := by
                      have h := MapFn.look (t := 60) (show MapFn wr.drew 3 w.heap.size k f from mf.block rfl) keyed3 und60 (key3 (z := txns.getD p 0) (Go.WalkArith.wf_i64 ⟨by omega, by omega⟩))
                      rw [HI.out p (by omega)] at h
                      exact h
                    obtain ⟨X, hX⟩ : ∃ X, txns.getD p 0 = X := ⟨_, rfl⟩
                    rw [hX] at hlk ho hi64
                    have hcc := HS.out.row.cell (i := p) (by omega)
                    have hcf := HS.out.row.frozen p
                    obtain ⟨Y, hY⟩ : ∃ Y, stF op pn (pn - gk) p = Y := ⟨_, rfl⟩
                    simp only [hY] at hcc
                    clear hX hY hp mb mf
                    go_wp2
                    go_region
                    go_wp2
                    go_roundg (gk - 1)
                    case measure => omega
                    case rel => exact ⟨(d : Int) - 1, by omega, by omega, by go_num, HS.out.next hz hd HP.out⟩
          case rest =>
            as_aux_lemma =>
              have HS := hcut
              clear hcut
              go_upto_region 12 with fail
              go_cut [10] (fun v wx => ∃ C lB, v = .map (some lB) ∧ Hid (CIs C V k ni w.heap.size gB lB xc xa f) ∧ Hid (Ivn V (stF op pn pn) C w 0 0 0 0 wx))
              case first =>
                as_aux_lemma =>
                  have hm97 := make_97
                  go_wp2
                  go_meet
                  have HV' : Hid (Vs0 wr.drew k ni xa xc gB start reads seenBy writes writers final placed pending armed wv) := by have h := HV.out; rw [HWV.out] at h; exact h
                  obtain ⟨C, h1, h2⟩ := ivn_start (V := V) HM.out HB.out HV'.out HS.out
                  exact ⟨C, _, rfl, h1, h2⟩
              case rest =>
                as_aux_lemma =>
                  obtain ⟨C, lB, rfl, HC, HJ⟩ := hcut
                  obtain ⟨st, HST⟩ : ∃ st, Hid (stF op pn pn = st) := ⟨_, rfl⟩
                  have HI2 : Hid (Ivn V st C w 0 0 0 0 wc) := by have h := HJ.out; rw [HST.out] at h; exact h
                  clear HJ HS HV HWV HM HB
                  have v1c := cellOld (HI2.out.bel HC.out) v1
                  go_upto_block 4 with fail
                  clear v1c
                  go_cut [] (fun wx => Hid (Ivn V st C w ni 0 0 ni wx))
                  case first =>
                    as_aux_lemma =>
                      go_wp2
                      go_loopg [137] ni (fun q i wr => ∃ x, x + q = ni ∧ i = .int .i64 ((x : Nat) : Int) ∧ Hid (Ivn V st C w x 0 0 x wr))
                      case atStart => exact ⟨0, by omega, rfl, HI2⟩
                      case round =>
                        as_aux_lemma =>
                          clear HI2
                          obtain ⟨x, hxq, rfl, HJ⟩ := hrel
                          by_cases hx : (x : Int) < ni
                          · obtain ⟨ib, io, hia, hci, HRow, hil⟩ := HN.out.inst.kept (HJ.out.bel HC.out) x (by omega)
                            subst hia
                            obtain ⟨ra, hra⟩ : ∃ a, ira x = a := ⟨_, rfl⟩
                            obtain ⟨rcx, hrcx⟩ : ∃ c, irc x = c := ⟨_, rfl⟩
                            obtain ⟨n, hn⟩ : ∃ n, (IR x).length = n := ⟨_, rfl⟩
                            rw [hra, hrcx, hn] at hci
                            have G6 := HJ.out.g HC.out 6 (by omega) (by omega)
                            have hln : C.ln 6 = ni := HC.out.eni
                            rw [hln] at G6
                            obtain ⟨u6, hu6⟩ := HJ.out.cell 6 (by omega) (by omega) (k := x) (by rw [hln]; omega)
                            have hf6 := HJ.out.frozen 6 (by omega) (by omega) x
                            have HRA := hidden hra
                            have HRC := hidden hrcx
                            have HNN := hidden hn
                            have HRW := hidden HRow
                            have hnb : n ≤ 1048576 := by
                              have h1 := sumTo_lt (fun y => (V.row y).length) (x := x) (n := ni) (by omega)
                              have h2 := HN.out.sum
                              have h3 : (V.row x).length = n := by have h := congrArg List.length (HN.out.ir x (by omega)); rw [List.length_map, hn] at h; exact h.symm
                              omega
                            clear hra hrcx hn HRow hln hil
                            go_upto_if 150 with fail
                            go_cut [] (fun wx => Hid (Ivn V st C w x 0 0 (x + 1) wx))
                            case first =>
                              as_aux_lemma =>
                                obtain ⟨w2, hw2⟩ : ∃ w2, wr.setCell ⟨C.bk 6, x, none⟩ (.int .i64 (-1)) = w2 := ⟨_, rfl⟩
                                by_cases hn0 : n = 0
                                · subst hn0
                                  have HE : Hid (Ivn V st C w x 0 0 (x + 1) w2) := by
                                    rw [← hw2]
                                    refine HJ.out.fin HC.out.ok ?_
                                    have h0 : (V.row x).length = 0 := by have h := congrArg List.length (HN.out.ir x (by omega)); rw [List.length_map, HNN.out] at h; exact h.symm
                                    unfold VIn.final
                                    rw [if_pos (List.eq_nil_of_length_eq_zero h0)]
                                  rw [hw2]
                                  clear hw2
                                  go_wp2
                                  go_meet
                                  exact HE
                                · have hn1 : decide (0 < n) = true := by simp; omega
                                  have HJ2 : Hid (Ivn V st C w x 0 0 x w2) := by rw [← hw2]; exact HJ.out.set6 HC.out.ok _
                                  rw [hw2]
                                  clear hw2
                                  have hln : C.ln 6 = ni := HC.out.eni
                                  have G6 := HJ2.out.g HC.out 6 (by omega) (by omega)
                                  rw [hln] at G6
                                  obtain ⟨u6, hu6⟩ := HJ2.out.cell 6 (by omega) (by omega) (k := x) (by rw [hln]; omega)
                                  have hf6 := HJ2.out.frozen 6 (by omega) (by omega) x
                                  obtain ⟨q, hq⟩ : ∃ q : Nat, (n : Int) - 1 = (q : Int) := ⟨n - 1, by omega⟩
                                  have hqn : q < n := by omega
                                  have hqb : q ≤ 1048576 := by omega
                                  obtain ⟨-, -, -, -, hrow, -⟩ := HN.out.inst.kept (HJ2.out.bel HC.out) x (by omega)
                                  obtain ⟨rb, ro, hra, hrc, -⟩ := hrow q (by rw [HNN.out]; exact hqn)
                                  obtain ⟨e1, e2, e3⟩ := HN.out.ver (x := x) (s := q) (by omega) (by rw [HNN.out]; exact hqn)
                                  rw [e3] at hrc
                                  have hi64 := HN.out.i64 e2
                                  obtain ⟨T, hT⟩ : ∃ T, (V.row x).getD q 0 = T := ⟨_, rfl⟩
                                  rw [hT] at hrc hi64 e2
                                  have hlk := (HJ2.out.drew HC.out.ok).look HC.out HI.out e2 hi64
                                  have HFN : Hid ((T : Int) = V.final x) := by
                                    show _ = _
                                    have hne : V.row x ≠ [] := fun e0 => by rw [e0] at e1; rw [HNN.out] at e1; simp at e1; omega
                                    unfold VIn.final
                                    rw [if_neg hne, e1, HNN.out]
                                    have : n - 1 = q := by omega
                                    rw [this, hT]
                                  obtain ⟨X, hX⟩ : ∃ X, txns.getD T 0 = X := ⟨_, rfl⟩
                                  rw [hX] at hlk hrc
                                  rw [HRA.out] at hra
                                  subst hra
                                  clear hX hT e1 e3 hrow hi64 hln
                                  go_wp2
                                  go_region
                                  go_wp2
                                  go_meet
                                  exact (HJ2.out.fin HC.out.ok HFN.out).drew HC.out.ok
                            case rest =>
                              as_aux_lemma =>
                                clear HJ hci G6 hu6 hf6 HRW
                                have HJ : Hid (Ivn V st C w x 0 0 (x + 1) wc) := hcut
                                clear hcut
                                go_wp2
                                go_loopg [167] n (fun q i wr => ∃ s, s + q = n ∧ i = .int .i64 ((s : Nat) : Int) ∧ Hid (Ivn V st C w x s 0 (x + 1) wr))
                                case atStart => exact ⟨0, by omega, rfl, HJ⟩
                                case round =>
                                  as_aux_lemma =>
                                    clear HJ
                                    obtain ⟨s, hsq, rfl, HJ⟩ := hrel
                                    by_cases hs : (s : Int) < n
                                    · obtain ⟨-, -, -, -, hrow, -⟩ := HN.out.inst.kept (HJ.out.bel HC.out) x (by omega)
                                      obtain ⟨rb, ro, hra, hrc, -⟩ := hrow s (by rw [HNN.out]; omega)
                                      obtain ⟨e1, e2, e3⟩ := HN.out.ver (x := x) (s := s) (by omega) (by rw [HNN.out]; omega)
                                      rw [e3] at hrc
                                      have hi64 := HN.out.i64 e2
                                      obtain ⟨T, hT⟩ : ∃ T, (V.row x).getD s 0 = T := ⟨_, rfl⟩
                                      rw [hT] at hrc hi64 e2
                                      have hlk := HJ.out.look HC.out HI.out e2 hi64
                                      obtain ⟨X, hX⟩ : ∃ X, txns.getD T 0 = X := ⟨_, rfl⟩
                                      rw [hX] at hlk hrc
                                      rw [HRA.out] at hra
                                      subst hra
                                      have HTT := hidden hT
                                      obtain ⟨z2, o2, ho1, -, hl2, -⟩ := HJ.out.look2 HC.out (T := T) (y := x) (by rw [HN.out.vm]; omega) (by rw [HN.out.vn]; omega) (by rw [HN.out.vm]; omega) (by rw [HN.out.vn]; omega)
                                      have hl3 := hl2 wr rfl
                                      have hb1 := fun w => run_100 w (T : Int) (x : Int)
                                      have HO := hidden ho1
                                      clear hX hT e1 e3 hrow hi64 hl2 ho1
                                      go_upto_if 184 with fail
                                      clear hlk hl3
                                      go_cut [] (fun wx => ∃ f2 n2 ct v L, Hid (Nv C w f2 n2 ct v L wx) ∧ Hid (Hd C ct v) ∧ Hid (Pl V st x (s + 1) 0 (x + 1) L (updV f2 (key2 T x) ((s : Nat) : Int)) (n2 + 1) ct))
                                      case first =>
                                        as_aux_lemma =>
                                          obtain ⟨f2, n2, ct, v, L, g1, g2, g3⟩ := HJ.out
                                          have hlx : V.lTo T x x s = lastTo (V.row x) T s := by unfold VIn.lTo; rw [if_neg (Nat.lt_irrefl _), if_pos rfl]
                                          have hlr : s < (V.row x).length := by have h := congrArg List.length (HN.out.ir x (by omega)); rw [List.length_map, HNN.out] at h; omega
                                          cases o2 with
                                          | true =>
                                            have HP := hidden (g3.old hlr HTT.out (by rw [← hlx]; exact HO.out.1 rfl))
                                            have HN1 := hidden g1
                                            have HD1 := hidden g2
                                            clear g1 g2 g3 hlx hlr
                                            go_wp2
                                            go_meet
                                            exact ⟨f2, n2, ct, v, L, HN1, HD1, HP⟩
                                          | false =>
                                            have hlo : lastTo (V.row x) T s = none := by rw [← hlx]; exact Classical.byContradiction (fun h => by have := HO.out.2 h; simp at this)
                                            have HLO := hidden hlo
                                            have HLR := hidden hlr
                                            have HCE : Hid (C.cell T x = [.int .i64 ((x : Nat) : Int)]) := by show C.cell T x = _; unfold NvC.cell; rw [if_pos (by have h1 := HC.out.em; have h2 := HC.out.eni; omega)]
                                            have HCX : Hid (C.cell (C.m + x) T = [.int .i64 ((T : Nat) : Int)]) := by show C.cell (C.m + x) T = _; unfold NvC.cell; rw [if_pos (by have h1 := HC.out.em; have h2 := HC.out.eni; omega)]
                                            have G4 : wr.cell? ⟨gB, 4, none⟩ = some (.slice (some ⟨C.bk 4, 0, none⟩) k k) := by
                                              have h := g1.gcell 4 (by omega) (by omega)
                                              rw [HC.out.eg] at h
                                              have hl : C.ln 4 = k := HC.out.em
                                              rw [hl] at h
                                              exact h
                                            have HJJ : Hid (T < 3 * C.m + C.ni) := by show T < 3 * C.m + C.ni; have h1 := HC.out.em; have h2 := HC.out.eni; omega
                                            have HET : Hid (C.eT (T) = 3) := by show C.eT (T) = 3; unfold NvC.eT; rw [if_pos (by have h1 := HC.out.em; have h2 := HC.out.eni; omega)]
                                            have HES : Hid (C.eS (T) = 1) := by show C.eS (T) = 1; unfold NvC.eS; rw [if_pos (by have h1 := HC.out.em; have h2 := HC.out.eni; omega)]
                                            have own := g1.fam.own (T) HJJ.out
                                            rw [HET.out, HES.out] at own
                                            have hl4 : C.ln 4 = k := HC.out.em
                                            have hu4 := (g1.row 4 (by omega) (by omega)).cell (i := T) (by rw [hl4]; omega)
                                            have hf4 := (g1.row 4 (by omega) (by omega)).frozen T
                                            have hhd : ct 4 T = v (T) := g2.h4 T (by have h1 := HC.out.em; have h2 := HC.out.eni; omega)
                                            rw [hhd] at hu4
                                            have hbs := g1.sz
                                            have hnL : (L (T)).length ≤ 1000000000 := by
                                              rw [g3.lw T (by rw [HN.out.vm]; exact e2)]
                                              exact Nat.le_trans (wTo_len V T x s) (by omega)
                                            obtain ⟨U, hU⟩ : ∃ U, v (T) = U := ⟨_, rfl⟩
                                            obtain ⟨nL, hnl⟩ : ∃ n, (L (T)).length = n := ⟨_, rfl⟩
                                            obtain ⟨xs, hxs⟩ : ∃ l, (L (T)).flatMap (C.cell (T)) = l := ⟨_, rfl⟩
                                            rw [hU, hnl, hxs] at own
                                            rw [hU] at hu4
                                            rw [hnl] at hnL
                                            have HG1 := hidden g1
                                            have HOW := hidden own
                                            have HU := hidden hU
                                            have HNL := hidden hnl
                                            have HXS := hidden hxs
                                            have HBS := hidden hbs
                                            clear g1 own hU hnl hxs hbs hl4 hhd
                                            have HG2 := hidden g2
                                            have HG3 := hidden g3
                                            clear g2 g3 hlx hlr hlo
                                            go_upto_region 25 with fail
                                            go_cut [] (fun wx => ∃ u, Hid (Nv C w f2 n2 (at' ct 4 (at' (ct 4) T u)) (at' v T u) (at' L T (L T ++ [x])) wx))
                                            case first =>
                                              as_aux_lemma =>
                                                have HO2 : Hid (((wr.alloc (Obj.cells #[Value.int IntKind.i64 ((x : Nat) : Int)] 3)).drew).ownsRow C.base 3 1 U nL xs) := (HOW.out.alloc _).drew
                                                have HB2 : Hid (C.base ≤ ((wr.alloc (Obj.cells #[Value.int IntKind.i64 ((x : Nat) : Int)] 3)).drew).heap.size) := by show C.base ≤ (wr.alloc _).heap.size; have h := HBS.out; simp; omega
                                                have HGB : Hid (gB < C.base) := by show gB < C.base; have h := HC.out.ok.g.2; rw [HC.out.eg] at h; exact h
                                                have HBB : Hid (C.bk 4 < C.base) := (HC.out.ok.low 4 (by omega) (by omega)).2.1
                                                have HNE : Hid (C.bk 4 ≠ gB) := by show C.bk 4 ≠ gB; have h := (HC.out.ok.low 4 (by omega) (by omega)).2.2.1; rw [HC.out.eg] at h; exact h
                                                have HNW : Hid (((wr.alloc (Obj.cells #[Value.int IntKind.i64 ((x : Nat) : Int)] 3)).drew).cell? ⟨gB, 4, none⟩ = some (.slice (some ⟨C.bk 4, 0, none⟩) k k)) := cellOld (w' := ((wr.alloc (Obj.cells #[Value.int IntKind.i64 ((x : Nat) : Int)] 3)).drew)) (((Below.refl _ _).alloc (Nat.le_refl _) _).drew) G4
                                                have HNU : Hid (((wr.alloc (Obj.cells #[Value.int IntKind.i64 ((x : Nat) : Int)] 3)).drew).cell? ⟨C.bk 4, T, none⟩ = some U) := cellOld (w' := ((wr.alloc (Obj.cells #[Value.int IntKind.i64 ((x : Nat) : Int)] 3)).drew)) (((Below.refl _ _).alloc (Nat.le_refl _) _).drew) hu4
                                                have HNF : Hid (((wr.alloc (Obj.cells #[Value.int IntKind.i64 ((x : Nat) : Int)] 3)).drew).frozen? ⟨C.bk 4, T, none⟩ = false) := frozenOld (wb := ((wr.alloc (Obj.cells #[Value.int IntKind.i64 ((x : Nat) : Int)] 3)).drew)) (((Below.refl _ _).alloc (Nat.le_refl _) _).drew) (World.block_lt_of_cell? _ _ hu4) hf4
                                                refine wp_region_held_drew (S := fun w' => w'.cell? ⟨gB, 4, none⟩ = some (.slice (some ⟨C.bk 4, 0, none⟩) k k) ∧ True) (by kernel_rfl) ?_ (fun hHeld => ?_)
                                                · exact ⟨G4, trivial⟩
                                                refine wpAnyH_take (i := 0) (v := (.pointer (some ⟨gB, 0, none⟩))) rfl (by kernel_rfl) (by kernel_rfl) (by kernel_rfl) (fun _ _ _ h => h) (Or.inl ⟨by rfl, fun w hSw => ?_⟩) hHeld ?_
                                                · obtain ⟨q1, -⟩ := hSw
                                                  go_simp
                                                simp only [Act.put, List.getElem_toArray, List.getElem_cons_zero, List.getElem_cons_succ, List.setIfInBounds_toArray, List.set_cons_zero, List.set_cons_succ]
                                                refine wpAnyH_take (i := 1) (v := (.pointer (some ⟨gB, 0, none⟩))) rfl (by kernel_rfl) (by kernel_rfl) (by kernel_rfl) (fun _ _ _ h => h) (Or.inl ⟨by rfl, fun w hSw => ?_⟩) hHeld ?_
                                                · obtain ⟨q1, -⟩ := hSw
                                                  go_simp
                                                simp only [Act.put, List.getElem_toArray, List.getElem_cons_zero, List.getElem_cons_succ, List.setIfInBounds_toArray, List.set_cons_zero, List.set_cons_succ]
                                                refine wpAnyH_take (i := 2) (v := (.pointer (some ⟨gB, 4, none⟩))) rfl (by kernel_rfl) (by kernel_rfl) (by kernel_rfl) (fun _ _ _ h => h) (Or.inl ⟨by rfl, fun w hSw => ?_⟩) hHeld ?_
                                                · obtain ⟨q1, -⟩ := hSw
                                                  go_simp
                                                simp only [Act.put, List.getElem_toArray, List.getElem_cons_zero, List.getElem_cons_succ, List.setIfInBounds_toArray, List.set_cons_zero, List.set_cons_succ]
                                                refine wpAnyH_take (i := 3) (v := (.slice (some ⟨C.bk 4, 0, none⟩) k k)) rfl (by kernel_rfl) (by kernel_rfl) (by kernel_rfl) (fun _ _ _ h => h) (Or.inl ⟨by rfl, fun w hSw => ?_⟩) hHeld ?_
                                                · obtain ⟨q1, -⟩ := hSw
                                                  go_simp
                                                simp only [Act.put, List.getElem_toArray, List.getElem_cons_zero, List.getElem_cons_succ, List.setIfInBounds_toArray, List.set_cons_zero, List.set_cons_succ]
                                                refine wpAnyH_take (i := 4) (v := (.int .i64 ((T : Nat) : Int))) rfl (by kernel_rfl) (by kernel_rfl) (by kernel_rfl) (fun _ _ _ h => h) (Or.inl ⟨by rfl, fun w hSw => ?_⟩) hHeld ?_
                                                · obtain ⟨q1, -⟩ := hSw
                                                  go_simp
                                                simp only [Act.put, List.getElem_toArray, List.getElem_cons_zero, List.getElem_cons_succ, List.setIfInBounds_toArray, List.set_cons_zero, List.set_cons_succ]
                                                refine wpAnyH_take (i := 5) (v := (.pointer (some ⟨gB, 0, none⟩))) rfl (by kernel_rfl) (by kernel_rfl) (by kernel_rfl) (fun _ _ _ h => h) (Or.inl ⟨by rfl, fun w hSw => ?_⟩) hHeld ?_
                                                · obtain ⟨q1, -⟩ := hSw
                                                  go_simp
                                                simp only [Act.put, List.getElem_toArray, List.getElem_cons_zero, List.getElem_cons_succ, List.setIfInBounds_toArray, List.set_cons_zero, List.set_cons_succ]
                                                refine wpAnyH_take (i := 6) (v := (.pointer (some ⟨gB, 0, none⟩))) rfl (by kernel_rfl) (by kernel_rfl) (by kernel_rfl) (fun _ _ _ h => h) (Or.inl ⟨by rfl, fun w hSw => ?_⟩) hHeld ?_
                                                · obtain ⟨q1, -⟩ := hSw
                                                  go_simp
                                                simp only [Act.put, List.getElem_toArray, List.getElem_cons_zero, List.getElem_cons_succ, List.setIfInBounds_toArray, List.set_cons_zero, List.set_cons_succ]
                                                refine wpAnyH_take (i := 7) (v := (.pointer (some ⟨gB, 4, none⟩))) rfl (by kernel_rfl) (by kernel_rfl) (by kernel_rfl) (fun _ _ _ h => h) (Or.inl ⟨by rfl, fun w hSw => ?_⟩) hHeld ?_
                                                · obtain ⟨q1, -⟩ := hSw
                                                  go_simp
                                                simp only [Act.put, List.getElem_toArray, List.getElem_cons_zero, List.getElem_cons_succ, List.setIfInBounds_toArray, List.set_cons_zero, List.set_cons_succ]
                                                refine wpAnyH_take (i := 8) (v := (.slice (some ⟨C.bk 4, 0, none⟩) k k)) rfl (by kernel_rfl) (by kernel_rfl) (by kernel_rfl) (fun _ _ _ h => h) (Or.inl ⟨by rfl, fun w hSw => ?_⟩) hHeld ?_
                                                · obtain ⟨q1, -⟩ := hSw
                                                  go_simp
                                                simp only [Act.put, List.getElem_toArray, List.getElem_cons_zero, List.getElem_cons_succ, List.setIfInBounds_toArray, List.set_cons_zero, List.set_cons_succ]
                                                refine wpAnyH_take (i := 9) (v := (.int .i64 ((T : Nat) : Int))) rfl (by kernel_rfl) (by kernel_rfl) (by kernel_rfl) (fun _ _ _ h => h) (Or.inl ⟨by rfl, fun w hSw => ?_⟩) hHeld ?_
                                                · obtain ⟨q1, -⟩ := hSw
                                                  go_simp
                                                simp only [Act.put, List.getElem_toArray, List.getElem_cons_zero, List.getElem_cons_succ, List.setIfInBounds_toArray, List.set_cons_zero, List.set_cons_succ]
                                                refine wpAnyH_take (i := 10) (v := (.pointer (some ⟨C.bk 4, T, none⟩))) rfl (by kernel_rfl) (by kernel_rfl) (by kernel_rfl) (fun _ _ _ h => h) (Or.inl ⟨by rfl, fun w hSw => ?_⟩) hHeld ?_
                                                · obtain ⟨q1, -⟩ := hSw
                                                  go_simp
                                                simp only [Act.put, List.getElem_toArray, List.getElem_cons_zero, List.getElem_cons_succ, List.setIfInBounds_toArray, List.set_cons_zero, List.set_cons_succ]
                                                refine wpAnyH_take (i := 12) (v := (.int .i64 ((x : Nat) : Int))) rfl (by kernel_rfl) (by kernel_rfl) (by kernel_rfl) (fun _ _ _ h => h) (Or.inl ⟨by rfl, fun w hSw => ?_⟩) hHeld ?_
                                                · obtain ⟨q1, -⟩ := hSw
                                                  go_simp
                                                simp only [Act.put, List.getElem_toArray, List.getElem_cons_zero, List.getElem_cons_succ, List.setIfInBounds_toArray, List.set_cons_zero, List.set_cons_succ]
                                                refine wpAnyH_ready (rs := [11, 13]) (by kernel_rfl) (by simp) ?_
                                                refine AllReadyH.cons rfl (fun K hK => ?_) (AllReadyH.cons rfl (fun K hK => ?_) AllReadyH.nil)
                                                · go_simp
                                                  refine hK.out _ _ ⟨G4, trivial⟩ (fun hS0 => ?_)
                                                  clear hK K
                                                  refine wpAnyH_ready (rs := [13]) (by kernel_rfl) (by simp) ?_
                                                  refine AllReadyH.cons rfl (fun K hK => ?_) AllReadyH.nil
                                                  go_simp
                                                  refine hK.out _ _ ⟨HNW.out, trivial⟩ (fun hS1 => ?_)
                                                  clear hK K
                                                  refine wpAnyH_ready (rs := [14]) (by kernel_rfl) (by simp) ?_
                                                  refine AllReadyH.cons rfl (fun K hK => ?_) AllReadyH.nil
                                                  refine step_int _ rfl (.tmp 196) (.tmp 198) rfl C.base HB2.out U nL xs rfl HO2.out wr.heap.size (x : Int) (new_cell1 _ _ _) rfl hnL (fun v' w' h1 h2 h3 => ?_)
                                                  obtain ⟨a9, c9, hv9⟩ : ∃ a c, v' = .slice a (nL + 1) c := ⟨_, _, own_form h1⟩
                                                  subst hv9
                                                  have HA1 := hidden h1
                                                  have HA2 := hidden h2
                                                  have HA3 := h3
                                                  clear h1 h2 h3
                                                  have hS2 : w'.cell? ⟨gB, 4, none⟩ = some (.slice (some ⟨C.bk 4, 0, none⟩) k k) := grown_cell HO2.out HA2.out HB2.out HGB.out HNW.out
                                                  have hcu : w'.cell? ⟨C.bk 4, T, none⟩ = some U := grown_cell HO2.out HA2.out HB2.out HBB.out HNU.out
                                                  have hcf : w'.frozen? ⟨C.bk 4, T, none⟩ = false := grown_frozen HO2.out HA2.out HB2.out HBB.out HNF.out
                                                  refine hK.out _ _ ⟨hS2, trivial⟩ (fun hS3 => ?_)
                                                  clear hK K
                                                  simp only [Act.put, List.getElem_toArray, List.getElem_cons_zero, List.getElem_cons_succ, List.setIfInBounds_toArray, List.set_cons_zero, List.set_cons_succ]
                                                  refine wpAnyH_take (i := 15) (v := (.pointer (some ⟨C.bk 4, T, none⟩))) rfl (by kernel_rfl) (by kernel_rfl) (by kernel_rfl) (fun _ _ _ h => h) (Or.inl ⟨by rfl, fun w hSw => ?_⟩) hS3 ?_
                                                  · obtain ⟨q1, -⟩ := hSw
                                                    go_simp
                                                  simp only [Act.put, List.getElem_toArray, List.getElem_cons_zero, List.getElem_cons_succ, List.setIfInBounds_toArray, List.set_cons_zero, List.set_cons_succ]
                                                  refine wpAnyH_ready (rs := [16]) (by kernel_rfl) (by simp) ?_
                                                  refine AllReadyH.cons rfl (fun K hK => ?_) AllReadyH.nil
                                                  go_simp
                                                  have hS4 : (w'.setCell ⟨C.bk 4, T, none⟩ (.slice a9 (nL + 1) c9)).cell? ⟨gB, 4, none⟩ = some (.slice (some ⟨C.bk 4, 0, none⟩) k k) := (World.cell?_setCell_far _ _ _ _ HNE.out).trans hS2
                                                  refine hK.out _ _ ⟨hS4, trivial⟩ (fun hS5 => ?_)
                                                  clear hK K
                                                  refine wpAnyH_done (by kernel_rfl) ?_ _
                                                  clear hS2 hcu hcf hS3 hS4 hS5
                                                  go_wp2
                                                  go_meet
                                                  exact ⟨_, nv_app_set HC.out.ok HG1.out HJJ.out HU.out HET.out HES.out HNL.out HXS.out HCE.out (by omega) (by omega) HA1.out HA2.out HA3.out⟩
                                                · go_simp
                                                  refine hK.out _ _ ⟨HNW.out, trivial⟩ (fun hS0 => ?_)
                                                  clear hK K
                                                  refine wpAnyH_ready (rs := [11]) (by kernel_rfl) (by simp) ?_
                                                  refine AllReadyH.cons rfl (fun K hK => ?_) AllReadyH.nil
                                                  have hnu2 := HNU.out
                                                  go_simp
                                                  clear hnu2
                                                  refine hK.out _ _ ⟨HNW.out, trivial⟩ (fun hS1 => ?_)
                                                  clear hK K
                                                  refine wpAnyH_ready (rs := [14]) (by kernel_rfl) (by simp) ?_
                                                  refine AllReadyH.cons rfl (fun K hK => ?_) AllReadyH.nil
                                                  refine step_int _ rfl (.tmp 196) (.tmp 198) rfl C.base HB2.out U nL xs rfl HO2.out wr.heap.size (x : Int) (new_cell1 _ _ _) rfl hnL (fun v' w' h1 h2 h3 => ?_)
                                                  obtain ⟨a9, c9, hv9⟩ : ∃ a c, v' = .slice a (nL + 1) c := ⟨_, _, own_form h1⟩
                                                  subst hv9
                                                  have HA1 := hidden h1
                                                  have HA2 := hidden h2
                                                  have HA3 := h3
                                                  clear h1 h2 h3
                                                  have hS2 : w'.cell? ⟨gB, 4, none⟩ = some (.slice (some ⟨C.bk 4, 0, none⟩) k k) := grown_cell HO2.out HA2.out HB2.out HGB.out HNW.out
                                                  have hcu : w'.cell? ⟨C.bk 4, T, none⟩ = some U := grown_cell HO2.out HA2.out HB2.out HBB.out HNU.out
                                                  have hcf : w'.frozen? ⟨C.bk 4, T, none⟩ = false := grown_frozen HO2.out HA2.out HB2.out HBB.out HNF.out
                                                  refine hK.out _ _ ⟨hS2, trivial⟩ (fun hS3 => ?_)
                                                  clear hK K
                                                  simp only [Act.put, List.getElem_toArray, List.getElem_cons_zero, List.getElem_cons_succ, List.setIfInBounds_toArray, List.set_cons_zero, List.set_cons_succ]
                                                  refine wpAnyH_take (i := 15) (v := (.pointer (some ⟨C.bk 4, T, none⟩))) rfl (by kernel_rfl) (by kernel_rfl) (by kernel_rfl) (fun _ _ _ h => h) (Or.inl ⟨by rfl, fun w hSw => ?_⟩) hS3 ?_
                                                  · obtain ⟨q1, -⟩ := hSw
                                                    go_simp
                                                  simp only [Act.put, List.getElem_toArray, List.getElem_cons_zero, List.getElem_cons_succ, List.setIfInBounds_toArray, List.set_cons_zero, List.set_cons_succ]
                                                  refine wpAnyH_ready (rs := [16]) (by kernel_rfl) (by simp) ?_
                                                  refine AllReadyH.cons rfl (fun K hK => ?_) AllReadyH.nil
                                                  go_simp
                                                  have hS4 : (w'.setCell ⟨C.bk 4, T, none⟩ (.slice a9 (nL + 1) c9)).cell? ⟨gB, 4, none⟩ = some (.slice (some ⟨C.bk 4, 0, none⟩) k k) := (World.cell?_setCell_far _ _ _ _ HNE.out).trans hS2
                                                  refine hK.out _ _ ⟨hS4, trivial⟩ (fun hS5 => ?_)
                                                  clear hK K
                                                  refine wpAnyH_done (by kernel_rfl) ?_ _
                                                  clear hS2 hcu hcf hS3 hS4 hS5
                                                  go_wp2
                                                  go_meet
                                                  exact ⟨_, nv_app_set HC.out.ok HG1.out HJJ.out HU.out HET.out HES.out HNL.out HXS.out HCE.out (by omega) (by omega) HA1.out HA2.out HA3.out⟩
                                            case rest =>
                                              as_aux_lemma =>
                                                obtain ⟨u5, HQ⟩ := hcut
                                                clear HNL HXS HU HBS HOW HET HES HJJ HG1 hnL hu4 hf4 G4 HJ
                                                obtain ⟨ct, v, L, g1, g2, g4, HPN⟩ : ∃ ct v L, Nv C w f2 n2 ct v L wc ∧ Hd C ct v ∧ L (C.m + x) = V.xTo x x s ∧ Hid (Pl V st x (s + 1) 0 (x + 1) (at' L (C.m + x) (L (C.m + x) ++ [T])) (updV f2 (key2 T x) ((s : Nat) : Int)) (n2 + 1) ct) := by
                                                  refine ⟨_, _, _, HQ.out, HG2.out.set4 (t := T) (by rw [HC.out.em]; exact e2) u5, ?_, ?_⟩
                                                  · rw [at'_other _ _ (by have h1 := HC.out.em; omega)]
                                                    have h := HG3.out.lx x (by rw [HN.out.vn]; omega)
                                                    rw [HN.out.vm, ← HC.out.em] at h
                                                    exact h
                                                  · have h := (HG3.out.new (T := T) (by rw [HN.out.vn]; omega) (by rw [HN.out.vm]; exact e2) HLR.out HTT.out HLO.out).hdr (j := 4) (by omega) (by omega) (at' (ct 4) T u5)
                                                    rw [HN.out.vm, ← HC.out.em] at h
                                                    exact h
                                                clear HG2 HG3 HQ HLR HLO HTT
                                                obtain ⟨wr, hwr⟩ : ∃ wr, wr = wc := ⟨_, rfl⟩
                                                subst hwr
                                                have G5 : wr.cell? ⟨gB, 5, none⟩ = some (.slice (some ⟨C.bk 5, 0, none⟩) ni ni) := by
                                                  have h := g1.gcell 5 (by omega) (by omega)
                                                  rw [HC.out.eg] at h
                                                  have hl : C.ln 5 = ni := HC.out.eni
                                                  rw [hl] at h
                                                  exact h
                                                have HJJ : Hid (C.m + x < 3 * C.m + C.ni) := by show C.m + x < 3 * C.m + C.ni; have h1 := HC.out.em; have h2 := HC.out.eni; omega
                                                have HET : Hid (C.eT (C.m + x) = 3) := by show C.eT (C.m + x) = 3; unfold NvC.eT; rw [if_pos (by have h1 := HC.out.em; have h2 := HC.out.eni; omega)]
                                                have HES : Hid (C.eS (C.m + x) = 1) := by show C.eS (C.m + x) = 1; unfold NvC.eS; rw [if_pos (by have h1 := HC.out.em; have h2 := HC.out.eni; omega)]
                                                have own := g1.fam.own (C.m + x) HJJ.out
                                                rw [HET.out, HES.out] at own
                                                have hl5 : C.ln 5 = ni := HC.out.eni
                                                have hu5 := (g1.row 5 (by omega) (by omega)).cell (i := x) (by rw [hl5]; omega)
                                                have hf5 := (g1.row 5 (by omega) (by omega)).frozen x
                                                have hhd : ct 5 x = v (C.m + x) := g2.h5 x (by have h1 := HC.out.em; have h2 := HC.out.eni; omega)
                                                rw [hhd] at hu5
                                                have hbs := g1.sz
                                                have hnL : (L (C.m + x)).length ≤ 1000000000 := by
                                                  have h := g4
                                                  rw [h]
                                                  have h2 := xTo_len HN.out.fits (y := x) (by rw [HN.out.vn]; omega) x s
                                                  rw [HN.out.vm] at h2
                                                  omega
                                                obtain ⟨U, hU⟩ : ∃ U, v (C.m + x) = U := ⟨_, rfl⟩
                                                obtain ⟨nL, hnl⟩ : ∃ n, (L (C.m + x)).length = n := ⟨_, rfl⟩
                                                obtain ⟨xs, hxs⟩ : ∃ l, (L (C.m + x)).flatMap (C.cell (C.m + x)) = l := ⟨_, rfl⟩
                                                rw [hU, hnl, hxs] at own
                                                rw [hU] at hu5
                                                rw [hnl] at hnL
                                                have HG1 := hidden g1
                                                have HOW := hidden own
                                                have HU := hidden hU
                                                have HNL := hidden hnl
                                                have HXS := hidden hxs
                                                have HBS := hidden hbs
                                                clear g1 own hU hnl hxs hbs hl5 hhd
                                                have HG2 := hidden g2
                                                clear g2 g4
                                                go_upto_region 26 with fail
                                                as_aux_lemma =>
                                                  have HO2 : Hid (((wr.alloc (Obj.cells #[Value.int IntKind.i64 ((T : Nat) : Int)] 3)).drew).ownsRow C.base 3 1 U nL xs) := (HOW.out.alloc _).drew
                                                  have HB2 : Hid (C.base ≤ ((wr.alloc (Obj.cells #[Value.int IntKind.i64 ((T : Nat) : Int)] 3)).drew).heap.size) := by show C.base ≤ (wr.alloc _).heap.size; have h := HBS.out; simp; omega
                                                  have HGB : Hid (gB < C.base) := by show gB < C.base; have h := HC.out.ok.g.2; rw [HC.out.eg] at h; exact h
                                                  have HBB : Hid (C.bk 5 < C.base) := (HC.out.ok.low 5 (by omega) (by omega)).2.1
                                                  have HNE : Hid (C.bk 5 ≠ gB) := by show C.bk 5 ≠ gB; have h := (HC.out.ok.low 5 (by omega) (by omega)).2.2.1; rw [HC.out.eg] at h; exact h
                                                  have HNW : Hid (((wr.alloc (Obj.cells #[Value.int IntKind.i64 ((T : Nat) : Int)] 3)).drew).cell? ⟨gB, 5, none⟩ = some (.slice (some ⟨C.bk 5, 0, none⟩) ni ni)) := cellOld (w' := ((wr.alloc (Obj.cells #[Value.int IntKind.i64 ((T : Nat) : Int)] 3)).drew)) (((Below.refl _ _).alloc (Nat.le_refl _) _).drew) G5
                                                  have HNU : Hid (((wr.alloc (Obj.cells #[Value.int IntKind.i64 ((T : Nat) : Int)] 3)).drew).cell? ⟨C.bk 5, x, none⟩ = some U) := cellOld (w' := ((wr.alloc (Obj.cells #[Value.int IntKind.i64 ((T : Nat) : Int)] 3)).drew)) (((Below.refl _ _).alloc (Nat.le_refl _) _).drew) hu5
                                                  have HNF : Hid (((wr.alloc (Obj.cells #[Value.int IntKind.i64 ((T : Nat) : Int)] 3)).drew).frozen? ⟨C.bk 5, x, none⟩ = false) := frozenOld (wb := ((wr.alloc (Obj.cells #[Value.int IntKind.i64 ((T : Nat) : Int)] 3)).drew)) (((Below.refl _ _).alloc (Nat.le_refl _) _).drew) (World.block_lt_of_cell? _ _ hu5) hf5
                                                  refine wp_region_held_drew (S := fun w' => w'.cell? ⟨gB, 5, none⟩ = some (.slice (some ⟨C.bk 5, 0, none⟩) ni ni) ∧ True) (by kernel_rfl) ?_ (fun hHeld => ?_)
                                                  · exact ⟨G5, trivial⟩
                                                  refine wpAnyH_take (i := 0) (v := (.pointer (some ⟨gB, 0, none⟩))) rfl (by kernel_rfl) (by kernel_rfl) (by kernel_rfl) (fun _ _ _ h => h) (Or.inl ⟨by rfl, fun w hSw => ?_⟩) hHeld ?_
                                                  · obtain ⟨q1, -⟩ := hSw
                                                    go_simp
                                                  simp only [Act.put, List.getElem_toArray, List.getElem_cons_zero, List.getElem_cons_succ, List.setIfInBounds_toArray, List.set_cons_zero, List.set_cons_succ]
                                                  refine wpAnyH_take (i := 1) (v := (.pointer (some ⟨gB, 0, none⟩))) rfl (by kernel_rfl) (by kernel_rfl) (by kernel_rfl) (fun _ _ _ h => h) (Or.inl ⟨by rfl, fun w hSw => ?_⟩) hHeld ?_
                                                  · obtain ⟨q1, -⟩ := hSw
                                                    go_simp
                                                  simp only [Act.put, List.getElem_toArray, List.getElem_cons_zero, List.getElem_cons_succ, List.setIfInBounds_toArray, List.set_cons_zero, List.set_cons_succ]
                                                  refine wpAnyH_take (i := 2) (v := (.pointer (some ⟨gB, 5, none⟩))) rfl (by kernel_rfl) (by kernel_rfl) (by kernel_rfl) (fun _ _ _ h => h) (Or.inl ⟨by rfl, fun w hSw => ?_⟩) hHeld ?_
                                                  · obtain ⟨q1, -⟩ := hSw
                                                    go_simp
                                                  simp only [Act.put, List.getElem_toArray, List.getElem_cons_zero, List.getElem_cons_succ, List.setIfInBounds_toArray, List.set_cons_zero, List.set_cons_succ]
                                                  refine wpAnyH_take (i := 3) (v := (.slice (some ⟨C.bk 5, 0, none⟩) ni ni)) rfl (by kernel_rfl) (by kernel_rfl) (by kernel_rfl) (fun _ _ _ h => h) (Or.inl ⟨by rfl, fun w hSw => ?_⟩) hHeld ?_
                                                  · obtain ⟨q1, -⟩ := hSw
                                                    go_simp
                                                  simp only [Act.put, List.getElem_toArray, List.getElem_cons_zero, List.getElem_cons_succ, List.setIfInBounds_toArray, List.set_cons_zero, List.set_cons_succ]
                                                  refine wpAnyH_take (i := 4) (v := (.int .i64 ((x : Nat) : Int))) rfl (by kernel_rfl) (by kernel_rfl) (by kernel_rfl) (fun _ _ _ h => h) (Or.inl ⟨by rfl, fun w hSw => ?_⟩) hHeld ?_
                                                  · obtain ⟨q1, -⟩ := hSw
                                                    go_simp
                                                  simp only [Act.put, List.getElem_toArray, List.getElem_cons_zero, List.getElem_cons_succ, List.setIfInBounds_toArray, List.set_cons_zero, List.set_cons_succ]
                                                  refine wpAnyH_take (i := 5) (v := (.pointer (some ⟨gB, 0, none⟩))) rfl (by kernel_rfl) (by kernel_rfl) (by kernel_rfl) (fun _ _ _ h => h) (Or.inl ⟨by rfl, fun w hSw => ?_⟩) hHeld ?_
                                                  · obtain ⟨q1, -⟩ := hSw
                                                    go_simp
                                                  simp only [Act.put, List.getElem_toArray, List.getElem_cons_zero, List.getElem_cons_succ, List.setIfInBounds_toArray, List.set_cons_zero, List.set_cons_succ]
                                                  refine wpAnyH_take (i := 6) (v := (.pointer (some ⟨gB, 0, none⟩))) rfl (by kernel_rfl) (by kernel_rfl) (by kernel_rfl) (fun _ _ _ h => h) (Or.inl ⟨by rfl, fun w hSw => ?_⟩) hHeld ?_
                                                  · obtain ⟨q1, -⟩ := hSw
                                                    go_simp
                                                  simp only [Act.put, List.getElem_toArray, List.getElem_cons_zero, List.getElem_cons_succ, List.setIfInBounds_toArray, List.set_cons_zero, List.set_cons_succ]
                                                  refine wpAnyH_take (i := 7) (v := (.pointer (some ⟨gB, 5, none⟩))) rfl (by kernel_rfl) (by kernel_rfl) (by kernel_rfl) (fun _ _ _ h => h) (Or.inl ⟨by rfl, fun w hSw => ?_⟩) hHeld ?_
                                                  · obtain ⟨q1, -⟩ := hSw
                                                    go_simp
                                                  simp only [Act.put, List.getElem_toArray, List.getElem_cons_zero, List.getElem_cons_succ, List.setIfInBounds_toArray, List.set_cons_zero, List.set_cons_succ]
                                                  refine wpAnyH_take (i := 8) (v := (.slice (some ⟨C.bk 5, 0, none⟩) ni ni)) rfl (by kernel_rfl) (by kernel_rfl) (by kernel_rfl) (fun _ _ _ h => h) (Or.inl ⟨by rfl, fun w hSw => ?_⟩) hHeld ?_
                                                  · obtain ⟨q1, -⟩ := hSw
                                                    go_simp
                                                  simp only [Act.put, List.getElem_toArray, List.getElem_cons_zero, List.getElem_cons_succ, List.setIfInBounds_toArray, List.set_cons_zero, List.set_cons_succ]
                                                  refine wpAnyH_take (i := 9) (v := (.int .i64 ((x : Nat) : Int))) rfl (by kernel_rfl) (by kernel_rfl) (by kernel_rfl) (fun _ _ _ h => h) (Or.inl ⟨by rfl, fun w hSw => ?_⟩) hHeld ?_
                                                  · obtain ⟨q1, -⟩ := hSw
                                                    go_simp
                                                  simp only [Act.put, List.getElem_toArray, List.getElem_cons_zero, List.getElem_cons_succ, List.setIfInBounds_toArray, List.set_cons_zero, List.set_cons_succ]
                                                  refine wpAnyH_take (i := 10) (v := (.pointer (some ⟨C.bk 5, x, none⟩))) rfl (by kernel_rfl) (by kernel_rfl) (by kernel_rfl) (fun _ _ _ h => h) (Or.inl ⟨by rfl, fun w hSw => ?_⟩) hHeld ?_
                                                  · obtain ⟨q1, -⟩ := hSw
                                                    go_simp
                                                  simp only [Act.put, List.getElem_toArray, List.getElem_cons_zero, List.getElem_cons_succ, List.setIfInBounds_toArray, List.set_cons_zero, List.set_cons_succ]
                                                  refine wpAnyH_take (i := 12) (v := (.int .i64 ((T : Nat) : Int))) rfl (by kernel_rfl) (by kernel_rfl) (by kernel_rfl) (fun _ _ _ h => h) (Or.inl ⟨by rfl, fun w hSw => ?_⟩) hHeld ?_
                                                  · obtain ⟨q1, -⟩ := hSw
                                                    go_simp
                                                  simp only [Act.put, List.getElem_toArray, List.getElem_cons_zero, List.getElem_cons_succ, List.setIfInBounds_toArray, List.set_cons_zero, List.set_cons_succ]
                                                  refine wpAnyH_ready (rs := [11, 13]) (by kernel_rfl) (by simp) ?_
                                                  refine AllReadyH.cons rfl (fun K hK => ?_) (AllReadyH.cons rfl (fun K hK => ?_) AllReadyH.nil)
                                                  · go_simp
                                                    refine hK.out _ _ ⟨G5, trivial⟩ (fun hS0 => ?_)
                                                    clear hK K
                                                    refine wpAnyH_ready (rs := [13]) (by kernel_rfl) (by simp) ?_
                                                    refine AllReadyH.cons rfl (fun K hK => ?_) AllReadyH.nil
                                                    go_simp
                                                    refine hK.out _ _ ⟨HNW.out, trivial⟩ (fun hS1 => ?_)
                                                    clear hK K
                                                    refine wpAnyH_ready (rs := [14]) (by kernel_rfl) (by simp) ?_
                                                    refine AllReadyH.cons rfl (fun K hK => ?_) AllReadyH.nil
                                                    refine step_int _ rfl (.tmp 212) (.tmp 214) rfl C.base HB2.out U nL xs rfl HO2.out wr.heap.size (T : Int) (new_cell1 _ _ _) rfl hnL (fun v' w' h1 h2 h3 => ?_)
                                                    obtain ⟨a9, c9, hv9⟩ : ∃ a c, v' = .slice a (nL + 1) c := ⟨_, _, own_form h1⟩
                                                    subst hv9
                                                    have HA1 := hidden h1
                                                    have HA2 := hidden h2
                                                    have HA3 := h3
                                                    clear h1 h2 h3
                                                    have hS2 : w'.cell? ⟨gB, 5, none⟩ = some (.slice (some ⟨C.bk 5, 0, none⟩) ni ni) := grown_cell HO2.out HA2.out HB2.out HGB.out HNW.out
                                                    have hcu : w'.cell? ⟨C.bk 5, x, none⟩ = some U := grown_cell HO2.out HA2.out HB2.out HBB.out HNU.out
                                                    have hcf : w'.frozen? ⟨C.bk 5, x, none⟩ = false := grown_frozen HO2.out HA2.out HB2.out HBB.out HNF.out
                                                    refine hK.out _ _ ⟨hS2, trivial⟩ (fun hS3 => ?_)
                                                    clear hK K
                                                    simp only [Act.put, List.getElem_toArray, List.getElem_cons_zero, List.getElem_cons_succ, List.setIfInBounds_toArray, List.set_cons_zero, List.set_cons_succ]
                                                    refine wpAnyH_take (i := 15) (v := (.pointer (some ⟨C.bk 5, x, none⟩))) rfl (by kernel_rfl) (by kernel_rfl) (by kernel_rfl) (fun _ _ _ h => h) (Or.inl ⟨by rfl, fun w hSw => ?_⟩) hS3 ?_
                                                    · obtain ⟨q1, -⟩ := hSw
                                                      go_simp
                                                    simp only [Act.put, List.getElem_toArray, List.getElem_cons_zero, List.getElem_cons_succ, List.setIfInBounds_toArray, List.set_cons_zero, List.set_cons_succ]
                                                    refine wpAnyH_ready (rs := [16]) (by kernel_rfl) (by simp) ?_
                                                    refine AllReadyH.cons rfl (fun K hK => ?_) AllReadyH.nil
                                                    go_simp
                                                    have hS4 : (w'.setCell ⟨C.bk 5, x, none⟩ (.slice a9 (nL + 1) c9)).cell? ⟨gB, 5, none⟩ = some (.slice (some ⟨C.bk 5, 0, none⟩) ni ni) := (World.cell?_setCell_far _ _ _ _ HNE.out).trans hS2
                                                    refine hK.out _ _ ⟨hS4, trivial⟩ (fun hS5 => ?_)
                                                    clear hK K
                                                    refine wpAnyH_done (by kernel_rfl) ?_ _
                                                    clear hS2 hcu hcf hS3 hS4 hS5
                                                    go_wp2
                                                    go_meet
                                                    exact ⟨f2, n2, _, _, _, nv_app_set HC.out.ok HG1.out HJJ.out HU.out HET.out HES.out HNL.out HXS.out HCX.out (by omega) (by omega) HA1.out HA2.out HA3.out, HG2.out.set5 (by rw [HC.out.eni]; omega) _, HPN.out.hdr (by omega) (by omega) _⟩
                                                  · go_simp
                                                    refine hK.out _ _ ⟨HNW.out, trivial⟩ (fun hS0 => ?_)
                                                    clear hK K
                                                    refine wpAnyH_ready (rs := [11]) (by kernel_rfl) (by simp) ?_
                                                    refine AllReadyH.cons rfl (fun K hK => ?_) AllReadyH.nil
                                                    have hnu2 := HNU.out
                                                    go_simp
                                                    clear hnu2
                                                    refine hK.out _ _ ⟨HNW.out, trivial⟩ (fun hS1 => ?_)
                                                    clear hK K
                                                    refine wpAnyH_ready (rs := [14]) (by kernel_rfl) (by simp) ?_
                                                    refine AllReadyH.cons rfl (fun K hK => ?_) AllReadyH.nil
                                                    refine step_int _ rfl (.tmp 212) (.tmp 214) rfl C.base HB2.out U nL xs rfl HO2.out wr.heap.size (T : Int) (new_cell1 _ _ _) rfl hnL (fun v' w' h1 h2 h3 => ?_)
                                                    obtain ⟨a9, c9, hv9⟩ : ∃ a c, v' = .slice a (nL + 1) c := ⟨_, _, own_form h1⟩
                                                    subst hv9
                                                    have HA1 := hidden h1
                                                    have HA2 := hidden h2
                                                    have HA3 := h3
                                                    clear h1 h2 h3
                                                    have hS2 : w'.cell? ⟨gB, 5, none⟩ = some (.slice (some ⟨C.bk 5, 0, none⟩) ni ni) := grown_cell HO2.out HA2.out HB2.out HGB.out HNW.out
                                                    have hcu : w'.cell? ⟨C.bk 5, x, none⟩ = some U := grown_cell HO2.out HA2.out HB2.out HBB.out HNU.out
                                                    have hcf : w'.frozen? ⟨C.bk 5, x, none⟩ = false := grown_frozen HO2.out HA2.out HB2.out HBB.out HNF.out
                                                    refine hK.out _ _ ⟨hS2, trivial⟩ (fun hS3 => ?_)
                                                    clear hK K
                                                    simp only [Act.put, List.getElem_toArray, List.getElem_cons_zero, List.getElem_cons_succ, List.setIfInBounds_toArray, List.set_cons_zero, List.set_cons_succ]
                                                    refine wpAnyH_take (i := 15) (v := (.pointer (some ⟨C.bk 5, x, none⟩))) rfl (by kernel_rfl) (by kernel_rfl) (by kernel_rfl) (fun _ _ _ h => h) (Or.inl ⟨by rfl, fun w hSw => ?_⟩) hS3 ?_
                                                    · obtain ⟨q1, -⟩ := hSw
                                                      go_simp
                                                    simp only [Act.put, List.getElem_toArray, List.getElem_cons_zero, List.getElem_cons_succ, List.setIfInBounds_toArray, List.set_cons_zero, List.set_cons_succ]
                                                    refine wpAnyH_ready (rs := [16]) (by kernel_rfl) (by simp) ?_
                                                    refine AllReadyH.cons rfl (fun K hK => ?_) AllReadyH.nil
                                                    go_simp
                                                    have hS4 : (w'.setCell ⟨C.bk 5, x, none⟩ (.slice a9 (nL + 1) c9)).cell? ⟨gB, 5, none⟩ = some (.slice (some ⟨C.bk 5, 0, none⟩) ni ni) := (World.cell?_setCell_far _ _ _ _ HNE.out).trans hS2
                                                    refine hK.out _ _ ⟨hS4, trivial⟩ (fun hS5 => ?_)
                                                    clear hK K
                                                    refine wpAnyH_done (by kernel_rfl) ?_ _
                                                    clear hS2 hcu hcf hS3 hS4 hS5
                                                    go_wp2
                                                    go_meet
                                                    exact ⟨f2, n2, _, _, _, nv_app_set HC.out.ok HG1.out HJJ.out HU.out HET.out HES.out HNL.out HXS.out HCX.out (by omega) (by omega) HA1.out HA2.out HA3.out, HG2.out.set5 (by rw [HC.out.eni]; omega) _, HPN.out.hdr (by omega) (by omega) _⟩
                                      case rest =>
                                        as_aux_lemma =>
                                          obtain ⟨f2, n2, ct, v, L, HG1, HG2, HG3⟩ := hcut
                                          have hmp : MapFn wc 100 lB n2 f2 := by have h := HG1.out.map2; rw [HC.out.elast] at h; exact h
                                          have hn2 : n2 < 1000000000 := by
                                            have h1 := HG3.out.n2
                                            have h2 := sumTo_lt (fun y => (V.row y).length) (x := x) (n := ni) (by omega)
                                            have h3 := HN.out.sum
                                            have h4 := HNN.out
                                            have h5 := congrArg List.length (HN.out.ir x (by omega))
                                            rw [List.length_map, h4] at h5
                                            omega
                                          have HMP := hidden hmp
                                          obtain ⟨kl, hkl⟩ := key2_key (t := T) (x := x) (by omega) (by omega)
                                          have HKL := hidden hkl
                                          clear hmp hkl HJ
                                          go_wp2_with (first | (at_mapUpdate; go_must (refine put_map _ rfl _ _ _ 97 rfl 100 keyed100 und97 lB n2 f2 rfl HMP.out hn2 (key2 T x) kl ((s : Nat) : Int) rfl rfl HKL.out (Go.WalkArith.wf_i64 ⟨by omega, by omega⟩) ?_; intro w' hm' hg')) | fail)
                                          go_roundg (gk - 1)
                                          case measure => omega
                                          case rel =>
                                            refine ⟨s + 1, by omega, by go_num, _, n2 + 1, ct, v, L, ?_, HG2.out, HG3.out⟩
                                            refine HG1.out.put HC.out.ok ?_ ?_
                                            · rw [HC.out.elast]; exact hm'.out
                                            · rw [HC.out.elast]; exact hg'
                                    · have e : s = n := by omega
                                      subst e
                                      go_wp2
                                      go_roundg (ni - (x + 1))
                                      case measure => omega
                                      case rel =>
                                        refine ⟨x + 1, by omega, by go_num, ?_⟩
                                        obtain ⟨f2, n2, ct, v, L, g1, g2, g3⟩ := HJ.out
                                        have h3 : (V.row x).length = s := by have h := congrArg List.length (HN.out.ir x (by omega)); rw [List.length_map, HNN.out] at h; exact h.symm
                                        rw [← h3] at g3
                                        exact ⟨f2, n2, ct, v, L, g1, g2, g3.item⟩
                          · have e : x = ni := by omega
                            subst e
                            go_wp2
                            go_meet
                            exact HJ
                  case rest =>
                    as_aux_lemma =>
                      clear HI2
                      have HJ : Hid (Ivn V st C w ni 0 0 ni wc) := hcut
                      clear hcut
                      have v3c := cellOld (HJ.out.bel HC.out) v3
                      go_wp2
                      clear v3c
                      go_loopg [4, 5, 229] nr (fun q v4 v5 i wr => v4 = .pointer (some ⟨gB, 0, none⟩) ∧ v5 = .bool false ∧ ∃ j, j + q = nr ∧ i = .int .i64 ((j : Nat) : Int) ∧ Hid (Ivn V st C w ni 0 j ni wr) ∧ Hid (∀ i', i' < j → ¬ V.Bad i'))
                      case atStart => exact ⟨rfl, rfl, 0, by omega, rfl, HJ, fun i' h => absurd h (Nat.not_lt_zero _)⟩
                      case round =>
                        as_aux_lemma =>
                          clear HJ
                          obtain ⟨rfl, rfl, j, hjq, rfl, HJ, HG⟩ := hrel
                          by_cases hj : (j : Int) < nr
                          · have hjn : j < nr := by omega
                            have hb := HJ.out.bel HC.out
                            have c0 := cellOld hb (HN.out.rd0 j hjn)
                            have c1 := cellOld hb (HN.out.rd1 j hjn)
                            have c2 := cellOld hb (HN.out.rd2 j hjn)
                            have c3 := cellOld hb (HN.out.rd3 j hjn)
                            have c4 := cellOld hb (HN.out.rd4 j hjn)
                            obtain ⟨R0, hR0⟩ : ∃ z, rop j = z := ⟨_, rfl⟩
                            obtain ⟨t, ht⟩ : ∃ z, V.rt j = z := ⟨_, rfl⟩
                            obtain ⟨it, hit⟩ : ∃ z, V.it j = z := ⟨_, rfl⟩
                            obtain ⟨sn, hsn⟩ : ∃ z, V.sn j = z := ⟨_, rfl⟩
                            obtain ⟨own, hown⟩ : ∃ z, V.own j = z := ⟨_, rfl⟩
                            obtain ⟨S, hS⟩ : ∃ z, seenTxn IR it sn = z := ⟨_, rfl⟩
                            have htk : t < k := by rw [← ht]; exact HN.out.rt hjn
                            have hitn : it < ni := by rw [← hit]; exact HN.out.it hjn
                            have HSL : Hid (sn < ((IR it).length : Int)) := by show sn < _; have h := HN.out.sn_lt hjn; rw [hsn, hit] at h; exact h
                            have HSI : Hid (I64 sn) := by have h := HN.out.sn j hjn; rw [hsn] at h; exact h
                            have hsi1 := HSI.out.1
                            have hsi2 := HSI.out.2
                            rw [hR0] at c0
                            rw [ht] at c1
                            rw [hit] at c2
                            rw [hsn] at c3
                            rw [hown] at c4
                            have HXi := hidden (HN.out.i64 htk)
                            have HSX : Hid (S = txns.getD t 0 ↔ V.src j = some t) := by show _ ↔ _; have h := HN.out.same hjn; rw [hit, hsn, hS, ht] at h; exact h
                            obtain ⟨X, hX⟩ : ∃ X, txns.getD t 0 = X := ⟨_, rfl⟩
                            rw [hX] at c1 HSX
                            have Ht := hidden ht
                            have Hit := hidden hit
                            have Hsn := hidden hsn
                            have Hown := hidden hown
                            have HS := hidden hS
                            have HX2 := hidden hX
                            clear hR0 ht hit hsn hown hS hX hb
                            go_upto_region 33 with fail
                            have HRD := hidden (RdC.new wr R0 X it sn own)
                            have HJ2 := hidden (HJ.out.frame HC.out.ok ((Below.refl wr.heap.size wr).alloc (Nat.le_refl _) (.cells #[.int .i64 R0, .int .i64 X, .int .i64 (it : Int), .int .i64 sn, .bool own] 76)))
                            obtain ⟨rB, hrB⟩ : ∃ b, wr.heap.size = b := ⟨_, rfl⟩
                            obtain ⟨w2, hw2⟩ : ∃ w2, wr.alloc (.cells #[.int .i64 R0, .int .i64 X, .int .i64 (it : Int), .int .i64 sn, .bool own] 76) = w2 := ⟨_, rfl⟩
                            have HRL : Hid (rB < w2.heap.size) := by show rB < w2.heap.size; rw [← hw2, ← hrB]; simp
                            have HRB : Hid (C.base ≤ rB) := by
                              show C.base ≤ rB
                              obtain ⟨f2, n2, ct, v, L, g1, g2, g3⟩ := HJ.out
                              rw [← hrB]; exact g1.sz
                            have HRO : Hid (∀ f2 n2 ct v L, Nv C w f2 n2 ct v L wr → True) := fun _ _ _ _ _ _ => trivial
                            rw [hrB, hw2] at HRD
                            rw [hw2] at HJ2
                            rw [hrB, hw2]
                            clear hrB hw2 HJ HRO c0 c1 c2 c3 c4
                            go_cut [20] (fun v wx => v = .int .i64 S ∧ Hid (Ivn V st C w ni 0 j ni wx) ∧ Hid (RdC rB R0 X it sn own wx))
                            case first =>
                              as_aux_lemma =>
                                have v1x := cellOld (HJ2.out.bel HC.out) v1
                                have HIN := hidden (HN.out.inst.kept (HJ2.out.bel HC.out))
                                have c0 := HRD.out.c0
                                have c1 := HRD.out.c1
                                have c2 := HRD.out.c2
                                have c3 := HRD.out.c3
                                have c4 := HRD.out.c4
                                go_wp2_with (first | (go_at_call 37; go_must (refine (source_any vB ni ic it ia ira irc IR R0 X sn own _ v1x HIN.out hitn HSL.out HSI.out).mono ?_; rintro e w' ⟨rfl, hb'⟩)) | fail)
                                go_meet
                                refine ⟨by rw [HS.out], HJ2.out.frame HC.out.ok hb', HRD.out.kept hb'⟩
                            case rest =>
                              as_aux_lemma =>
                                obtain ⟨rfl, HJ, HRC⟩ := hcut
                                clear HJ2 HRD HRL
                                have c1 := HRC.out.c1
                                have c4 := HRC.out.c4
                                cases own with
                                | true =>
                                  by_cases hSX : S = X
                                  · subst hSX
                                    have HNB : Hid (¬ V.Bad j) := by
                                      rintro (h | ⟨h, -⟩)
                                      · rw [Hown.out, Ht.out, HSX.out.1 rfl] at h; simp at h
                                      · rw [Hown.out] at h; cases h
                                    as_aux_lemma =>
                                      go_wp2
                                      go_roundg (gk - 1)
                                      case measure => omega
                                      case rel =>
                                        refine ⟨rfl, rfl, j + 1, by omega, by go_num, ?_, fun i' hi' => ?_⟩
                                        · obtain ⟨f2, n2, ct, v, L, g1, g2, g3⟩ := HJ.out
                                          exact ⟨f2, n2, ct, v, L, g1, g2, g3.own Hown.out⟩
                                        · by_cases e : i' = j
                                          · subst e; exact HNB.out
                                          · exact HG.out i' (by omega)
                                  · have hd1 : decide (S = X) = false := by simp [hSX]
                                    have hd2 : (S == X) = false := by simp [hSX]
                                    as_aux_lemma =>
                                      go_wp2
                                      go_returns
                                      refine ⟨HJ.out.bel HC.out, .inl ⟨rfl, j, hjn, .inl ?_⟩⟩
                                      rw [Hown.out, Ht.out]
                                      intro h
                                      have h2 := of_decide_eq_true h.symm
                                      exact hSX (HSX.out.2 h2)
                                | false =>
                                  by_cases hSX : S = X
                                  · subst hSX
                                    have HSV : Hid (V.src j = some t) := HSX.out.1 rfl
                                    as_aux_lemma =>
                                      go_wp2
                                      go_returns
                                      refine ⟨HJ.out.bel HC.out, .inl ⟨rfl, j, hjn, .inl ?_⟩⟩
                                      rw [Hown.out, Ht.out, HSV.out]
                                      simp
                                  · have hd1 : decide (S = X) = false := by simp [hSX]
                                    have hd2 : (S == X) = false := by simp [hSX]
                                    have HNS : Hid (V.src j ≠ some t) := fun h => hSX (HSX.out.2 h)
                                    have hlk0 := HJ.out.look HC.out HI.out htk HXi.out
                                    rw [HX2.out] at hlk0
                                    go_upto_region 38 with fail
                                    clear hlk0
                                    have c2 := HRC.out.c2
                                    have c3 := HRC.out.c3
                                    by_cases hmis : ∃ s0, V.src j = some s0 ∧ lastTo (V.row it) s0 (V.row it).length ≠ some sn.toNat
                                    · obtain ⟨s0, hsrc, hls⟩ := hmis
                                      obtain ⟨hs0k, hSs, ⟨q, hq⟩, ql, hql⟩ := HN.out.srcS hjn hsrc
                                      rw [Hit.out, Hsn.out, HS.out] at hSs
                                      rw [Hsn.out] at hq
                                      rw [Hit.out] at hql
                                      have hsp := HN.out.i64 hs0k
                                      rw [← hSs] at hsp
                                      have hl60 := HJ.out.lookB HC.out HI.out hs0k (by rw [← hSs]; exact hsp)
                                      rw [← hSs] at hl60
                                      obtain ⟨z2, o2, -, hz2, -, hl2⟩ := HJ.out.look2 HC.out (T := s0) (y := it) (by rw [HN.out.vm]; omega) (by rw [HN.out.vn]; omega) (by rw [HN.out.vm]; omega) (by rw [HN.out.vn]; omega)
                                      have hl97 := hl2
                                      have hzq : z2 = (ql : Int) := hz2 ql (by rw [← HN.out.vn, lTo_end V (by rw [HN.out.vn]; omega)]; exact hql)
                                      have hzn : z2 ≠ sn := fun e => hls (by rw [hql]; congr 1; omega)
                                      have hb1 := fun w => run_100 w (s0 : Int) (it : Int)
                                      have hd3 : decide (z2 = sn) = false := by simp [hzn]
                                      have hd4 : (z2 == sn) = false := by simp [hzn]
                                      have hd5 : decide (S = 0) = false := by simp; omega
                                      have hd6 : (S == 0) = false := by simp; omega
                                      have hS0 : S ≠ 0 := by omega
                                      have HBD : Hid (V.Bad j) := .inr ⟨Hown.out, s0, hsrc, by rw [Hit.out, Hsn.out]; exact hls⟩
                                      clear hsrc hls hSs hq hql hz2 hl2 hzq
                                      as_aux_lemma =>
                                        refine wp_region_held_drew (S := fun w' => w'.cell? ⟨rB, 2, none⟩ = some (.int .i64 ((it : Nat) : Int)) ∧ w'.cell? ⟨rB, 3, none⟩ = some (.int .i64 sn) ∧ w'.heap[w.heap.size]? = wc.heap[w.heap.size]? ∧ w'.heap[lB]? = wc.heap[lB]?) (by kernel_rfl) ?_ (fun hHeld => ?_)
                                        · exact ⟨c2, c3, rfl, rfl⟩
                                        refine wpAnyH_take (i := 0) (v := (.int .i64 S)) rfl (by kernel_rfl) (by kernel_rfl) (by kernel_rfl) (fun _ _ _ h => h) (Or.inl ⟨by rfl, fun wy hSw => ?_⟩) hHeld ?_
                                        · obtain ⟨q1, q2, q3, q4⟩ := hSw
                                          go_simp
                                        simp only [Act.put, List.getElem_toArray, List.getElem_cons_zero, List.getElem_cons_succ, List.setIfInBounds_toArray, List.set_cons_zero, List.set_cons_succ]
                                        refine wpAnyH_take (i := 1) (v := (.bool true)) rfl (by kernel_rfl) (by kernel_rfl) (by kernel_rfl) (fun _ _ _ h => h) (Or.inl ⟨by rfl, fun wy hSw => ?_⟩) hHeld ?_
                                        · obtain ⟨q1, q2, q3, q4⟩ := hSw
                                          go_simp
                                        simp only [Act.put, List.getElem_toArray, List.getElem_cons_zero, List.getElem_cons_succ, List.setIfInBounds_toArray, List.set_cons_zero, List.set_cons_succ]
                                        refine wpAnyH_take (i := 2) (v := (.bool true)) rfl (by kernel_rfl) (by kernel_rfl) (by kernel_rfl) (fun _ _ _ h => h) (Or.inl ⟨by rfl, fun wy hSw => ?_⟩) hHeld ?_
                                        · obtain ⟨q1, q2, q3, q4⟩ := hSw
                                          go_simp
                                        simp only [Act.put, List.getElem_toArray, List.getElem_cons_zero, List.getElem_cons_succ, List.setIfInBounds_toArray, List.set_cons_zero, List.set_cons_succ]
                                        refine wpAnyH_take (i := 3) (v := (.map (some lB))) rfl (by kernel_rfl) (by kernel_rfl) (by kernel_rfl) (fun _ _ _ h => h) (Or.inl ⟨by rfl, fun wy hSw => ?_⟩) hHeld ?_
                                        · obtain ⟨q1, q2, q3, q4⟩ := hSw
                                          go_simp
                                        simp only [Act.put, List.getElem_toArray, List.getElem_cons_zero, List.getElem_cons_succ, List.setIfInBounds_toArray, List.set_cons_zero, List.set_cons_succ]
                                        refine wpAnyH_take (i := 4) (v := (.map (some w.heap.size))) rfl (by kernel_rfl) (by kernel_rfl) (by kernel_rfl) (fun _ _ _ h => h) (Or.inl ⟨by rfl, fun wy hSw => ?_⟩) hHeld ?_
                                        · obtain ⟨q1, q2, q3, q4⟩ := hSw
                                          go_simp
                                        simp only [Act.put, List.getElem_toArray, List.getElem_cons_zero, List.getElem_cons_succ, List.setIfInBounds_toArray, List.set_cons_zero, List.set_cons_succ]
                                        refine wpAnyH_take (i := 5) (v := (.int .i64 S)) rfl (by kernel_rfl) (by kernel_rfl) (by kernel_rfl) (fun _ _ _ h => h) (Or.inl ⟨by rfl, fun wy hSw => ?_⟩) hHeld ?_
                                        · obtain ⟨q1, q2, q3, q4⟩ := hSw
                                          go_simp
                                        simp only [Act.put, List.getElem_toArray, List.getElem_cons_zero, List.getElem_cons_succ, List.setIfInBounds_toArray, List.set_cons_zero, List.set_cons_succ]
                                        refine wpAnyH_take (i := 6) (v := (.int .i64 ((s0 : Nat) : Int))) rfl (by kernel_rfl) (by kernel_rfl) (by kernel_rfl) (fun _ _ _ h => h) (Or.inl ⟨by rfl, fun wy hSw => ?_⟩) hHeld ?_
                                        · obtain ⟨q1, q2, q3, q4⟩ := hSw
                                          have e6 := hl60 wy q3
                                          go_simp
                                        simp only [Act.put, List.getElem_toArray, List.getElem_cons_zero, List.getElem_cons_succ, List.setIfInBounds_toArray, List.set_cons_zero, List.set_cons_succ]
                                        refine wpAnyH_take (i := 7) (v := (.pointer (some ⟨rB, 2, none⟩))) rfl (by kernel_rfl) (by kernel_rfl) (by kernel_rfl) (fun _ _ _ h => h) (Or.inl ⟨by rfl, fun wy hSw => ?_⟩) hHeld ?_
                                        · obtain ⟨q1, q2, q3, q4⟩ := hSw
                                          go_simp
                                        simp only [Act.put, List.getElem_toArray, List.getElem_cons_zero, List.getElem_cons_succ, List.setIfInBounds_toArray, List.set_cons_zero, List.set_cons_succ]
                                        refine wpAnyH_take (i := 8) (v := (.int .i64 ((it : Nat) : Int))) rfl (by kernel_rfl) (by kernel_rfl) (by kernel_rfl) (fun _ _ _ h => h) (Or.inl ⟨by rfl, fun wy hSw => ?_⟩) hHeld ?_
                                        · obtain ⟨q1, q2, q3, q4⟩ := hSw
                                          go_simp
                                        simp only [Act.put, List.getElem_toArray, List.getElem_cons_zero, List.getElem_cons_succ, List.setIfInBounds_toArray, List.set_cons_zero, List.set_cons_succ]
                                        refine wpAnyH_take (i := 9) (v := (.agg #[.int .i64 ((s0 : Nat) : Int), .int .i64 ((it : Nat) : Int)])) rfl (by kernel_rfl) (by kernel_rfl) (by kernel_rfl) (fun _ _ _ h => h) (Or.inl ⟨by rfl, fun wy hSw => ?_⟩) hHeld ?_
                                        · obtain ⟨q1, q2, q3, q4⟩ := hSw
                                          go_simp
                                        simp only [Act.put, List.getElem_toArray, List.getElem_cons_zero, List.getElem_cons_succ, List.setIfInBounds_toArray, List.set_cons_zero, List.set_cons_succ]
                                        refine wpAnyH_take (i := 10) (v := (.int .i64 z2)) rfl (by kernel_rfl) (by kernel_rfl) (by kernel_rfl) (fun _ _ _ h => h) (Or.inl ⟨by rfl, fun wy hSw => ?_⟩) hHeld ?_
                                        · obtain ⟨q1, q2, q3, q4⟩ := hSw
                                          have e6 := hl97 wy q4
                                          go_simp
                                        simp only [Act.put, List.getElem_toArray, List.getElem_cons_zero, List.getElem_cons_succ, List.setIfInBounds_toArray, List.set_cons_zero, List.set_cons_succ]
                                        refine wpAnyH_take (i := 11) (v := (.pointer (some ⟨rB, 3, none⟩))) rfl (by kernel_rfl) (by kernel_rfl) (by kernel_rfl) (fun _ _ _ h => h) (Or.inl ⟨by rfl, fun wy hSw => ?_⟩) hHeld ?_
                                        · obtain ⟨q1, q2, q3, q4⟩ := hSw
                                          go_simp
                                        simp only [Act.put, List.getElem_toArray, List.getElem_cons_zero, List.getElem_cons_succ, List.setIfInBounds_toArray, List.set_cons_zero, List.set_cons_succ]
                                        refine wpAnyH_take (i := 12) (v := (.int .i64 sn)) rfl (by kernel_rfl) (by kernel_rfl) (by kernel_rfl) (fun _ _ _ h => h) (Or.inl ⟨by rfl, fun wy hSw => ?_⟩) hHeld ?_
                                        · obtain ⟨q1, q2, q3, q4⟩ := hSw
                                          go_simp
                                        simp only [Act.put, List.getElem_toArray, List.getElem_cons_zero, List.getElem_cons_succ, List.setIfInBounds_toArray, List.set_cons_zero, List.set_cons_succ]
                                        refine wpAnyH_take (i := 13) (v := (.bool true)) rfl (by kernel_rfl) (by kernel_rfl) (by kernel_rfl) (fun _ _ _ h => h) (Or.inl ⟨by rfl, fun wy hSw => ?_⟩) hHeld ?_
                                        · obtain ⟨q1, q2, q3, q4⟩ := hSw
                                          go_simp
                                        simp only [Act.put, List.getElem_toArray, List.getElem_cons_zero, List.getElem_cons_succ, List.setIfInBounds_toArray, List.set_cons_zero, List.set_cons_succ]
                                        refine wpAnyH_take (i := 14) (v := (.bool true)) rfl (by kernel_rfl) (by kernel_rfl) (by kernel_rfl) (fun _ _ _ h => h) (Or.inl ⟨by rfl, fun wy hSw => ?_⟩) hHeld ?_
                                        · obtain ⟨q1, q2, q3, q4⟩ := hSw
                                          go_simp
                                        simp only [Act.put, List.getElem_toArray, List.getElem_cons_zero, List.getElem_cons_succ, List.setIfInBounds_toArray, List.set_cons_zero, List.set_cons_succ]
                                        refine wpAnyH_done (by kernel_rfl) ?_ _
                                        clear hl60 hl97 hb1
                                        go_wp2
                                        go_returns
                                        exact ⟨(HJ.out.drew HC.out.ok).bel HC.out, .inl ⟨rfl, j, hjn, HBD.out⟩⟩
                                    · have HMS := hidden hmis
                                      clear hmis
                                      go_cut [263] (fun v wx => v = .bool false ∧ Hid (Ivn V st C w ni 0 j ni wx) ∧ Hid (RdC rB R0 X it sn false wx))
                                      case first =>
                                        as_aux_lemma =>
                                          cases hsrc : V.src j with
                                          | none =>
                                            have hS0 : S = 0 := by have h := HN.out.src0 hsrc; rw [Hit.out, Hsn.out, HS.out] at h; exact h
                                            clear HS HSX
                                            subst hS0
                                            clear hsrc
                                            as_aux_lemma =>
                                              refine wp_region_held_drew (S := fun w' => w'.cell? ⟨rB, 2, none⟩ = some (.int .i64 ((it : Nat) : Int)) ∧ w'.cell? ⟨rB, 3, none⟩ = some (.int .i64 sn) ∧ w'.heap[w.heap.size]? = wc.heap[w.heap.size]? ∧ w'.heap[lB]? = wc.heap[lB]?) (by kernel_rfl) ?_ (fun hHeld => ?_)
                                              · exact ⟨c2, c3, rfl, rfl⟩
                                              refine wpAnyH_take (i := 0) (v := (.int .i64 0)) rfl (by kernel_rfl) (by kernel_rfl) (by kernel_rfl) (fun _ _ _ h => h) (Or.inl ⟨by rfl, fun wy hSw => ?_⟩) hHeld ?_
                                              · obtain ⟨q1, q2, q3, q4⟩ := hSw
                                                go_simp
                                              simp only [Act.put, List.getElem_toArray, List.getElem_cons_zero, List.getElem_cons_succ, List.setIfInBounds_toArray, List.set_cons_zero, List.set_cons_succ]
                                              refine wpAnyH_take (i := 1) (v := (.bool false)) rfl (by kernel_rfl) (by kernel_rfl) (by kernel_rfl) (fun _ _ _ h => h) (Or.inl ⟨by rfl, fun wy hSw => ?_⟩) hHeld ?_
                                              · obtain ⟨q1, q2, q3, q4⟩ := hSw
                                                go_simp
                                              simp only [Act.put, List.getElem_toArray, List.getElem_cons_zero, List.getElem_cons_succ, List.setIfInBounds_toArray, List.set_cons_zero, List.set_cons_succ]
                                              refine wpAnyH_take (i := 2) (v := (.bool false)) rfl (by kernel_rfl) (by kernel_rfl) (by kernel_rfl) (fun _ _ _ h => h) (Or.inl ⟨by rfl, fun wy hSw => ?_⟩) hHeld ?_
                                              · obtain ⟨q1, q2, q3, q4⟩ := hSw
                                                go_simp
                                              simp only [Act.put, List.getElem_toArray, List.getElem_cons_zero, List.getElem_cons_succ, List.setIfInBounds_toArray, List.set_cons_zero, List.set_cons_succ]
                                              refine wpAnyH_take (i := 3) (v := undef) rfl (by kernel_rfl) (by kernel_rfl) (by kernel_rfl) (fun _ _ _ h => h) (Or.inr ⟨by rfl, rfl⟩) hHeld ?_
                                              simp only [Act.put, List.getElem_toArray, List.getElem_cons_zero, List.getElem_cons_succ, List.setIfInBounds_toArray, List.set_cons_zero, List.set_cons_succ]
                                              refine wpAnyH_take (i := 4) (v := undef) rfl (by kernel_rfl) (by kernel_rfl) (by kernel_rfl) (fun _ _ _ h => h) (Or.inr ⟨by rfl, rfl⟩) hHeld ?_
                                              simp only [Act.put, List.getElem_toArray, List.getElem_cons_zero, List.getElem_cons_succ, List.setIfInBounds_toArray, List.set_cons_zero, List.set_cons_succ]
                                              refine wpAnyH_take (i := 5) (v := undef) rfl (by kernel_rfl) (by kernel_rfl) (by kernel_rfl) (fun _ _ _ h => h) (Or.inr ⟨by rfl, rfl⟩) hHeld ?_
                                              simp only [Act.put, List.getElem_toArray, List.getElem_cons_zero, List.getElem_cons_succ, List.setIfInBounds_toArray, List.set_cons_zero, List.set_cons_succ]
                                              refine wpAnyH_take (i := 6) (v := undef) rfl (by kernel_rfl) (by kernel_rfl) (by kernel_rfl) (fun _ _ _ h => h) (Or.inr ⟨by rfl, rfl⟩) hHeld ?_
                                              simp only [Act.put, List.getElem_toArray, List.getElem_cons_zero, List.getElem_cons_succ, List.setIfInBounds_toArray, List.set_cons_zero, List.set_cons_succ]
                                              refine wpAnyH_take (i := 7) (v := undef) rfl (by kernel_rfl) (by kernel_rfl) (by kernel_rfl) (fun _ _ _ h => h) (Or.inr ⟨by rfl, rfl⟩) hHeld ?_
                                              simp only [Act.put, List.getElem_toArray, List.getElem_cons_zero, List.getElem_cons_succ, List.setIfInBounds_toArray, List.set_cons_zero, List.set_cons_succ]
                                              refine wpAnyH_take (i := 8) (v := undef) rfl (by kernel_rfl) (by kernel_rfl) (by kernel_rfl) (fun _ _ _ h => h) (Or.inr ⟨by rfl, rfl⟩) hHeld ?_
                                              simp only [Act.put, List.getElem_toArray, List.getElem_cons_zero, List.getElem_cons_succ, List.setIfInBounds_toArray, List.set_cons_zero, List.set_cons_succ]
                                              refine wpAnyH_take (i := 9) (v := undef) rfl (by kernel_rfl) (by kernel_rfl) (by kernel_rfl) (fun _ _ _ h => h) (Or.inr ⟨by rfl, rfl⟩) hHeld ?_
                                              simp only [Act.put, List.getElem_toArray, List.getElem_cons_zero, List.getElem_cons_succ, List.setIfInBounds_toArray, List.set_cons_zero, List.set_cons_succ]
                                              refine wpAnyH_take (i := 10) (v := undef) rfl (by kernel_rfl) (by kernel_rfl) (by kernel_rfl) (fun _ _ _ h => h) (Or.inr ⟨by rfl, rfl⟩) hHeld ?_
                                              simp only [Act.put, List.getElem_toArray, List.getElem_cons_zero, List.getElem_cons_succ, List.setIfInBounds_toArray, List.set_cons_zero, List.set_cons_succ]
                                              refine wpAnyH_take (i := 11) (v := undef) rfl (by kernel_rfl) (by kernel_rfl) (by kernel_rfl) (fun _ _ _ h => h) (Or.inr ⟨by rfl, rfl⟩) hHeld ?_
                                              simp only [Act.put, List.getElem_toArray, List.getElem_cons_zero, List.getElem_cons_succ, List.setIfInBounds_toArray, List.set_cons_zero, List.set_cons_succ]
                                              refine wpAnyH_take (i := 12) (v := undef) rfl (by kernel_rfl) (by kernel_rfl) (by kernel_rfl) (fun _ _ _ h => h) (Or.inr ⟨by rfl, rfl⟩) hHeld ?_
                                              simp only [Act.put, List.getElem_toArray, List.getElem_cons_zero, List.getElem_cons_succ, List.setIfInBounds_toArray, List.set_cons_zero, List.set_cons_succ]
                                              refine wpAnyH_take (i := 13) (v := undef) rfl (by kernel_rfl) (by kernel_rfl) (by kernel_rfl) (fun _ _ _ h => h) (Or.inr ⟨by rfl, rfl⟩) hHeld ?_
                                              simp only [Act.put, List.getElem_toArray, List.getElem_cons_zero, List.getElem_cons_succ, List.setIfInBounds_toArray, List.set_cons_zero, List.set_cons_succ]
                                              refine wpAnyH_take (i := 14) (v := (.bool false)) rfl (by kernel_rfl) (by kernel_rfl) (by kernel_rfl) (fun _ _ _ h => h) (Or.inl ⟨by rfl, fun wy hSw => ?_⟩) hHeld ?_
                                              · obtain ⟨q1, q2, q3, q4⟩ := hSw
                                                go_simp
                                              simp only [Act.put, List.getElem_toArray, List.getElem_cons_zero, List.getElem_cons_succ, List.setIfInBounds_toArray, List.set_cons_zero, List.set_cons_succ]
                                              refine wpAnyH_done (by kernel_rfl) ?_ _
                                              go_wp2
                                              go_meet
                                              exact ⟨rfl, HJ.out.drew HC.out.ok, HRC.out.of rfl⟩
                                          | some s0 =>
                                            obtain ⟨hs0k, hSs, ⟨q, hq⟩, ql, hql⟩ := HN.out.srcS hjn hsrc
                                            rw [Hit.out, Hsn.out, HS.out] at hSs
                                            rw [Hsn.out] at hq
                                            rw [Hit.out] at hql
                                            have hsp := HN.out.i64 hs0k
                                            rw [← hSs] at hsp
                                            have hl60 := HJ.out.lookB HC.out HI.out hs0k (by rw [← hSs]; exact hsp)
                                            rw [← hSs] at hl60
                                            obtain ⟨z2, o2, -, hz2, -, hl2⟩ := HJ.out.look2 HC.out (T := s0) (y := it) (by rw [HN.out.vm]; omega) (by rw [HN.out.vn]; omega) (by rw [HN.out.vm]; omega) (by rw [HN.out.vn]; omega)
                                            have hl97 := hl2
                                            have hzq : z2 = (ql : Int) := hz2 ql (by rw [← HN.out.vn, lTo_end V (by rw [HN.out.vn]; omega)]; exact hql)
                                            have hzn : z2 = sn := by
                                              refine Classical.byContradiction (fun e => HMS.out ⟨s0, hsrc, ?_⟩)
                                              rw [hql]
                                              intro e2
                                              injection e2 with e2
                                              omega
                                            have hb1 := fun w => run_100 w (s0 : Int) (it : Int)
                                            have hd5 : decide (S = 0) = false := by simp; omega
                                            have hd6 : (S == 0) = false := by simp; omega
                                            have hS0 : S ≠ 0 := by omega
                                            clear hsrc hSs hq hql hz2 hl2 hzq
                                            rw [hzn] at hl97
                                            clear hzn
                                            as_aux_lemma =>
                                              refine wp_region_held_drew (S := fun w' => w'.cell? ⟨rB, 2, none⟩ = some (.int .i64 ((it : Nat) : Int)) ∧ w'.cell? ⟨rB, 3, none⟩ = some (.int .i64 sn) ∧ w'.heap[w.heap.size]? = wc.heap[w.heap.size]? ∧ w'.heap[lB]? = wc.heap[lB]?) (by kernel_rfl) ?_ (fun hHeld => ?_)
                                              · exact ⟨c2, c3, rfl, rfl⟩
                                              refine wpAnyH_take (i := 0) (v := (.int .i64 S)) rfl (by kernel_rfl) (by kernel_rfl) (by kernel_rfl) (fun _ _ _ h => h) (Or.inl ⟨by rfl, fun wy hSw => ?_⟩) hHeld ?_
                                              · obtain ⟨q1, q2, q3, q4⟩ := hSw
                                                go_simp
                                              simp only [Act.put, List.getElem_toArray, List.getElem_cons_zero, List.getElem_cons_succ, List.setIfInBounds_toArray, List.set_cons_zero, List.set_cons_succ]
                                              refine wpAnyH_take (i := 1) (v := (.bool true)) rfl (by kernel_rfl) (by kernel_rfl) (by kernel_rfl) (fun _ _ _ h => h) (Or.inl ⟨by rfl, fun wy hSw => ?_⟩) hHeld ?_
                                              · obtain ⟨q1, q2, q3, q4⟩ := hSw
                                                go_simp
                                              simp only [Act.put, List.getElem_toArray, List.getElem_cons_zero, List.getElem_cons_succ, List.setIfInBounds_toArray, List.set_cons_zero, List.set_cons_succ]
                                              refine wpAnyH_take (i := 2) (v := (.bool true)) rfl (by kernel_rfl) (by kernel_rfl) (by kernel_rfl) (fun _ _ _ h => h) (Or.inl ⟨by rfl, fun wy hSw => ?_⟩) hHeld ?_
                                              · obtain ⟨q1, q2, q3, q4⟩ := hSw
                                                go_simp
                                              simp only [Act.put, List.getElem_toArray, List.getElem_cons_zero, List.getElem_cons_succ, List.setIfInBounds_toArray, List.set_cons_zero, List.set_cons_succ]
                                              refine wpAnyH_take (i := 3) (v := (.map (some lB))) rfl (by kernel_rfl) (by kernel_rfl) (by kernel_rfl) (fun _ _ _ h => h) (Or.inl ⟨by rfl, fun wy hSw => ?_⟩) hHeld ?_
                                              · obtain ⟨q1, q2, q3, q4⟩ := hSw
                                                go_simp
                                              simp only [Act.put, List.getElem_toArray, List.getElem_cons_zero, List.getElem_cons_succ, List.setIfInBounds_toArray, List.set_cons_zero, List.set_cons_succ]
                                              refine wpAnyH_take (i := 4) (v := (.map (some w.heap.size))) rfl (by kernel_rfl) (by kernel_rfl) (by kernel_rfl) (fun _ _ _ h => h) (Or.inl ⟨by rfl, fun wy hSw => ?_⟩) hHeld ?_
                                              · obtain ⟨q1, q2, q3, q4⟩ := hSw
                                                go_simp
                                              simp only [Act.put, List.getElem_toArray, List.getElem_cons_zero, List.getElem_cons_succ, List.setIfInBounds_toArray, List.set_cons_zero, List.set_cons_succ]
                                              refine wpAnyH_take (i := 5) (v := (.int .i64 S)) rfl (by kernel_rfl) (by kernel_rfl) (by kernel_rfl) (fun _ _ _ h => h) (Or.inl ⟨by rfl, fun wy hSw => ?_⟩) hHeld ?_
                                              · obtain ⟨q1, q2, q3, q4⟩ := hSw
                                                go_simp
                                              simp only [Act.put, List.getElem_toArray, List.getElem_cons_zero, List.getElem_cons_succ, List.setIfInBounds_toArray, List.set_cons_zero, List.set_cons_succ]
                                              refine wpAnyH_take (i := 6) (v := (.int .i64 ((s0 : Nat) : Int))) rfl (by kernel_rfl) (by kernel_rfl) (by kernel_rfl) (fun _ _ _ h => h) (Or.inl ⟨by rfl, fun wy hSw => ?_⟩) hHeld ?_
                                              · obtain ⟨q1, q2, q3, q4⟩ := hSw
                                                have e6 := hl60 wy q3
                                                go_simp
                                              simp only [Act.put, List.getElem_toArray, List.getElem_cons_zero, List.getElem_cons_succ, List.setIfInBounds_toArray, List.set_cons_zero, List.set_cons_succ]
                                              refine wpAnyH_take (i := 7) (v := (.pointer (some ⟨rB, 2, none⟩))) rfl (by kernel_rfl) (by kernel_rfl) (by kernel_rfl) (fun _ _ _ h => h) (Or.inl ⟨by rfl, fun wy hSw => ?_⟩) hHeld ?_
                                              · obtain ⟨q1, q2, q3, q4⟩ := hSw
                                                go_simp
                                              simp only [Act.put, List.getElem_toArray, List.getElem_cons_zero, List.getElem_cons_succ, List.setIfInBounds_toArray, List.set_cons_zero, List.set_cons_succ]
                                              refine wpAnyH_take (i := 8) (v := (.int .i64 ((it : Nat) : Int))) rfl (by kernel_rfl) (by kernel_rfl) (by kernel_rfl) (fun _ _ _ h => h) (Or.inl ⟨by rfl, fun wy hSw => ?_⟩) hHeld ?_
                                              · obtain ⟨q1, q2, q3, q4⟩ := hSw
                                                go_simp
                                              simp only [Act.put, List.getElem_toArray, List.getElem_cons_zero, List.getElem_cons_succ, List.setIfInBounds_toArray, List.set_cons_zero, List.set_cons_succ]
                                              refine wpAnyH_take (i := 9) (v := (.agg #[.int .i64 ((s0 : Nat) : Int), .int .i64 ((it : Nat) : Int)])) rfl (by kernel_rfl) (by kernel_rfl) (by kernel_rfl) (fun _ _ _ h => h) (Or.inl ⟨by rfl, fun wy hSw => ?_⟩) hHeld ?_
                                              · obtain ⟨q1, q2, q3, q4⟩ := hSw
                                                go_simp
                                              simp only [Act.put, List.getElem_toArray, List.getElem_cons_zero, List.getElem_cons_succ, List.setIfInBounds_toArray, List.set_cons_zero, List.set_cons_succ]
                                              refine wpAnyH_take (i := 10) (v := (.int .i64 sn)) rfl (by kernel_rfl) (by kernel_rfl) (by kernel_rfl) (fun _ _ _ h => h) (Or.inl ⟨by rfl, fun wy hSw => ?_⟩) hHeld ?_
                                              · obtain ⟨q1, q2, q3, q4⟩ := hSw
                                                have e6 := hl97 wy q4
                                                go_simp
                                              simp only [Act.put, List.getElem_toArray, List.getElem_cons_zero, List.getElem_cons_succ, List.setIfInBounds_toArray, List.set_cons_zero, List.set_cons_succ]
                                              refine wpAnyH_take (i := 11) (v := (.pointer (some ⟨rB, 3, none⟩))) rfl (by kernel_rfl) (by kernel_rfl) (by kernel_rfl) (fun _ _ _ h => h) (Or.inl ⟨by rfl, fun wy hSw => ?_⟩) hHeld ?_
                                              · obtain ⟨q1, q2, q3, q4⟩ := hSw
                                                go_simp
                                              simp only [Act.put, List.getElem_toArray, List.getElem_cons_zero, List.getElem_cons_succ, List.setIfInBounds_toArray, List.set_cons_zero, List.set_cons_succ]
                                              refine wpAnyH_take (i := 12) (v := (.int .i64 sn)) rfl (by kernel_rfl) (by kernel_rfl) (by kernel_rfl) (fun _ _ _ h => h) (Or.inl ⟨by rfl, fun wy hSw => ?_⟩) hHeld ?_
                                              · obtain ⟨q1, q2, q3, q4⟩ := hSw
                                                go_simp
                                              simp only [Act.put, List.getElem_toArray, List.getElem_cons_zero, List.getElem_cons_succ, List.setIfInBounds_toArray, List.set_cons_zero, List.set_cons_succ]
                                              refine wpAnyH_take (i := 13) (v := (.bool false)) rfl (by kernel_rfl) (by kernel_rfl) (by kernel_rfl) (fun _ _ _ h => h) (Or.inl ⟨by rfl, fun wy hSw => ?_⟩) hHeld ?_
                                              · obtain ⟨q1, q2, q3, q4⟩ := hSw
                                                go_simp
                                              simp only [Act.put, List.getElem_toArray, List.getElem_cons_zero, List.getElem_cons_succ, List.setIfInBounds_toArray, List.set_cons_zero, List.set_cons_succ]
                                              refine wpAnyH_take (i := 14) (v := (.bool false)) rfl (by kernel_rfl) (by kernel_rfl) (by kernel_rfl) (fun _ _ _ h => h) (Or.inl ⟨by rfl, fun wy hSw => ?_⟩) hHeld ?_
                                              · obtain ⟨q1, q2, q3, q4⟩ := hSw
                                                go_simp
                                              simp only [Act.put, List.getElem_toArray, List.getElem_cons_zero, List.getElem_cons_succ, List.setIfInBounds_toArray, List.set_cons_zero, List.set_cons_succ]
                                              refine wpAnyH_done (by kernel_rfl) ?_ _
                                              clear hl60 hl97 hb1
                                              go_wp2
                                              go_meet
                                              exact ⟨rfl, HJ.out.drew HC.out.ok, HRC.out.of rfl⟩
                                      case rest =>
                                        as_aux_lemma =>
                                          obtain ⟨rfl, HJ2, HRC2⟩ := hcut
                                          clear HJ HRC c1 c2 c3 c4
                                          have c2 := HRC2.out.c2
                                          obtain ⟨z5, o5, ho5, -, hl5, -⟩ := HJ2.out.look2 HC.out (T := t) (y := it) (by rw [HN.out.vm]; omega) (by rw [HN.out.vn]; omega) (by rw [HN.out.vm]; omega) (by rw [HN.out.vn]; omega)
                                          have hl97 := hl5 wc rfl
                                          have HWR : Hid (V.wr j = o5) := by
                                            show V.wr j = o5
                                            rw [← HN.out.vn, lTo_end V (by rw [HN.out.vn]; omega), ← mem_row] at ho5
                                            unfold VIn.wr
                                            rw [Ht.out, Hit.out]
                                            cases o5
                                            · simp; exact fun h => by simpa using ho5.2 h
                                            · simp; exact ho5.1 rfl
                                          have hb1 := fun w => run_100 w (t : Int) (it : Int)
                                          have hb3 := fun w => run_103 w (t : Int) (it : Int) o5
                                          clear ho5 hl5
                                          go_upto_if 279 with fail
                                          clear hb1 hb3 hl97 c2
                                          have HVN := hidden (VrC.new wc t it (-1) o5)
                                          have HRC := hidden (HRC2.out.kept ((Below.refl wc.heap.size wc).alloc (Nat.le_refl _) (.cells #[.int .i64 (t : Int), .int .i64 (it : Int), .int .i64 (-1), .bool o5] 103)))
                                          have HJV : Hid (∃ f2 n2 ct v L, Nv C w f2 n2 ct v L (wc.alloc (.cells #[.int .i64 (t : Int), .int .i64 (it : Int), .int .i64 (-1), .bool o5] 103)) ∧ Hd C ct v ∧ Pl V st ni 0 j ni L f2 n2 ct ∧ C.base ≤ wc.heap.size ∧ ∀ i b, i < 3 * C.m + C.ni → (v i).ownBlock = some b → b ≠ wc.heap.size) := by
                                            obtain ⟨f2, n2, ct, v, L, g1, g2, g3⟩ := HJ2.out
                                            exact ⟨f2, n2, ct, v, L, g1.alloc HC.out.ok _, g2, g3, g1.sz, g1.old⟩
                                          obtain ⟨vr, hvr⟩ : ∃ b, wc.heap.size = b := ⟨_, rfl⟩
                                          obtain ⟨wr, hwr⟩ : ∃ w4, wc.alloc (.cells #[.int .i64 (t : Int), .int .i64 (it : Int), .int .i64 (-1), .bool o5] 103) = w4 := ⟨_, rfl⟩
                                          rw [hvr, hwr] at HVN HJV
                                          rw [hwr] at HRC
                                          rw [hvr, hwr]
                                          clear hvr hwr HJ2 HRC2
                                          obtain ⟨f2, n2, ct, v, L, g1, g2, g3, HVL, hvo⟩ := HJV.out
                                          have HVO2 := hidden hvo
                                          have HVL2 := hidden HVL
                                          clear HJV hvo HVL
                                          have HLR0 : Hid (L (C.m + C.ni + t) = V.reads t j) := by
                                            show L (C.m + C.ni + t) = _
                                            have h := g3.lr t (by rw [HN.out.vm]; omega)
                                            rw [HN.out.vm, HN.out.vn, ← HC.out.em, ← HC.out.eni] at h
                                            exact h
                                          have HIX : Hid (V.m + V.ni + t = C.m + C.ni + t) := by show V.m + V.ni + t = C.m + C.ni + t; rw [HN.out.vm, HN.out.vn, HC.out.em, HC.out.eni]
                                          have HG1 := hidden g1
                                          have HG2 := hidden g2
                                          have HG3 := hidden g3
                                          clear g1 g2 g3
                                          go_cut [] (fun wx => ∃ f2 n2 ct v L, Hid (Nv C w f2 n2 ct v L wx) ∧ Hid (Hd C ct v) ∧ Hid (L (C.m + C.ni + t) = V.reads t j) ∧ Hid (Pl V st ni 0 (j + 1) ni (at' L (C.m + C.ni + t) (L (C.m + C.ni + t) ++ [j])) f2 n2 ct) ∧ Hid (∀ b, (v (C.m + C.ni + t)).ownBlock = some b → b ≠ vr) ∧ Hid (VrC vr t it (V.srcZ j) o5 wx))
                                          case first =>
                                            as_aux_lemma =>
                                              cases hsrc : V.src j with
                                              | none =>
                                                have hS0 : S = 0 := by have h := HN.out.src0 hsrc; rw [Hit.out, Hsn.out, HS.out] at h; exact h
                                                clear HS HSX
                                                subst hS0
                                                have HSN := hidden hsrc
                                                clear hsrc
                                                have c2 := HRC.out.c2
                                                have hl9 : C.ln 9 = ni := HC.out.eni
                                                have G9 : wr.cell? ⟨gB, 9, none⟩ = some (.slice (some ⟨C.bk 9, 0, none⟩) ni ni) := by
                                                  have h := HG1.out.gcell 9 (by omega) (by omega)
                                                  rw [HC.out.eg, hl9] at h
                                                  exact h
                                                have hu9 := (HG1.out.row 9 (by omega) (by omega)).cell (i := it) (by rw [hl9]; exact hitn)
                                                rw [HG3.out.c9 it (by rw [HN.out.vn]; exact hitn)] at hu9
                                                have hf9 := (HG1.out.row 9 (by omega) (by omega)).frozen it
                                                obtain ⟨A, hA⟩ : ∃ a, V.armed it j = a := ⟨_, rfl⟩
                                                have hAb : A ≤ 1048576 := by
                                                  have h := cnt_le (fun i => !V.own i && decide (V.it i = it) && (V.src i).isNone) j
                                                  unfold VIn.armed at hA
                                                  omega
                                                rw [hA] at hu9
                                                have HAA := hidden hA
                                                clear hA hl9
                                                as_aux_lemma =>
                                                  go_wp2
                                                  go_region
                                                  go_wp2
                                                  go_meet
                                                  have hpl := HG3.out.init Hown.out HSN.out (by rw [Ht.out, HN.out.vm]; exact htk)
                                                  rw [Ht.out, Hit.out, HAA.out, HIX.out] at hpl
                                                  refine ⟨f2, n2, _, v, L, (HG1.out.set HC.out.ok (i := 9) (by omega) (by omega) it (.int .i64 ((A : Int) + 1))).drew HC.out.ok, HG2.out.other (by omega) (by omega) (by omega) (by omega) _, HLR0.out, hpl, fun b hb => HVO2.out _ b (by have h1 := HC.out.em; have h2 := HC.out.eni; omega) hb, ?_⟩
                                                  have hz : V.srcZ j = -1 := by unfold VIn.srcZ; rw [HSN.out]
                                                  rw [hz]
                                                  refine HVN.out.of ?_
                                                  exact Below.heap_setCell _ _ _ _ (by show vr ≠ C.bk 9; have h1 := (HC.out.ok.low 9 (by omega) (by omega)).2.1; have h2 := HVL2.out; omega)
                                              | some s0 =>
                                                obtain ⟨hs0k, hSs, -, -⟩ := HN.out.srcS hjn hsrc
                                                rw [Hit.out, Hsn.out, HS.out] at hSs
                                                have hsp := HN.out.i64 hs0k
                                                rw [← hSs] at hsp
                                                have hlk := Ivn.look (x := ni) (s := 0) (i := j) (fx := ni) ⟨f2, n2, ct, v, L, HG1.out, HG2.out, HG3.out⟩ HC.out HI.out hs0k (by rw [← hSs]; exact hsp)
                                                rw [← hSs] at hlk
                                                have HSO := hidden hsrc
                                                have hd5 : decide (S = 0) = false := by simp; omega
                                                have hd6 : (S == 0) = false := by simp; omega
                                                have hS0 : S ≠ 0 := by omega
                                                have w2c := HVN.out.c2
                                                have w2f := HVN.out.fz
                                                clear hsrc hSs
                                                go_upto_region 45 with fail
                                                have g1 := HG1.out.out HC.out.ok (a := ⟨vr, 2, none⟩) HVL2.out (fun i b hi hb => HVO2.out i b hi hb) (.int .i64 ((s0 : Nat) : Int))
                                                have HVC : Hid (VrC vr t it ((s0 : Nat) : Int) o5 (wr.setCell ⟨vr, 2, none⟩ (.int .i64 ((s0 : Nat) : Int)))) := HVN.out.set2
                                                obtain ⟨w5, hw5⟩ : ∃ w5, wr.setCell ⟨vr, 2, none⟩ (.int .i64 ((s0 : Nat) : Int)) = w5 := ⟨_, rfl⟩
                                                rw [hw5] at g1 HVC
                                                rw [hw5]
                                                clear hw5 hlk w2c w2f HVN HRC HG1 hd5 hd6 hS0
                                                clear wr
                                                obtain ⟨wr, hwr⟩ : ∃ wr, wr = w5 := ⟨_, rfl⟩
                                                subst hwr
                                                have g2 := HG2.out
                                                have hLS : L (2 * C.m + C.ni + s0) = V.seenBy s0 j := by
                                                  have h := HG3.out.ls s0 (by rw [HN.out.vm]; exact hs0k)
                                                  rw [show 2 * V.m + V.ni + s0 = 2 * C.m + C.ni + s0 from by rw [HN.out.vm, HN.out.vn, HC.out.em, HC.out.eni]] at h
                                                  exact h
                                                have HVB : Hid (vr ≠ C.bk 3) := by show vr ≠ C.bk 3; have h1 := (HC.out.ok.low 3 (by omega) (by omega)).2.1; have h2 := HVL2.out; omega
                                                have HCE : Hid (C.cell (2 * C.m + C.ni + s0) j = [.int .i64 ((t : Nat) : Int), .int .i64 ((it : Nat) : Int), .int .i64 ((s0 : Nat) : Int), .bool o5]) := by
                                                  show C.cell _ _ = _
                                                  unfold NvC.cell
                                                  rw [if_neg (by have h1 := HC.out.em; have h2 := HC.out.eni; omega), HC.out.erc]
                                                  unfold VIn.rcell VIn.srcZ
                                                  rw [HSO.out, Ht.out, Hit.out, HWR.out]
                                                have G3 : wr.cell? ⟨gB, 3, none⟩ = some (.slice (some ⟨C.bk 3, 0, none⟩) k k) := by
                                                  have h := g1.gcell 3 (by omega) (by omega)
                                                  rw [HC.out.eg] at h
                                                  have hl : C.ln 3 = k := HC.out.em
                                                  rw [hl] at h
                                                  exact h
                                                have HJJ : Hid (2 * C.m + C.ni + s0 < 3 * C.m + C.ni) := by show 2 * C.m + C.ni + s0 < 3 * C.m + C.ni; have h1 := HC.out.em; have h2 := HC.out.eni; omega
                                                have HET : Hid (C.eT (2 * C.m + C.ni + s0) = 103) := by show C.eT (2 * C.m + C.ni + s0) = 103; unfold NvC.eT; rw [if_neg (by have h1 := HC.out.em; have h2 := HC.out.eni; omega)]
                                                have HES : Hid (C.eS (2 * C.m + C.ni + s0) = 4) := by show C.eS (2 * C.m + C.ni + s0) = 4; unfold NvC.eS; rw [if_neg (by have h1 := HC.out.em; have h2 := HC.out.eni; omega)]
                                                have own := g1.fam.own (2 * C.m + C.ni + s0) HJJ.out
                                                rw [HET.out, HES.out] at own
                                                have hl3 : C.ln 3 = k := HC.out.em
                                                have hu3 := (g1.row 3 (by omega) (by omega)).cell (i := s0) (by rw [hl3]; omega)
                                                have hf3 := (g1.row 3 (by omega) (by omega)).frozen s0
                                                have hhd : ct 3 s0 = v (2 * C.m + C.ni + s0) := g2.h3 s0 (by have h1 := HC.out.em; have h2 := HC.out.eni; omega)
                                                rw [hhd] at hu3
                                                have hbs := g1.sz
                                                have hnL : (L (2 * C.m + C.ni + s0)).length ≤ 1000000000 := by
                                                  rw [hLS]
                                                  have h := seenBy_len V s0 j
                                                  omega
                                                obtain ⟨U, hU⟩ : ∃ U, v (2 * C.m + C.ni + s0) = U := ⟨_, rfl⟩
                                                obtain ⟨nL, hnl⟩ : ∃ n, (L (2 * C.m + C.ni + s0)).length = n := ⟨_, rfl⟩
                                                obtain ⟨xs, hxs⟩ : ∃ l, (L (2 * C.m + C.ni + s0)).flatMap (C.cell (2 * C.m + C.ni + s0)) = l := ⟨_, rfl⟩
                                                rw [hU, hnl, hxs] at own
                                                rw [hU] at hu3
                                                rw [hnl] at hnL
                                                have HG1 := hidden g1
                                                have HOW := hidden own
                                                have HU := hidden hU
                                                have HNL := hidden hnl
                                                have HXS := hidden hxs
                                                have HBS := hidden hbs
                                                clear g1 own hU hnl hxs hbs hl3 hhd
                                                have HVO : Hid (∀ b, U.ownBlock = some b → b ≠ vr) := fun b hb => HVO2.out _ b HJJ.out (by rw [HU.out]; exact hb)
                                                clear g2 hLS
                                                go_cut [] (fun wx => ∃ u, Hid (Nv C w f2 n2 (at' ct 3 (at' (ct 3) s0 u)) (at' v (2 * C.m + C.ni + s0) u) (at' L (2 * C.m + C.ni + s0) (L (2 * C.m + C.ni + s0) ++ [j])) wx) ∧ Hid (VrC vr t it ((s0 : Nat) : Int) o5 wx))
                                                case first =>
                                                  as_aux_lemma =>
                                                    have HO2 : Hid (((wr.alloc (Obj.cells #[Value.int IntKind.i64 ((t : Nat) : Int), Value.int IntKind.i64 ((it : Nat) : Int), Value.int IntKind.i64 ((s0 : Nat) : Int), Value.bool o5] 103)).drew).ownsRow C.base 103 4 U nL xs) := (HOW.out.alloc _).drew
                                                    have HB2 : Hid (C.base ≤ ((wr.alloc (Obj.cells #[Value.int IntKind.i64 ((t : Nat) : Int), Value.int IntKind.i64 ((it : Nat) : Int), Value.int IntKind.i64 ((s0 : Nat) : Int), Value.bool o5] 103)).drew).heap.size) := by show C.base ≤ (wr.alloc _).heap.size; have h := HBS.out; simp; omega
                                                    have HGB : Hid (gB < C.base) := by show gB < C.base; have h := HC.out.ok.g.2; rw [HC.out.eg] at h; exact h
                                                    have HBB : Hid (C.bk 3 < C.base) := (HC.out.ok.low 3 (by omega) (by omega)).2.1
                                                    have HNE : Hid (C.bk 3 ≠ gB) := by show C.bk 3 ≠ gB; have h := (HC.out.ok.low 3 (by omega) (by omega)).2.2.1; rw [HC.out.eg] at h; exact h
                                                    have HNW : Hid (((wr.alloc (Obj.cells #[Value.int IntKind.i64 ((t : Nat) : Int), Value.int IntKind.i64 ((it : Nat) : Int), Value.int IntKind.i64 ((s0 : Nat) : Int), Value.bool o5] 103)).drew).cell? ⟨gB, 3, none⟩ = some (.slice (some ⟨C.bk 3, 0, none⟩) k k)) := cellOld (w' := ((wr.alloc (Obj.cells #[Value.int IntKind.i64 ((t : Nat) : Int), Value.int IntKind.i64 ((it : Nat) : Int), Value.int IntKind.i64 ((s0 : Nat) : Int), Value.bool o5] 103)).drew)) (((Below.refl _ _).alloc (Nat.le_refl _) _).drew) G3
                                                    have HNU : Hid (((wr.alloc (Obj.cells #[Value.int IntKind.i64 ((t : Nat) : Int), Value.int IntKind.i64 ((it : Nat) : Int), Value.int IntKind.i64 ((s0 : Nat) : Int), Value.bool o5] 103)).drew).cell? ⟨C.bk 3, s0, none⟩ = some U) := cellOld (w' := ((wr.alloc (Obj.cells #[Value.int IntKind.i64 ((t : Nat) : Int), Value.int IntKind.i64 ((it : Nat) : Int), Value.int IntKind.i64 ((s0 : Nat) : Int), Value.bool o5] 103)).drew)) (((Below.refl _ _).alloc (Nat.le_refl _) _).drew) hu3
                                                    have HNF : Hid (((wr.alloc (Obj.cells #[Value.int IntKind.i64 ((t : Nat) : Int), Value.int IntKind.i64 ((it : Nat) : Int), Value.int IntKind.i64 ((s0 : Nat) : Int), Value.bool o5] 103)).drew).frozen? ⟨C.bk 3, s0, none⟩ = false) := frozenOld (wb := ((wr.alloc (Obj.cells #[Value.int IntKind.i64 ((t : Nat) : Int), Value.int IntKind.i64 ((it : Nat) : Int), Value.int IntKind.i64 ((s0 : Nat) : Int), Value.bool o5] 103)).drew)) (((Below.refl _ _).alloc (Nat.le_refl _) _).drew) (World.block_lt_of_cell? _ _ hu3) hf3
                                                    have HSS : Hid (wr.cell? ⟨gB, 3, none⟩ = some (.slice (some ⟨C.bk 3, 0, none⟩) k k) ∧ wr.cell? ⟨vr, 0, none⟩ = some (.int .i64 ((t : Nat) : Int)) ∧ wr.cell? ⟨vr, 1, none⟩ = some (.int .i64 ((it : Nat) : Int)) ∧ wr.cell? ⟨vr, 2, none⟩ = some (.int .i64 ((s0 : Nat) : Int)) ∧ wr.cell? ⟨vr, 3, none⟩ = some (.bool o5)) := ⟨G3, HVC.out.c0, HVC.out.c1, HVC.out.c2, HVC.out.c3⟩
                                                    have HSA : Hid (((wr.alloc (Obj.cells #[Value.int IntKind.i64 ((t : Nat) : Int), Value.int IntKind.i64 ((it : Nat) : Int), Value.int IntKind.i64 ((s0 : Nat) : Int), Value.bool o5] 103)).drew).cell? ⟨gB, 3, none⟩ = some (.slice (some ⟨C.bk 3, 0, none⟩) k k) ∧ ((wr.alloc (Obj.cells #[Value.int IntKind.i64 ((t : Nat) : Int), Value.int IntKind.i64 ((it : Nat) : Int), Value.int IntKind.i64 ((s0 : Nat) : Int), Value.bool o5] 103)).drew).cell? ⟨vr, 0, none⟩ = some (.int .i64 ((t : Nat) : Int)) ∧ ((wr.alloc (Obj.cells #[Value.int IntKind.i64 ((t : Nat) : Int), Value.int IntKind.i64 ((it : Nat) : Int), Value.int IntKind.i64 ((s0 : Nat) : Int), Value.bool o5] 103)).drew).cell? ⟨vr, 1, none⟩ = some (.int .i64 ((it : Nat) : Int)) ∧ ((wr.alloc (Obj.cells #[Value.int IntKind.i64 ((t : Nat) : Int), Value.int IntKind.i64 ((it : Nat) : Int), Value.int IntKind.i64 ((s0 : Nat) : Int), Value.bool o5] 103)).drew).cell? ⟨vr, 2, none⟩ = some (.int .i64 ((s0 : Nat) : Int)) ∧ ((wr.alloc (Obj.cells #[Value.int IntKind.i64 ((t : Nat) : Int), Value.int IntKind.i64 ((it : Nat) : Int), Value.int IntKind.i64 ((s0 : Nat) : Int), Value.bool o5] 103)).drew).cell? ⟨vr, 3, none⟩ = some (.bool o5)) := ⟨HNW.out, cellOld (w' := ((wr.alloc (Obj.cells #[Value.int IntKind.i64 ((t : Nat) : Int), Value.int IntKind.i64 ((it : Nat) : Int), Value.int IntKind.i64 ((s0 : Nat) : Int), Value.bool o5] 103)).drew)) (((Below.refl _ _).alloc (Nat.le_refl _) _).drew) HVC.out.c0, cellOld (w' := ((wr.alloc (Obj.cells #[Value.int IntKind.i64 ((t : Nat) : Int), Value.int IntKind.i64 ((it : Nat) : Int), Value.int IntKind.i64 ((s0 : Nat) : Int), Value.bool o5] 103)).drew)) (((Below.refl _ _).alloc (Nat.le_refl _) _).drew) HVC.out.c1, cellOld (w' := ((wr.alloc (Obj.cells #[Value.int IntKind.i64 ((t : Nat) : Int), Value.int IntKind.i64 ((it : Nat) : Int), Value.int IntKind.i64 ((s0 : Nat) : Int), Value.bool o5] 103)).drew)) (((Below.refl _ _).alloc (Nat.le_refl _) _).drew) HVC.out.c2, cellOld (w' := ((wr.alloc (Obj.cells #[Value.int IntKind.i64 ((t : Nat) : Int), Value.int IntKind.i64 ((it : Nat) : Int), Value.int IntKind.i64 ((s0 : Nat) : Int), Value.bool o5] 103)).drew)) (((Below.refl _ _).alloc (Nat.le_refl _) _).drew) HVC.out.c3⟩
                                                    refine wp_region_held_drew (S := fun w' => w'.cell? ⟨gB, 3, none⟩ = some (.slice (some ⟨C.bk 3, 0, none⟩) k k) ∧ w'.cell? ⟨vr, 0, none⟩ = some (.int .i64 ((t : Nat) : Int)) ∧ w'.cell? ⟨vr, 1, none⟩ = some (.int .i64 ((it : Nat) : Int)) ∧ w'.cell? ⟨vr, 2, none⟩ = some (.int .i64 ((s0 : Nat) : Int)) ∧ w'.cell? ⟨vr, 3, none⟩ = some (.bool o5)) (by kernel_rfl) ?_ (fun hHeld => ?_)
                                                    · exact HSS.out
                                                    refine wpAnyH_take (i := 0) (v := (.pointer (some ⟨gB, 0, none⟩))) rfl (by kernel_rfl) (by kernel_rfl) (by kernel_rfl) (fun _ _ _ h => h) (Or.inl ⟨by rfl, fun w hSw => ?_⟩) hHeld ?_
                                                    · obtain ⟨q1, q2, q3, q4, q5⟩ := hSw
                                                      go_simp
                                                    simp only [Act.put, List.getElem_toArray, List.getElem_cons_zero, List.getElem_cons_succ, List.setIfInBounds_toArray, List.set_cons_zero, List.set_cons_succ]
                                                    refine wpAnyH_take (i := 1) (v := (.pointer (some ⟨gB, 0, none⟩))) rfl (by kernel_rfl) (by kernel_rfl) (by kernel_rfl) (fun _ _ _ h => h) (Or.inl ⟨by rfl, fun w hSw => ?_⟩) hHeld ?_
                                                    · obtain ⟨q1, q2, q3, q4, q5⟩ := hSw
                                                      go_simp
                                                    simp only [Act.put, List.getElem_toArray, List.getElem_cons_zero, List.getElem_cons_succ, List.setIfInBounds_toArray, List.set_cons_zero, List.set_cons_succ]
                                                    refine wpAnyH_take (i := 2) (v := (.pointer (some ⟨gB, 3, none⟩))) rfl (by kernel_rfl) (by kernel_rfl) (by kernel_rfl) (fun _ _ _ h => h) (Or.inl ⟨by rfl, fun w hSw => ?_⟩) hHeld ?_
                                                    · obtain ⟨q1, q2, q3, q4, q5⟩ := hSw
                                                      go_simp
                                                    simp only [Act.put, List.getElem_toArray, List.getElem_cons_zero, List.getElem_cons_succ, List.setIfInBounds_toArray, List.set_cons_zero, List.set_cons_succ]
                                                    refine wpAnyH_take (i := 3) (v := (.slice (some ⟨C.bk 3, 0, none⟩) k k)) rfl (by kernel_rfl) (by kernel_rfl) (by kernel_rfl) (fun _ _ _ h => h) (Or.inl ⟨by rfl, fun w hSw => ?_⟩) hHeld ?_
                                                    · obtain ⟨q1, q2, q3, q4, q5⟩ := hSw
                                                      go_simp
                                                    simp only [Act.put, List.getElem_toArray, List.getElem_cons_zero, List.getElem_cons_succ, List.setIfInBounds_toArray, List.set_cons_zero, List.set_cons_succ]
                                                    refine wpAnyH_take (i := 4) (v := (.pointer (some ⟨vr, 2, none⟩))) rfl (by kernel_rfl) (by kernel_rfl) (by kernel_rfl) (fun _ _ _ h => h) (Or.inl ⟨by rfl, fun w hSw => ?_⟩) hHeld ?_
                                                    · obtain ⟨q1, q2, q3, q4, q5⟩ := hSw
                                                      go_simp
                                                    simp only [Act.put, List.getElem_toArray, List.getElem_cons_zero, List.getElem_cons_succ, List.setIfInBounds_toArray, List.set_cons_zero, List.set_cons_succ]
                                                    refine wpAnyH_take (i := 5) (v := (.int .i64 ((s0 : Nat) : Int))) rfl (by kernel_rfl) (by kernel_rfl) (by kernel_rfl) (fun _ _ _ h => h) (Or.inl ⟨by rfl, fun w hSw => ?_⟩) hHeld ?_
                                                    · obtain ⟨q1, q2, q3, q4, q5⟩ := hSw
                                                      go_simp
                                                    simp only [Act.put, List.getElem_toArray, List.getElem_cons_zero, List.getElem_cons_succ, List.setIfInBounds_toArray, List.set_cons_zero, List.set_cons_succ]
                                                    refine wpAnyH_take (i := 6) (v := (.pointer (some ⟨gB, 0, none⟩))) rfl (by kernel_rfl) (by kernel_rfl) (by kernel_rfl) (fun _ _ _ h => h) (Or.inl ⟨by rfl, fun w hSw => ?_⟩) hHeld ?_
                                                    · obtain ⟨q1, q2, q3, q4, q5⟩ := hSw
                                                      go_simp
                                                    simp only [Act.put, List.getElem_toArray, List.getElem_cons_zero, List.getElem_cons_succ, List.setIfInBounds_toArray, List.set_cons_zero, List.set_cons_succ]
                                                    refine wpAnyH_take (i := 7) (v := (.pointer (some ⟨gB, 0, none⟩))) rfl (by kernel_rfl) (by kernel_rfl) (by kernel_rfl) (fun _ _ _ h => h) (Or.inl ⟨by rfl, fun w hSw => ?_⟩) hHeld ?_
                                                    · obtain ⟨q1, q2, q3, q4, q5⟩ := hSw
                                                      go_simp
                                                    simp only [Act.put, List.getElem_toArray, List.getElem_cons_zero, List.getElem_cons_succ, List.setIfInBounds_toArray, List.set_cons_zero, List.set_cons_succ]
                                                    refine wpAnyH_take (i := 8) (v := (.pointer (some ⟨gB, 3, none⟩))) rfl (by kernel_rfl) (by kernel_rfl) (by kernel_rfl) (fun _ _ _ h => h) (Or.inl ⟨by rfl, fun w hSw => ?_⟩) hHeld ?_
                                                    · obtain ⟨q1, q2, q3, q4, q5⟩ := hSw
                                                      go_simp
                                                    simp only [Act.put, List.getElem_toArray, List.getElem_cons_zero, List.getElem_cons_succ, List.setIfInBounds_toArray, List.set_cons_zero, List.set_cons_succ]
                                                    refine wpAnyH_take (i := 9) (v := (.slice (some ⟨C.bk 3, 0, none⟩) k k)) rfl (by kernel_rfl) (by kernel_rfl) (by kernel_rfl) (fun _ _ _ h => h) (Or.inl ⟨by rfl, fun w hSw => ?_⟩) hHeld ?_
                                                    · obtain ⟨q1, q2, q3, q4, q5⟩ := hSw
                                                      go_simp
                                                    simp only [Act.put, List.getElem_toArray, List.getElem_cons_zero, List.getElem_cons_succ, List.setIfInBounds_toArray, List.set_cons_zero, List.set_cons_succ]
                                                    refine wpAnyH_take (i := 10) (v := (.pointer (some ⟨vr, 2, none⟩))) rfl (by kernel_rfl) (by kernel_rfl) (by kernel_rfl) (fun _ _ _ h => h) (Or.inl ⟨by rfl, fun w hSw => ?_⟩) hHeld ?_
                                                    · obtain ⟨q1, q2, q3, q4, q5⟩ := hSw
                                                      go_simp
                                                    simp only [Act.put, List.getElem_toArray, List.getElem_cons_zero, List.getElem_cons_succ, List.setIfInBounds_toArray, List.set_cons_zero, List.set_cons_succ]
                                                    refine wpAnyH_take (i := 11) (v := (.int .i64 ((s0 : Nat) : Int))) rfl (by kernel_rfl) (by kernel_rfl) (by kernel_rfl) (fun _ _ _ h => h) (Or.inl ⟨by rfl, fun w hSw => ?_⟩) hHeld ?_
                                                    · obtain ⟨q1, q2, q3, q4, q5⟩ := hSw
                                                      go_simp
                                                    simp only [Act.put, List.getElem_toArray, List.getElem_cons_zero, List.getElem_cons_succ, List.setIfInBounds_toArray, List.set_cons_zero, List.set_cons_succ]
                                                    refine wpAnyH_take (i := 12) (v := (.pointer (some ⟨C.bk 3, s0, none⟩))) rfl (by kernel_rfl) (by kernel_rfl) (by kernel_rfl) (fun _ _ _ h => h) (Or.inl ⟨by rfl, fun w hSw => ?_⟩) hHeld ?_
                                                    · obtain ⟨q1, q2, q3, q4, q5⟩ := hSw
                                                      go_simp
                                                    simp only [Act.put, List.getElem_toArray, List.getElem_cons_zero, List.getElem_cons_succ, List.setIfInBounds_toArray, List.set_cons_zero, List.set_cons_succ]
                                                    refine wpAnyH_take (i := 14) (v := (.agg #[Value.int IntKind.i64 ((t : Nat) : Int), Value.int IntKind.i64 ((it : Nat) : Int), Value.int IntKind.i64 ((s0 : Nat) : Int), Value.bool o5])) rfl (by kernel_rfl) (by kernel_rfl) (by kernel_rfl) (fun _ _ _ h => h) (Or.inl ⟨by rfl, fun w hSw => ?_⟩) hHeld ?_
                                                    · obtain ⟨q1, q2, q3, q4, q5⟩ := hSw
                                                      go_simp
                                                    simp only [Act.put, List.getElem_toArray, List.getElem_cons_zero, List.getElem_cons_succ, List.setIfInBounds_toArray, List.set_cons_zero, List.set_cons_succ]
                                                    refine wpAnyH_ready (rs := [13, 15]) (by kernel_rfl) (by simp) ?_
                                                    refine AllReadyH.cons rfl (fun K hK => ?_) (AllReadyH.cons rfl (fun K hK => ?_) AllReadyH.nil)
                                                    · go_simp
                                                      refine hK.out _ _ HSS.out (fun hS0 => ?_)
                                                      clear hK K
                                                      refine wpAnyH_ready (rs := [15]) (by kernel_rfl) (by simp) ?_
                                                      refine AllReadyH.cons rfl (fun K hK => ?_) AllReadyH.nil
                                                      go_simp
                                                      refine hK.out _ _ HSA.out (fun hS1 => ?_)
                                                      clear hK K
                                                      refine wpAnyH_ready (rs := [16]) (by kernel_rfl) (by simp) ?_
                                                      refine AllReadyH.cons rfl (fun K hK => ?_) AllReadyH.nil
                                                      refine step_vr _ rfl (.tmp 307) (.tmp 309) rfl C.base HB2.out U nL xs rfl HO2.out wr.heap.size ((t : Nat) : Int) ((it : Nat) : Int) ((s0 : Nat) : Int) o5 (new_cell4 wr _ _ _ _).1 (new_cell4 wr _ _ _ _).2.1 (new_cell4 wr _ _ _ _).2.2.1 (new_cell4 wr _ _ _ _).2.2.2 rfl hnL (fun v' w' h1 h2 h3 => ?_)
                                                      obtain ⟨a9, c9, hv9⟩ : ∃ a c, v' = .slice a (nL + 1) c := ⟨_, _, own_form h1⟩
                                                      subst hv9
                                                      have HA1 := hidden h1
                                                      have HA2 := hidden h2
                                                      have HA3 := h3
                                                      clear h1 h2 h3
                                                      have HVN : Hid (some vr ≠ U.ownBlock) := fun e => HVO.out vr e.symm rfl
                                                      have hvk : w'.heap[vr]? = (((wr.alloc (Obj.cells #[Value.int IntKind.i64 ((t : Nat) : Int), Value.int IntKind.i64 ((it : Nat) : Int), Value.int IntKind.i64 ((s0 : Nat) : Int), Value.bool o5] 103)).drew)).heap[vr]? := HA2.out.block vr (World.block_lt_of_cell? _ _ HSA.out.2.1) HVN.out
                                                      have HVW : Hid (VrC vr t it ((s0 : Nat) : Int) o5 w') := (HVC.out.of (w' := ((wr.alloc (Obj.cells #[Value.int IntKind.i64 ((t : Nat) : Int), Value.int IntKind.i64 ((it : Nat) : Int), Value.int IntKind.i64 ((s0 : Nat) : Int), Value.bool o5] 103)).drew)) (Below.heap_alloc _ _ _ HVC.out.lt)).of hvk
                                                      have HS2 : Hid (w'.cell? ⟨gB, 3, none⟩ = some (.slice (some ⟨C.bk 3, 0, none⟩) k k) ∧ w'.cell? ⟨vr, 0, none⟩ = some (.int .i64 ((t : Nat) : Int)) ∧ w'.cell? ⟨vr, 1, none⟩ = some (.int .i64 ((it : Nat) : Int)) ∧ w'.cell? ⟨vr, 2, none⟩ = some (.int .i64 ((s0 : Nat) : Int)) ∧ w'.cell? ⟨vr, 3, none⟩ = some (.bool o5)) := ⟨grown_cell HO2.out HA2.out HB2.out HGB.out HNW.out, HVW.out.c0, HVW.out.c1, HVW.out.c2, HVW.out.c3⟩
                                                      have hcu : w'.cell? ⟨C.bk 3, s0, none⟩ = some U := grown_cell HO2.out HA2.out HB2.out HBB.out HNU.out
                                                      have hcf : w'.frozen? ⟨C.bk 3, s0, none⟩ = false := grown_frozen HO2.out HA2.out HB2.out HBB.out HNF.out
                                                      clear hvk
                                                      refine hK.out _ _ HS2.out (fun hS3 => ?_)
                                                      clear hK K
                                                      simp only [Act.put, List.getElem_toArray, List.getElem_cons_zero, List.getElem_cons_succ, List.setIfInBounds_toArray, List.set_cons_zero, List.set_cons_succ]
                                                      refine wpAnyH_take (i := 17) (v := (.pointer (some ⟨C.bk 3, s0, none⟩))) rfl (by kernel_rfl) (by kernel_rfl) (by kernel_rfl) (fun _ _ _ h => h) (Or.inl ⟨by rfl, fun w hSw => ?_⟩) hS3 ?_
                                                      · obtain ⟨q1, q2, q3, q4, q5⟩ := hSw
                                                        go_simp
                                                      simp only [Act.put, List.getElem_toArray, List.getElem_cons_zero, List.getElem_cons_succ, List.setIfInBounds_toArray, List.set_cons_zero, List.set_cons_succ]
                                                      refine wpAnyH_ready (rs := [18]) (by kernel_rfl) (by simp) ?_
                                                      refine AllReadyH.cons rfl (fun K hK => ?_) AllReadyH.nil
                                                      go_simp
                                                      have HVX : Hid (VrC vr t it ((s0 : Nat) : Int) o5 (w'.setCell ⟨C.bk 3, s0, none⟩ (.slice a9 (nL + 1) c9))) := HVW.out.of (Below.heap_setCell _ _ _ _ HVB.out)
                                                      have hS4 : (w'.setCell ⟨C.bk 3, s0, none⟩ (.slice a9 (nL + 1) c9)).cell? ⟨gB, 3, none⟩ = some (.slice (some ⟨C.bk 3, 0, none⟩) k k) := (World.cell?_setCell_far _ _ _ _ HNE.out).trans HS2.out.1
                                                      refine hK.out _ _ ⟨hS4, HVX.out.c0, HVX.out.c1, HVX.out.c2, HVX.out.c3⟩ (fun hS5 => ?_)
                                                      clear hK K
                                                      refine wpAnyH_done (by kernel_rfl) ?_ _
                                                      clear hcu hcf hS3 hS4 hS5
                                                      go_wp2
                                                      go_meet
                                                      exact ⟨_, nv_app_set HC.out.ok HG1.out HJJ.out HU.out HET.out HES.out HNL.out HXS.out HCE.out (by omega) (by omega) HA1.out HA2.out HA3.out, HVX⟩
                                                    · go_simp
                                                      refine hK.out _ _ HSA.out (fun hS0 => ?_)
                                                      clear hK K
                                                      refine wpAnyH_ready (rs := [13]) (by kernel_rfl) (by simp) ?_
                                                      refine AllReadyH.cons rfl (fun K hK => ?_) AllReadyH.nil
                                                      have hnu2 := HNU.out
                                                      go_simp
                                                      clear hnu2
                                                      refine hK.out _ _ HSA.out (fun hS1 => ?_)
                                                      clear hK K
                                                      refine wpAnyH_ready (rs := [16]) (by kernel_rfl) (by simp) ?_
                                                      refine AllReadyH.cons rfl (fun K hK => ?_) AllReadyH.nil
                                                      refine step_vr _ rfl (.tmp 307) (.tmp 309) rfl C.base HB2.out U nL xs rfl HO2.out wr.heap.size ((t : Nat) : Int) ((it : Nat) : Int) ((s0 : Nat) : Int) o5 (new_cell4 wr _ _ _ _).1 (new_cell4 wr _ _ _ _).2.1 (new_cell4 wr _ _ _ _).2.2.1 (new_cell4 wr _ _ _ _).2.2.2 rfl hnL (fun v' w' h1 h2 h3 => ?_)
                                                      obtain ⟨a9, c9, hv9⟩ : ∃ a c, v' = .slice a (nL + 1) c := ⟨_, _, own_form h1⟩
                                                      subst hv9
                                                      have HA1 := hidden h1
                                                      have HA2 := hidden h2
                                                      have HA3 := h3
                                                      clear h1 h2 h3
                                                      have HVN : Hid (some vr ≠ U.ownBlock) := fun e => HVO.out vr e.symm rfl
                                                      have hvk : w'.heap[vr]? = (((wr.alloc (Obj.cells #[Value.int IntKind.i64 ((t : Nat) : Int), Value.int IntKind.i64 ((it : Nat) : Int), Value.int IntKind.i64 ((s0 : Nat) : Int), Value.bool o5] 103)).drew)).heap[vr]? := HA2.out.block vr (World.block_lt_of_cell? _ _ HSA.out.2.1) HVN.out
                                                      have HVW : Hid (VrC vr t it ((s0 : Nat) : Int) o5 w') := (HVC.out.of (w' := ((wr.alloc (Obj.cells #[Value.int IntKind.i64 ((t : Nat) : Int), Value.int IntKind.i64 ((it : Nat) : Int), Value.int IntKind.i64 ((s0 : Nat) : Int), Value.bool o5] 103)).drew)) (Below.heap_alloc _ _ _ HVC.out.lt)).of hvk
                                                      have HS2 : Hid (w'.cell? ⟨gB, 3, none⟩ = some (.slice (some ⟨C.bk 3, 0, none⟩) k k) ∧ w'.cell? ⟨vr, 0, none⟩ = some (.int .i64 ((t : Nat) : Int)) ∧ w'.cell? ⟨vr, 1, none⟩ = some (.int .i64 ((it : Nat) : Int)) ∧ w'.cell? ⟨vr, 2, none⟩ = some (.int .i64 ((s0 : Nat) : Int)) ∧ w'.cell? ⟨vr, 3, none⟩ = some (.bool o5)) := ⟨grown_cell HO2.out HA2.out HB2.out HGB.out HNW.out, HVW.out.c0, HVW.out.c1, HVW.out.c2, HVW.out.c3⟩
                                                      have hcu : w'.cell? ⟨C.bk 3, s0, none⟩ = some U := grown_cell HO2.out HA2.out HB2.out HBB.out HNU.out
                                                      have hcf : w'.frozen? ⟨C.bk 3, s0, none⟩ = false := grown_frozen HO2.out HA2.out HB2.out HBB.out HNF.out
                                                      clear hvk
                                                      refine hK.out _ _ HS2.out (fun hS3 => ?_)
                                                      clear hK K
                                                      simp only [Act.put, List.getElem_toArray, List.getElem_cons_zero, List.getElem_cons_succ, List.setIfInBounds_toArray, List.set_cons_zero, List.set_cons_succ]
                                                      refine wpAnyH_take (i := 17) (v := (.pointer (some ⟨C.bk 3, s0, none⟩))) rfl (by kernel_rfl) (by kernel_rfl) (by kernel_rfl) (fun _ _ _ h => h) (Or.inl ⟨by rfl, fun w hSw => ?_⟩) hS3 ?_
                                                      · obtain ⟨q1, q2, q3, q4, q5⟩ := hSw
                                                        go_simp
                                                      simp only [Act.put, List.getElem_toArray, List.getElem_cons_zero, List.getElem_cons_succ, List.setIfInBounds_toArray, List.set_cons_zero, List.set_cons_succ]
                                                      refine wpAnyH_ready (rs := [18]) (by kernel_rfl) (by simp) ?_
                                                      refine AllReadyH.cons rfl (fun K hK => ?_) AllReadyH.nil
                                                      go_simp
                                                      have HVX : Hid (VrC vr t it ((s0 : Nat) : Int) o5 (w'.setCell ⟨C.bk 3, s0, none⟩ (.slice a9 (nL + 1) c9))) := HVW.out.of (Below.heap_setCell _ _ _ _ HVB.out)
                                                      have hS4 : (w'.setCell ⟨C.bk 3, s0, none⟩ (.slice a9 (nL + 1) c9)).cell? ⟨gB, 3, none⟩ = some (.slice (some ⟨C.bk 3, 0, none⟩) k k) := (World.cell?_setCell_far _ _ _ _ HNE.out).trans HS2.out.1
                                                      refine hK.out _ _ ⟨hS4, HVX.out.c0, HVX.out.c1, HVX.out.c2, HVX.out.c3⟩ (fun hS5 => ?_)
                                                      clear hK K
                                                      refine wpAnyH_done (by kernel_rfl) ?_ _
                                                      clear hcu hcf hS3 hS4 hS5
                                                      go_wp2
                                                      go_meet
                                                      exact ⟨_, nv_app_set HC.out.ok HG1.out HJJ.out HU.out HET.out HES.out HNL.out HXS.out HCE.out (by omega) (by omega) HA1.out HA2.out HA3.out, HVX⟩
                                                case rest =>
                                                  as_aux_lemma =>
                                                    obtain ⟨u5, HQ, HVX⟩ := hcut
                                                    clear HG1 HU HNL HXS HBS HOW G3 hu3 hf3 hnL HVC
                                                    have hl8 : C.ln 8 = k := HC.out.em
                                                    have G8 : wc.cell? ⟨gB, 8, none⟩ = some (.slice (some ⟨C.bk 8, 0, none⟩) k k) := by
                                                      have h := HQ.out.gcell 8 (by omega) (by omega)
                                                      rw [HC.out.eg, hl8] at h
                                                      exact h
                                                    have hu8 := (HQ.out.row 8 (by omega) (by omega)).cell (i := t) (by rw [hl8]; exact htk)
                                                    rw [at'_other _ _ (by omega), HG3.out.c8 t (by rw [HN.out.vm]; exact htk)] at hu8
                                                    have hf8 := (HQ.out.row 8 (by omega) (by omega)).frozen t
                                                    obtain ⟨A, hA⟩ : ∃ a, V.pending t j = a := ⟨_, rfl⟩
                                                    have hAb : A ≤ 1048576 := by
                                                      have h := cnt_le (fun i => !V.own i && decide (V.rt i = t) && (V.src i).isSome) j
                                                      unfold VIn.pending at hA
                                                      omega
                                                    rw [hA] at hu8
                                                    have HAP := hidden hA
                                                    clear hA hl8
                                                    as_aux_lemma =>
                                                      go_wp2
                                                      go_meet
                                                      have hpl := (HG3.out.seen Hown.out HSO.out (by rw [Ht.out, HN.out.vm]; exact htk) (by rw [HN.out.vm]; exact hs0k)).hdr (j := 3) (by omega) (by omega) (at' (ct 3) s0 u5)
                                                      rw [Ht.out, HAP.out, HIX.out, show 2 * V.m + V.ni + s0 = 2 * C.m + C.ni + s0 from by rw [HN.out.vm, HN.out.vn, HC.out.em, HC.out.eni]] at hpl
                                                      have hne : C.m + C.ni + t ≠ 2 * C.m + C.ni + s0 := by have h1 := HC.out.em; omega
                                                      have hct : at' (at' ct 8 (at' (ct 8) t (.int .i64 ((A : Int) + 1)))) 3 (at' (ct 3) s0 u5) = at' (at' ct 3 (at' (ct 3) s0 u5)) 8 (at' ((at' ct 3 (at' (ct 3) s0 u5)) 8) t (.int .i64 ((A : Int) + 1))) := by
                                                        funext q
                                                        by_cases e8 : q = 8
                                                        · subst e8; rw [at'_other _ _ (by omega), at'_same, at'_same, at'_other _ _ (by omega)]
                                                        · by_cases e3 : q = 3
                                                          · subst e3; rw [at'_same, at'_other _ _ (by omega), at'_same]
                                                          · rw [at'_other _ _ e3, at'_other _ _ e8, at'_other _ _ e8, at'_other _ _ e3]
                                                      rw [hct] at hpl
                                                      refine ⟨f2, n2, _, _, _, HQ.out.set HC.out.ok (i := 8) (by omega) (by omega) t (.int .i64 ((A : Int) + 1)), (HG2.out.set3 (by rw [HC.out.em]; exact hs0k) u5).other (by omega) (by omega) (by omega) (by omega) _, ?_, hpl, fun b hb => ?_, ?_⟩
                                                      · show at' L _ _ _ = _
                                                        rw [at'_other _ _ hne]; exact HLR0.out
                                                      · rw [at'_other _ _ hne] at hb
                                                        exact HVO2.out _ b (by have h1 := HC.out.em; have h2 := HC.out.eni; omega) hb
                                                      · have hz : V.srcZ j = ((s0 : Nat) : Int) := by unfold VIn.srcZ; rw [HSO.out]
                                                        rw [hz]
                                                        refine HVX.out.of ?_
                                                        exact Below.heap_setCell _ _ _ _ (by show vr ≠ C.bk 8; have h1 := (HC.out.ok.low 8 (by omega) (by omega)).2.1; have h2 := HVL2.out; omega)
                                          case rest =>
                                            as_aux_lemma =>
                                              clear HG1 HG2 HG3 HLR0 HVO2 HVN HRC
                                              clear v L ct f2 n2
                                              obtain ⟨f2, n2, ct, v, L, HG1, HG2, HLR1, HPL, HVO3, HVC0⟩ := hcut
                                              have hLR := HLR1.out
                                              obtain ⟨Z, hZ⟩ : ∃ Z, V.srcZ j = Z := ⟨_, rfl⟩
                                              have HVC : Hid (VrC vr t it Z o5 wc) := by have h := HVC0.out; rw [hZ] at h; exact h
                                              have HCE : Hid (C.cell (C.m + C.ni + t) j = [.int .i64 ((t : Nat) : Int), .int .i64 ((it : Nat) : Int), .int .i64 Z, .bool o5]) := by
                                                show C.cell _ _ = _
                                                unfold NvC.cell
                                                rw [if_neg (by have h1 := HC.out.em; have h2 := HC.out.eni; omega), HC.out.erc]
                                                unfold VIn.rcell
                                                rw [hZ, Ht.out, Hit.out, HWR.out]
                                              have HVB : Hid (vr ≠ C.bk 2) := by show vr ≠ C.bk 2; have h1 := (HC.out.ok.low 2 (by omega) (by omega)).2.1; have h2 := HVL2.out; omega
                                              clear hZ HVC0
                                              clear wr
                                              obtain ⟨wr, hwr⟩ : ∃ wr, wr = wc := ⟨_, rfl⟩
                                              subst hwr
                                              have g1 := HG1.out
                                              have g2 := HG2.out
                                              clear HG1
                                              have G2 : wr.cell? ⟨gB, 2, none⟩ = some (.slice (some ⟨C.bk 2, 0, none⟩) k k) := by
                                                have h := g1.gcell 2 (by omega) (by omega)
                                                rw [HC.out.eg] at h
                                                have hl : C.ln 2 = k := HC.out.em
                                                rw [hl] at h
                                                exact h
                                              have HJJ : Hid (C.m + C.ni + t < 3 * C.m + C.ni) := by show C.m + C.ni + t < 3 * C.m + C.ni; have h1 := HC.out.em; have h2 := HC.out.eni; omega
                                              have HET : Hid (C.eT (C.m + C.ni + t) = 103) := by show C.eT (C.m + C.ni + t) = 103; unfold NvC.eT; rw [if_neg (by have h1 := HC.out.em; have h2 := HC.out.eni; omega)]
                                              have HES : Hid (C.eS (C.m + C.ni + t) = 4) := by show C.eS (C.m + C.ni + t) = 4; unfold NvC.eS; rw [if_neg (by have h1 := HC.out.em; have h2 := HC.out.eni; omega)]
                                              have own := g1.fam.own (C.m + C.ni + t) HJJ.out
                                              rw [HET.out, HES.out] at own
                                              have hl2 : C.ln 2 = k := HC.out.em
                                              have hu2 := (g1.row 2 (by omega) (by omega)).cell (i := t) (by rw [hl2]; omega)
                                              have hf2 := (g1.row 2 (by omega) (by omega)).frozen t
                                              have hhd : ct 2 t = v (C.m + C.ni + t) := g2.h2 t (by have h1 := HC.out.em; have h2 := HC.out.eni; omega)
                                              rw [hhd] at hu2
                                              have hbs := g1.sz
                                              have hnL : (L (C.m + C.ni + t)).length ≤ 1000000000 := by
                                                rw [hLR]
                                                have h := reads_len V t j
                                                omega
                                              obtain ⟨U, hU⟩ : ∃ U, v (C.m + C.ni + t) = U := ⟨_, rfl⟩
                                              obtain ⟨nL, hnl⟩ : ∃ n, (L (C.m + C.ni + t)).length = n := ⟨_, rfl⟩
                                              obtain ⟨xs, hxs⟩ : ∃ l, (L (C.m + C.ni + t)).flatMap (C.cell (C.m + C.ni + t)) = l := ⟨_, rfl⟩
                                              rw [hU, hnl, hxs] at own
                                              rw [hU] at hu2
                                              rw [hnl] at hnL
                                              have HG1 := hidden g1
                                              have HOW := hidden own
                                              have HU := hidden hU
                                              have HNL := hidden hnl
                                              have HXS := hidden hxs
                                              have HBS := hidden hbs
                                              clear g1 own hU hnl hxs hbs hl2 hhd
                                              have HVO : Hid (∀ b, U.ownBlock = some b → b ≠ vr) := fun b hb => HVO3.out b (by rw [HU.out]; exact hb)
                                              have HNBD : Hid (¬ V.Bad j) := by
                                                rintro (h | ⟨-, s0, h1, h2⟩)
                                                · rw [Hown.out, Ht.out] at h
                                                  have h3 : V.src j = some t := by
                                                    refine Classical.byContradiction (fun e => h ?_)
                                                    simp [e]
                                                  exact HNS.out h3
                                                · rw [Hit.out, Hsn.out] at h2
                                                  exact HMS.out ⟨s0, h1, h2⟩
                                              clear g2 hLR
                                              go_upto_region 47 with fail
                                              as_aux_lemma =>
                                                have HO2 : Hid (((wr.alloc (Obj.cells #[Value.int IntKind.i64 ((t : Nat) : Int), Value.int IntKind.i64 ((it : Nat) : Int), Value.int IntKind.i64 Z, Value.bool o5] 103)).drew).ownsRow C.base 103 4 U nL xs) := (HOW.out.alloc _).drew
                                                have HB2 : Hid (C.base ≤ ((wr.alloc (Obj.cells #[Value.int IntKind.i64 ((t : Nat) : Int), Value.int IntKind.i64 ((it : Nat) : Int), Value.int IntKind.i64 Z, Value.bool o5] 103)).drew).heap.size) := by show C.base ≤ (wr.alloc _).heap.size; have h := HBS.out; simp; omega
                                                have HGB : Hid (gB < C.base) := by show gB < C.base; have h := HC.out.ok.g.2; rw [HC.out.eg] at h; exact h
                                                have HBB : Hid (C.bk 2 < C.base) := (HC.out.ok.low 2 (by omega) (by omega)).2.1
                                                have HNE : Hid (C.bk 2 ≠ gB) := by show C.bk 2 ≠ gB; have h := (HC.out.ok.low 2 (by omega) (by omega)).2.2.1; rw [HC.out.eg] at h; exact h
                                                have HNW : Hid (((wr.alloc (Obj.cells #[Value.int IntKind.i64 ((t : Nat) : Int), Value.int IntKind.i64 ((it : Nat) : Int), Value.int IntKind.i64 Z, Value.bool o5] 103)).drew).cell? ⟨gB, 2, none⟩ = some (.slice (some ⟨C.bk 2, 0, none⟩) k k)) := cellOld (w' := ((wr.alloc (Obj.cells #[Value.int IntKind.i64 ((t : Nat) : Int), Value.int IntKind.i64 ((it : Nat) : Int), Value.int IntKind.i64 Z, Value.bool o5] 103)).drew)) (((Below.refl _ _).alloc (Nat.le_refl _) _).drew) G2
                                                have HNU : Hid (((wr.alloc (Obj.cells #[Value.int IntKind.i64 ((t : Nat) : Int), Value.int IntKind.i64 ((it : Nat) : Int), Value.int IntKind.i64 Z, Value.bool o5] 103)).drew).cell? ⟨C.bk 2, t, none⟩ = some U) := cellOld (w' := ((wr.alloc (Obj.cells #[Value.int IntKind.i64 ((t : Nat) : Int), Value.int IntKind.i64 ((it : Nat) : Int), Value.int IntKind.i64 Z, Value.bool o5] 103)).drew)) (((Below.refl _ _).alloc (Nat.le_refl _) _).drew) hu2
                                                have HNF : Hid (((wr.alloc (Obj.cells #[Value.int IntKind.i64 ((t : Nat) : Int), Value.int IntKind.i64 ((it : Nat) : Int), Value.int IntKind.i64 Z, Value.bool o5] 103)).drew).frozen? ⟨C.bk 2, t, none⟩ = false) := frozenOld (wb := ((wr.alloc (Obj.cells #[Value.int IntKind.i64 ((t : Nat) : Int), Value.int IntKind.i64 ((it : Nat) : Int), Value.int IntKind.i64 Z, Value.bool o5] 103)).drew)) (((Below.refl _ _).alloc (Nat.le_refl _) _).drew) (World.block_lt_of_cell? _ _ hu2) hf2
                                                have HSS : Hid (wr.cell? ⟨gB, 2, none⟩ = some (.slice (some ⟨C.bk 2, 0, none⟩) k k) ∧ wr.cell? ⟨vr, 0, none⟩ = some (.int .i64 ((t : Nat) : Int)) ∧ wr.cell? ⟨vr, 1, none⟩ = some (.int .i64 ((it : Nat) : Int)) ∧ wr.cell? ⟨vr, 2, none⟩ = some (.int .i64 Z) ∧ wr.cell? ⟨vr, 3, none⟩ = some (.bool o5)) := ⟨G2, HVC.out.c0, HVC.out.c1, HVC.out.c2, HVC.out.c3⟩
                                                have HSA : Hid (((wr.alloc (Obj.cells #[Value.int IntKind.i64 ((t : Nat) : Int), Value.int IntKind.i64 ((it : Nat) : Int), Value.int IntKind.i64 Z, Value.bool o5] 103)).drew).cell? ⟨gB, 2, none⟩ = some (.slice (some ⟨C.bk 2, 0, none⟩) k k) ∧ ((wr.alloc (Obj.cells #[Value.int IntKind.i64 ((t : Nat) : Int), Value.int IntKind.i64 ((it : Nat) : Int), Value.int IntKind.i64 Z, Value.bool o5] 103)).drew).cell? ⟨vr, 0, none⟩ = some (.int .i64 ((t : Nat) : Int)) ∧ ((wr.alloc (Obj.cells #[Value.int IntKind.i64 ((t : Nat) : Int), Value.int IntKind.i64 ((it : Nat) : Int), Value.int IntKind.i64 Z, Value.bool o5] 103)).drew).cell? ⟨vr, 1, none⟩ = some (.int .i64 ((it : Nat) : Int)) ∧ ((wr.alloc (Obj.cells #[Value.int IntKind.i64 ((t : Nat) : Int), Value.int IntKind.i64 ((it : Nat) : Int), Value.int IntKind.i64 Z, Value.bool o5] 103)).drew).cell? ⟨vr, 2, none⟩ = some (.int .i64 Z) ∧ ((wr.alloc (Obj.cells #[Value.int IntKind.i64 ((t : Nat) : Int), Value.int IntKind.i64 ((it : Nat) : Int), Value.int IntKind.i64 Z, Value.bool o5] 103)).drew).cell? ⟨vr, 3, none⟩ = some (.bool o5)) := ⟨HNW.out, cellOld (w' := ((wr.alloc (Obj.cells #[Value.int IntKind.i64 ((t : Nat) : Int), Value.int IntKind.i64 ((it : Nat) : Int), Value.int IntKind.i64 Z, Value.bool o5] 103)).drew)) (((Below.refl _ _).alloc (Nat.le_refl _) _).drew) HVC.out.c0, cellOld (w' := ((wr.alloc (Obj.cells #[Value.int IntKind.i64 ((t : Nat) : Int), Value.int IntKind.i64 ((it : Nat) : Int), Value.int IntKind.i64 Z, Value.bool o5] 103)).drew)) (((Below.refl _ _).alloc (Nat.le_refl _) _).drew) HVC.out.c1, cellOld (w' := ((wr.alloc (Obj.cells #[Value.int IntKind.i64 ((t : Nat) : Int), Value.int IntKind.i64 ((it : Nat) : Int), Value.int IntKind.i64 Z, Value.bool o5] 103)).drew)) (((Below.refl _ _).alloc (Nat.le_refl _) _).drew) HVC.out.c2, cellOld (w' := ((wr.alloc (Obj.cells #[Value.int IntKind.i64 ((t : Nat) : Int), Value.int IntKind.i64 ((it : Nat) : Int), Value.int IntKind.i64 Z, Value.bool o5] 103)).drew)) (((Below.refl _ _).alloc (Nat.le_refl _) _).drew) HVC.out.c3⟩
                                                refine wp_region_held_drew (S := fun w' => w'.cell? ⟨gB, 2, none⟩ = some (.slice (some ⟨C.bk 2, 0, none⟩) k k) ∧ w'.cell? ⟨vr, 0, none⟩ = some (.int .i64 ((t : Nat) : Int)) ∧ w'.cell? ⟨vr, 1, none⟩ = some (.int .i64 ((it : Nat) : Int)) ∧ w'.cell? ⟨vr, 2, none⟩ = some (.int .i64 Z) ∧ w'.cell? ⟨vr, 3, none⟩ = some (.bool o5)) (by kernel_rfl) ?_ (fun hHeld => ?_)
                                                · exact HSS.out
                                                refine wpAnyH_take (i := 0) (v := (.pointer (some ⟨gB, 0, none⟩))) rfl (by kernel_rfl) (by kernel_rfl) (by kernel_rfl) (fun _ _ _ h => h) (Or.inl ⟨by rfl, fun w hSw => ?_⟩) hHeld ?_
                                                · obtain ⟨q1, q2, q3, q4, q5⟩ := hSw
                                                  go_simp
                                                simp only [Act.put, List.getElem_toArray, List.getElem_cons_zero, List.getElem_cons_succ, List.setIfInBounds_toArray, List.set_cons_zero, List.set_cons_succ]
                                                refine wpAnyH_take (i := 1) (v := (.pointer (some ⟨gB, 0, none⟩))) rfl (by kernel_rfl) (by kernel_rfl) (by kernel_rfl) (fun _ _ _ h => h) (Or.inl ⟨by rfl, fun w hSw => ?_⟩) hHeld ?_
                                                · obtain ⟨q1, q2, q3, q4, q5⟩ := hSw
                                                  go_simp
                                                simp only [Act.put, List.getElem_toArray, List.getElem_cons_zero, List.getElem_cons_succ, List.setIfInBounds_toArray, List.set_cons_zero, List.set_cons_succ]
                                                refine wpAnyH_take (i := 2) (v := (.pointer (some ⟨gB, 2, none⟩))) rfl (by kernel_rfl) (by kernel_rfl) (by kernel_rfl) (fun _ _ _ h => h) (Or.inl ⟨by rfl, fun w hSw => ?_⟩) hHeld ?_
                                                · obtain ⟨q1, q2, q3, q4, q5⟩ := hSw
                                                  go_simp
                                                simp only [Act.put, List.getElem_toArray, List.getElem_cons_zero, List.getElem_cons_succ, List.setIfInBounds_toArray, List.set_cons_zero, List.set_cons_succ]
                                                refine wpAnyH_take (i := 3) (v := (.slice (some ⟨C.bk 2, 0, none⟩) k k)) rfl (by kernel_rfl) (by kernel_rfl) (by kernel_rfl) (fun _ _ _ h => h) (Or.inl ⟨by rfl, fun w hSw => ?_⟩) hHeld ?_
                                                · obtain ⟨q1, q2, q3, q4, q5⟩ := hSw
                                                  go_simp
                                                simp only [Act.put, List.getElem_toArray, List.getElem_cons_zero, List.getElem_cons_succ, List.setIfInBounds_toArray, List.set_cons_zero, List.set_cons_succ]
                                                refine wpAnyH_take (i := 4) (v := (.int .i64 ((t : Nat) : Int))) rfl (by kernel_rfl) (by kernel_rfl) (by kernel_rfl) (fun _ _ _ h => h) (Or.inl ⟨by rfl, fun w hSw => ?_⟩) hHeld ?_
                                                · obtain ⟨q1, q2, q3, q4, q5⟩ := hSw
                                                  go_simp
                                                simp only [Act.put, List.getElem_toArray, List.getElem_cons_zero, List.getElem_cons_succ, List.setIfInBounds_toArray, List.set_cons_zero, List.set_cons_succ]
                                                refine wpAnyH_take (i := 5) (v := (.pointer (some ⟨gB, 0, none⟩))) rfl (by kernel_rfl) (by kernel_rfl) (by kernel_rfl) (fun _ _ _ h => h) (Or.inl ⟨by rfl, fun w hSw => ?_⟩) hHeld ?_
                                                · obtain ⟨q1, q2, q3, q4, q5⟩ := hSw
                                                  go_simp
                                                simp only [Act.put, List.getElem_toArray, List.getElem_cons_zero, List.getElem_cons_succ, List.setIfInBounds_toArray, List.set_cons_zero, List.set_cons_succ]
                                                refine wpAnyH_take (i := 6) (v := (.pointer (some ⟨gB, 0, none⟩))) rfl (by kernel_rfl) (by kernel_rfl) (by kernel_rfl) (fun _ _ _ h => h) (Or.inl ⟨by rfl, fun w hSw => ?_⟩) hHeld ?_
                                                · obtain ⟨q1, q2, q3, q4, q5⟩ := hSw
                                                  go_simp
                                                simp only [Act.put, List.getElem_toArray, List.getElem_cons_zero, List.getElem_cons_succ, List.setIfInBounds_toArray, List.set_cons_zero, List.set_cons_succ]
                                                refine wpAnyH_take (i := 7) (v := (.pointer (some ⟨gB, 2, none⟩))) rfl (by kernel_rfl) (by kernel_rfl) (by kernel_rfl) (fun _ _ _ h => h) (Or.inl ⟨by rfl, fun w hSw => ?_⟩) hHeld ?_
                                                · obtain ⟨q1, q2, q3, q4, q5⟩ := hSw
                                                  go_simp
                                                simp only [Act.put, List.getElem_toArray, List.getElem_cons_zero, List.getElem_cons_succ, List.setIfInBounds_toArray, List.set_cons_zero, List.set_cons_succ]
                                                refine wpAnyH_take (i := 8) (v := (.slice (some ⟨C.bk 2, 0, none⟩) k k)) rfl (by kernel_rfl) (by kernel_rfl) (by kernel_rfl) (fun _ _ _ h => h) (Or.inl ⟨by rfl, fun w hSw => ?_⟩) hHeld ?_
                                                · obtain ⟨q1, q2, q3, q4, q5⟩ := hSw
                                                  go_simp
                                                simp only [Act.put, List.getElem_toArray, List.getElem_cons_zero, List.getElem_cons_succ, List.setIfInBounds_toArray, List.set_cons_zero, List.set_cons_succ]
                                                refine wpAnyH_take (i := 9) (v := (.int .i64 ((t : Nat) : Int))) rfl (by kernel_rfl) (by kernel_rfl) (by kernel_rfl) (fun _ _ _ h => h) (Or.inl ⟨by rfl, fun w hSw => ?_⟩) hHeld ?_
                                                · obtain ⟨q1, q2, q3, q4, q5⟩ := hSw
                                                  go_simp
                                                simp only [Act.put, List.getElem_toArray, List.getElem_cons_zero, List.getElem_cons_succ, List.setIfInBounds_toArray, List.set_cons_zero, List.set_cons_succ]
                                                refine wpAnyH_take (i := 10) (v := (.pointer (some ⟨C.bk 2, t, none⟩))) rfl (by kernel_rfl) (by kernel_rfl) (by kernel_rfl) (fun _ _ _ h => h) (Or.inl ⟨by rfl, fun w hSw => ?_⟩) hHeld ?_
                                                · obtain ⟨q1, q2, q3, q4, q5⟩ := hSw
                                                  go_simp
                                                simp only [Act.put, List.getElem_toArray, List.getElem_cons_zero, List.getElem_cons_succ, List.setIfInBounds_toArray, List.set_cons_zero, List.set_cons_succ]
                                                refine wpAnyH_take (i := 12) (v := (.agg #[Value.int IntKind.i64 ((t : Nat) : Int), Value.int IntKind.i64 ((it : Nat) : Int), Value.int IntKind.i64 Z, Value.bool o5])) rfl (by kernel_rfl) (by kernel_rfl) (by kernel_rfl) (fun _ _ _ h => h) (Or.inl ⟨by rfl, fun w hSw => ?_⟩) hHeld ?_
                                                · obtain ⟨q1, q2, q3, q4, q5⟩ := hSw
                                                  go_simp
                                                simp only [Act.put, List.getElem_toArray, List.getElem_cons_zero, List.getElem_cons_succ, List.setIfInBounds_toArray, List.set_cons_zero, List.set_cons_succ]
                                                refine wpAnyH_ready (rs := [11, 13]) (by kernel_rfl) (by simp) ?_
                                                refine AllReadyH.cons rfl (fun K hK => ?_) (AllReadyH.cons rfl (fun K hK => ?_) AllReadyH.nil)
                                                · go_simp
                                                  refine hK.out _ _ HSS.out (fun hS0 => ?_)
                                                  clear hK K
                                                  refine wpAnyH_ready (rs := [13]) (by kernel_rfl) (by simp) ?_
                                                  refine AllReadyH.cons rfl (fun K hK => ?_) AllReadyH.nil
                                                  go_simp
                                                  refine hK.out _ _ HSA.out (fun hS1 => ?_)
                                                  clear hK K
                                                  refine wpAnyH_ready (rs := [14]) (by kernel_rfl) (by simp) ?_
                                                  refine AllReadyH.cons rfl (fun K hK => ?_) AllReadyH.nil
                                                  refine step_vr _ rfl (.tmp 332) (.tmp 334) rfl C.base HB2.out U nL xs rfl HO2.out wr.heap.size ((t : Nat) : Int) ((it : Nat) : Int) Z o5 (new_cell4 wr _ _ _ _).1 (new_cell4 wr _ _ _ _).2.1 (new_cell4 wr _ _ _ _).2.2.1 (new_cell4 wr _ _ _ _).2.2.2 rfl hnL (fun v' w' h1 h2 h3 => ?_)
                                                  obtain ⟨a9, c9, hv9⟩ : ∃ a c, v' = .slice a (nL + 1) c := ⟨_, _, own_form h1⟩
                                                  subst hv9
                                                  have HA1 := hidden h1
                                                  have HA2 := hidden h2
                                                  have HA3 := h3
                                                  clear h1 h2 h3
                                                  have HVN : Hid (some vr ≠ U.ownBlock) := fun e => HVO.out vr e.symm rfl
                                                  have hvk : w'.heap[vr]? = (((wr.alloc (Obj.cells #[Value.int IntKind.i64 ((t : Nat) : Int), Value.int IntKind.i64 ((it : Nat) : Int), Value.int IntKind.i64 Z, Value.bool o5] 103)).drew)).heap[vr]? := HA2.out.block vr (World.block_lt_of_cell? _ _ HSA.out.2.1) HVN.out
                                                  have HVW : Hid (VrC vr t it Z o5 w') := (HVC.out.of (w' := ((wr.alloc (Obj.cells #[Value.int IntKind.i64 ((t : Nat) : Int), Value.int IntKind.i64 ((it : Nat) : Int), Value.int IntKind.i64 Z, Value.bool o5] 103)).drew)) (Below.heap_alloc _ _ _ HVC.out.lt)).of hvk
                                                  have HS2 : Hid (w'.cell? ⟨gB, 2, none⟩ = some (.slice (some ⟨C.bk 2, 0, none⟩) k k) ∧ w'.cell? ⟨vr, 0, none⟩ = some (.int .i64 ((t : Nat) : Int)) ∧ w'.cell? ⟨vr, 1, none⟩ = some (.int .i64 ((it : Nat) : Int)) ∧ w'.cell? ⟨vr, 2, none⟩ = some (.int .i64 Z) ∧ w'.cell? ⟨vr, 3, none⟩ = some (.bool o5)) := ⟨grown_cell HO2.out HA2.out HB2.out HGB.out HNW.out, HVW.out.c0, HVW.out.c1, HVW.out.c2, HVW.out.c3⟩
                                                  have hcu : w'.cell? ⟨C.bk 2, t, none⟩ = some U := grown_cell HO2.out HA2.out HB2.out HBB.out HNU.out
                                                  have hcf : w'.frozen? ⟨C.bk 2, t, none⟩ = false := grown_frozen HO2.out HA2.out HB2.out HBB.out HNF.out
                                                  clear hvk
                                                  refine hK.out _ _ HS2.out (fun hS3 => ?_)
                                                  clear hK K
                                                  simp only [Act.put, List.getElem_toArray, List.getElem_cons_zero, List.getElem_cons_succ, List.setIfInBounds_toArray, List.set_cons_zero, List.set_cons_succ]
                                                  refine wpAnyH_take (i := 15) (v := (.pointer (some ⟨C.bk 2, t, none⟩))) rfl (by kernel_rfl) (by kernel_rfl) (by kernel_rfl) (fun _ _ _ h => h) (Or.inl ⟨by rfl, fun w hSw => ?_⟩) hS3 ?_
                                                  · obtain ⟨q1, q2, q3, q4, q5⟩ := hSw
                                                    go_simp
                                                  simp only [Act.put, List.getElem_toArray, List.getElem_cons_zero, List.getElem_cons_succ, List.setIfInBounds_toArray, List.set_cons_zero, List.set_cons_succ]
                                                  refine wpAnyH_ready (rs := [16]) (by kernel_rfl) (by simp) ?_
                                                  refine AllReadyH.cons rfl (fun K hK => ?_) AllReadyH.nil
                                                  go_simp
                                                  have HVX : Hid (VrC vr t it Z o5 (w'.setCell ⟨C.bk 2, t, none⟩ (.slice a9 (nL + 1) c9))) := HVW.out.of (Below.heap_setCell _ _ _ _ HVB.out)
                                                  have hS4 : (w'.setCell ⟨C.bk 2, t, none⟩ (.slice a9 (nL + 1) c9)).cell? ⟨gB, 2, none⟩ = some (.slice (some ⟨C.bk 2, 0, none⟩) k k) := (World.cell?_setCell_far _ _ _ _ HNE.out).trans HS2.out.1
                                                  refine hK.out _ _ ⟨hS4, HVX.out.c0, HVX.out.c1, HVX.out.c2, HVX.out.c3⟩ (fun hS5 => ?_)
                                                  clear hK K
                                                  refine wpAnyH_done (by kernel_rfl) ?_ _
                                                  clear hcu hcf hS3 hS4 hS5
                                                  go_wp2
                                                  go_roundg (gk - 1)
                                                  case measure => omega
                                                  case rel =>
                                                    refine ⟨rfl, rfl, j + 1, by omega, by go_num, ⟨f2, n2, _, _, _, nv_app_set HC.out.ok HG1.out HJJ.out HU.out HET.out HES.out HNL.out HXS.out HCE.out (by omega) (by omega) HA1.out HA2.out HA3.out, HG2.out.set2 (by rw [HC.out.em]; exact htk) _, HPL.out.hdr (by omega) (by omega) _⟩, fun i' hi' => ?_⟩
                                                    by_cases e : i' = j
                                                    · subst e; exact HNBD.out
                                                    · exact HG.out i' (by omega)
                                                · go_simp
                                                  refine hK.out _ _ HSA.out (fun hS0 => ?_)
                                                  clear hK K
                                                  refine wpAnyH_ready (rs := [11]) (by kernel_rfl) (by simp) ?_
                                                  refine AllReadyH.cons rfl (fun K hK => ?_) AllReadyH.nil
                                                  have hnu2 := HNU.out
                                                  go_simp
                                                  clear hnu2
                                                  refine hK.out _ _ HSA.out (fun hS1 => ?_)
                                                  clear hK K
                                                  refine wpAnyH_ready (rs := [14]) (by kernel_rfl) (by simp) ?_
                                                  refine AllReadyH.cons rfl (fun K hK => ?_) AllReadyH.nil
                                                  refine step_vr _ rfl (.tmp 332) (.tmp 334) rfl C.base HB2.out U nL xs rfl HO2.out wr.heap.size ((t : Nat) : Int) ((it : Nat) : Int) Z o5 (new_cell4 wr _ _ _ _).1 (new_cell4 wr _ _ _ _).2.1 (new_cell4 wr _ _ _ _).2.2.1 (new_cell4 wr _ _ _ _).2.2.2 rfl hnL (fun v' w' h1 h2 h3 => ?_)
                                                  obtain ⟨a9, c9, hv9⟩ : ∃ a c, v' = .slice a (nL + 1) c := ⟨_, _, own_form h1⟩
                                                  subst hv9
                                                  have HA1 := hidden h1
                                                  have HA2 := hidden h2
                                                  have HA3 := h3
                                                  clear h1 h2 h3
                                                  have HVN : Hid (some vr ≠ U.ownBlock) := fun e => HVO.out vr e.symm rfl
                                                  have hvk : w'.heap[vr]? = (((wr.alloc (Obj.cells #[Value.int IntKind.i64 ((t : Nat) : Int), Value.int IntKind.i64 ((it : Nat) : Int), Value.int IntKind.i64 Z, Value.bool o5] 103)).drew)).heap[vr]? := HA2.out.block vr (World.block_lt_of_cell? _ _ HSA.out.2.1) HVN.out
                                                  have HVW : Hid (VrC vr t it Z o5 w') := (HVC.out.of (w' := ((wr.alloc (Obj.cells #[Value.int IntKind.i64 ((t : Nat) : Int), Value.int IntKind.i64 ((it : Nat) : Int), Value.int IntKind.i64 Z, Value.bool o5] 103)).drew)) (Below.heap_alloc _ _ _ HVC.out.lt)).of hvk
                                                  have HS2 : Hid (w'.cell? ⟨gB, 2, none⟩ = some (.slice (some ⟨C.bk 2, 0, none⟩) k k) ∧ w'.cell? ⟨vr, 0, none⟩ = some (.int .i64 ((t : Nat) : Int)) ∧ w'.cell? ⟨vr, 1, none⟩ = some (.int .i64 ((it : Nat) : Int)) ∧ w'.cell? ⟨vr, 2, none⟩ = some (.int .i64 Z) ∧ w'.cell? ⟨vr, 3, none⟩ = some (.bool o5)) := ⟨grown_cell HO2.out HA2.out HB2.out HGB.out HNW.out, HVW.out.c0, HVW.out.c1, HVW.out.c2, HVW.out.c3⟩
                                                  have hcu : w'.cell? ⟨C.bk 2, t, none⟩ = some U := grown_cell HO2.out HA2.out HB2.out HBB.out HNU.out
                                                  have hcf : w'.frozen? ⟨C.bk 2, t, none⟩ = false := grown_frozen HO2.out HA2.out HB2.out HBB.out HNF.out
                                                  clear hvk
                                                  refine hK.out _ _ HS2.out (fun hS3 => ?_)
                                                  clear hK K
                                                  simp only [Act.put, List.getElem_toArray, List.getElem_cons_zero, List.getElem_cons_succ, List.setIfInBounds_toArray, List.set_cons_zero, List.set_cons_succ]
                                                  refine wpAnyH_take (i := 15) (v := (.pointer (some ⟨C.bk 2, t, none⟩))) rfl (by kernel_rfl) (by kernel_rfl) (by kernel_rfl) (fun _ _ _ h => h) (Or.inl ⟨by rfl, fun w hSw => ?_⟩) hS3 ?_
                                                  · obtain ⟨q1, q2, q3, q4, q5⟩ := hSw
                                                    go_simp
                                                  simp only [Act.put, List.getElem_toArray, List.getElem_cons_zero, List.getElem_cons_succ, List.setIfInBounds_toArray, List.set_cons_zero, List.set_cons_succ]
                                                  refine wpAnyH_ready (rs := [16]) (by kernel_rfl) (by simp) ?_
                                                  refine AllReadyH.cons rfl (fun K hK => ?_) AllReadyH.nil
                                                  go_simp
                                                  have HVX : Hid (VrC vr t it Z o5 (w'.setCell ⟨C.bk 2, t, none⟩ (.slice a9 (nL + 1) c9))) := HVW.out.of (Below.heap_setCell _ _ _ _ HVB.out)
                                                  have hS4 : (w'.setCell ⟨C.bk 2, t, none⟩ (.slice a9 (nL + 1) c9)).cell? ⟨gB, 2, none⟩ = some (.slice (some ⟨C.bk 2, 0, none⟩) k k) := (World.cell?_setCell_far _ _ _ _ HNE.out).trans HS2.out.1
                                                  refine hK.out _ _ ⟨hS4, HVX.out.c0, HVX.out.c1, HVX.out.c2, HVX.out.c3⟩ (fun hS5 => ?_)
                                                  clear hK K
                                                  refine wpAnyH_done (by kernel_rfl) ?_ _
                                                  clear hcu hcf hS3 hS4 hS5
                                                  go_wp2
                                                  go_roundg (gk - 1)
                                                  case measure => omega
                                                  case rel =>
                                                    refine ⟨rfl, rfl, j + 1, by omega, by go_num, ⟨f2, n2, _, _, _, nv_app_set HC.out.ok HG1.out HJJ.out HU.out HET.out HES.out HNL.out HXS.out HCE.out (by omega) (by omega) HA1.out HA2.out HA3.out, HG2.out.set2 (by rw [HC.out.em]; exact htk) _, HPL.out.hdr (by omega) (by omega) _⟩, fun i' hi' => ?_⟩
                                                    by_cases e : i' = j
                                                    · subst e; exact HNBD.out
                                                    · exact HG.out i' (by omega)
                          · have e : j = nr := by omega
                            subst e
                            go_wp2
                            go_returns
                            refine ⟨HJ.out.bel HC.out, .inr ?_⟩
                            obtain ⟨f2, n2, ct, v, L, g1, g2, g3⟩ := HJ.out
                            have hvr := HN.out.vr
                            rw [← hvr] at g3
                            rw [HST.out]
                            exact ⟨gB, C.bk, _, _, _, _, _, _, _, _, rfl, HG.out, fun w'' hz hk => nv_end HC.out HN.out.vm HN.out.vn HN.out.fits (by rw [HN.out.vm]; exact bm) (by rw [HN.out.vn]; exact bn) (by rw [HN.out.vr]; exact br) (fun t => by rw [← HST.out]; exact stF_i64 op pn bp pn t) g1 g2 g3 hz hk⟩

end Go.Proofs.Qxb6603374a
