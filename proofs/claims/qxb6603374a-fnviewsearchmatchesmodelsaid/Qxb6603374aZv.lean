/- The contract of ZZNewViewSearch. -/
import Derived.Test.Qxb6603374aNvs
import Derived.Test.Qxb6603374aZvMem
namespace Go.Proofs.Qxb6603374a
open Go.ChangeShapes Go.WideShapes Go.ChangeAt Go.RowKit

attribute [-go_sem] Instr.build
set_option linter.unusedSimpArgs false in
set_option maxRecDepth 100000 in
set_option maxHeartbeats 20000000 in
theorem zv_any (pa xa ia oa ta ma sa wa : Option Addr) (pn m ni nr pc xc ic oc tc mc sc wc : Nat) (ira : Nat → Option Addr) (irc : Nat → Nat) (IR : Nat → List Int) (ops txns ro rt ri rs : List Int) (bs : List Bool) (R0 : Nat) (w : World)
    (hZ : ZvIn pa xa ia oa ta ma sa wa pn m ni nr ira irc IR ops txns ro rt ri rs bs w) (bp : pn ≤ 1048576) (bm : m ≤ 1048576) (bn : ni ≤ 1048576) (br : nr ≤ 1048576) (hR : w.heap.size = R0) :
    Calls Try.prog 23 #[.slice pa pn pc, .slice xa m xc, .slice ia ni ic, .slice oa nr oc, .slice ta nr tc, .slice ma nr mc, .slice sa nr sc, .slice wa nr wc] w fun e w' => ZvPost (vinOf txns ni IR rt ri rs bs) (stF (opOf ops txns) pn pn) xa xc w e w' := by
  have HZ := hidden hZ
  have hm1 := run_make_op pn bp
  clear hZ
  have HR0 := hidden (z41_row w)
  go_enter Try.func23, Try.ntmps23
  go_wp2
  go_loopg [18] pn (fun q i wr => ∃ k : Nat, k + q = pn ∧ i = .int .i64 (k : Int) ∧ Hid (OpRow (R0 + 1) pn ops k wr) ∧ Hid (wr.rowIs R0 41 18 z41) ∧ Hid (Below R0 w wr) ∧ wr.heap.size = R0 + 2)
  case atStart =>
    refine ⟨0, by omega, rfl, ?_, ?_, ?_, ?_⟩
    · obtain ⟨f, hf⟩ := rowIs_made_any (w.alloc (.cells #[.bool false, .bool false, .slice none 0 0, .slice none 0 0, .slice none 0 0, .slice none 0 0, .slice none 0 0, .slice none 0 0, .slice none 0 0, .slice none 0 0, .slice none 0 0, .slice none 0 0, .slice none 0 0, .slice none 0 0, .slice none 0 0, .slice none 0 0, .slice none 0 0, .slice none 0 0] 41)) z73 (pn * 4) 73
      have e : (w.alloc (.cells #[.bool false, .bool false, .slice none 0 0, .slice none 0 0, .slice none 0 0, .slice none 0 0, .slice none 0 0, .slice none 0 0, .slice none 0 0, .slice none 0 0, .slice none 0 0, .slice none 0 0, .slice none 0 0, .slice none 0 0, .slice none 0 0, .slice none 0 0, .slice none 0 0, .slice none 0 0] 41)).heap.size = R0 + 1 := by simp [hR]
      rw [e] at hf
      exact ⟨f, hf, fun i hi => absurd hi (Nat.not_lt_zero _)⟩
    · have h := HR0.out; rw [hR] at h; exact h.alloc _
    · exact ((Below.refl _ _).alloc (by omega) _).alloc (by simp; omega) _
    · simp [hR]
  case round =>
    as_aux_lemma =>
      clear HR0
      obtain ⟨k, hkq, rfl, HO, HR1, HB, hsz⟩ := hrel
      have HBw : Hid (Below w.heap.size w wr) := by show Below w.heap.size w wr; rw [hR]; exact HB.out
      by_cases hlt : (k : Int) < pn
      · obtain ⟨b, o, hra, hc, -⟩ := HZ.out.hP.kept HBw.out k (by rw [HZ.out.lp]; omega)
        subst hra
        obtain ⟨X, hX⟩ : ∃ X, ops.getD k 0 = X := ⟨_, rfl⟩
        rw [hX] at hc
        have HXX := hidden hX
        obtain ⟨f, hf, -⟩ := HO.out
        have c0 := hf.cell (i := k * 4) (by omega)
        have c1 := hf.cell (i := k * 4 + 1) (by omega)
        have c2 := hf.cell (i := k * 4 + 2) (by omega)
        have c3 := hf.cell (i := k * 4 + 3) (by omega)
        have f0 := hf.frozen (k * 4)
        have f1 := hf.frozen (k * 4 + 1)
        have f2 := hf.frozen (k * 4 + 2)
        have f3 := hf.frozen (k * 4 + 3)
        have hb := fun w => run_73 w X
        clear hX hf
        go_wp2
        go_roundg (gk - 1)
        case measure => omega
        case rel =>
          refine ⟨k + 1, by omega, by go_num, HO.out.put HXX.out _ _ _, ?_, ?_, by simpa using hsz⟩
          · exact ((((HR1.out.setOther (by simp) _).setOther (by simp) _).setOther (by simp) _).setOther (by simp) _)
          · exact ((((HB.out.setCell (by simp) _).setCell (by simp) _).setCell (by simp) _).setCell (by simp) _)
      · have e : k = pn := by omega
        subst e
        have hm2 := run_make_rd nr br
        go_upto_block 2 with fail
        clear hm2
        go_cut [20] (fun v wx => Hid (RdRow (R0 + 2) nr ro rt ri rs bs nr wx) ∧ Hid (OpRow (R0 + 1) k ops k wx) ∧ Hid (wx.rowIs R0 41 18 z41) ∧ Hid (Below R0 w wx) ∧ wx.heap.size = R0 + 3)
        case first =>
          as_aux_lemma =>
            go_wp2
            go_loopg [20] nr (fun q i wx => ∃ j : Nat, j + q = nr ∧ i = .int .i64 (j : Int) ∧ Hid (RdRow (R0 + 2) nr ro rt ri rs bs j wx) ∧ Hid (OpRow (R0 + 1) k ops k wx) ∧ Hid (wx.rowIs R0 41 18 z41) ∧ Hid (Below R0 w wx) ∧ wx.heap.size = R0 + 3)
            case atStart =>
              refine ⟨0, by omega, rfl, ?_, ?_, ?_, ?_, ?_⟩
              · obtain ⟨f, hf⟩ := rowIs_made_any wr z76 (nr * 5) 76
                rw [hsz] at hf
                exact ⟨f, hf, fun i hi => absurd hi (Nat.not_lt_zero _)⟩
              · exact HO.out.of (Below.heap_alloc _ _ _ (by omega))
              · exact HR1.out.alloc _
              · exact HB.out.alloc (by omega) _
              · simp [hsz]
            case round =>
              as_aux_lemma =>
                clear HO HR1 HB HBw hsz
                obtain ⟨j, hjq, rfl, HD, HO, HR1, HB, hsz⟩ := hrel
                have HBw : Hid (Below w.heap.size w wr) := by show Below w.heap.size w wr; rw [hR]; exact HB.out
                by_cases hlj : (j : Int) < nr
                · obtain ⟨b0, o0, hr0, d0, -⟩ := HZ.out.hO.kept HBw.out j (by rw [HZ.out.lo]; omega)
                  obtain ⟨b1, o1, hr1, d1, -⟩ := HZ.out.hT.kept HBw.out j (by rw [HZ.out.lt]; omega)
                  obtain ⟨b2, o2, hr2, d2, -⟩ := HZ.out.hM.kept HBw.out j (by rw [HZ.out.lm]; omega)
                  obtain ⟨b3, o3, hr3, d3, -⟩ := HZ.out.hS.kept HBw.out j (by rw [HZ.out.ls]; omega)
                  obtain ⟨b4, o4, hr4, d4⟩ := HZ.out.hW.kept HBw.out j (by rw [HZ.out.lw]; omega)
                  subst hr0 hr1 hr2 hr3 hr4
                  obtain ⟨X0, hX0⟩ : ∃ X, ro.getD j 0 = X := ⟨_, rfl⟩
                  obtain ⟨X1, hX1⟩ : ∃ X, rt.getD j 0 = X := ⟨_, rfl⟩
                  obtain ⟨X2, hX2⟩ : ∃ X, ri.getD j 0 = X := ⟨_, rfl⟩
                  obtain ⟨X3, hX3⟩ : ∃ X, rs.getD j 0 = X := ⟨_, rfl⟩
                  obtain ⟨X4, hX4⟩ : ∃ X, bs.getD j false = X := ⟨_, rfl⟩
                  rw [hX0] at d0
                  rw [hX1] at d1
                  rw [hX2] at d2
                  rw [hX3] at d3
                  rw [hX4] at d4
                  have HX0 := hidden hX0
                  have HX1 := hidden hX1
                  have HX2 := hidden hX2
                  have HX3 := hidden hX3
                  have HX4 := hidden hX4
                  obtain ⟨f, hf, -⟩ := HD.out
                  have c0 := hf.cell (i := j * 5) (by omega)
                  have c1 := hf.cell (i := j * 5 + 1) (by omega)
                  have c2 := hf.cell (i := j * 5 + 2) (by omega)
                  have c3 := hf.cell (i := j * 5 + 3) (by omega)
                  have c4 := hf.cell (i := j * 5 + 4) (by omega)
                  have f0 := hf.frozen (j * 5)
                  have f1 := hf.frozen (j * 5 + 1)
                  have f2 := hf.frozen (j * 5 + 2)
                  have f3 := hf.frozen (j * 5 + 3)
                  have f4 := hf.frozen (j * 5 + 4)
                  have hb := fun w => run_76 w X0 X1 X2 X3 X4
                  clear hX0 hX1 hX2 hX3 hX4 hf
                  go_wp2
                  go_region
                  go_wp2
                  go_roundg (gk - 1)
                  case measure => omega
                  case rel =>
                    refine ⟨j + 1, by omega, by go_num, (HD.out.put HX0.out HX1.out HX2.out HX3.out HX4.out).of rfl, ?_, ?_, ?_, by simpa using hsz⟩
                    · refine HO.out.of ?_
                      show (World.setCell _ _ _).heap[R0 + 1]? = _
                      rw [Below.heap_setCell _ _ _ _ (by simp), Below.heap_setCell _ _ _ _ (by simp), Below.heap_setCell _ _ _ _ (by simp), Below.heap_setCell _ _ _ _ (by simp), Below.heap_setCell _ _ _ _ (by simp)]
                    · exact (((((HR1.out.setOther (by simp) _).setOther (by simp) _).setOther (by simp) _).setOther (by simp) _).setOther (by simp) _)
                    · exact (((((HB.out.setCell (by simp) _).setCell (by simp) _).setCell (by simp) _).setCell (by simp) _).setCell (by simp) _).drew
                · have e : j = nr := by omega
                  subst e
                  go_wp2
                  go_meet
                  exact ⟨HD, HO, HR1, HB, hsz⟩
        case rest =>
          as_aux_lemma =>
            clear HO HR1 HB HBw hsz
            obtain ⟨HD, HO, HR1, HB, hsz⟩ := hcut
            have hb1 := fun w => run_82 w (some ⟨R0 + 1, 0, none⟩) xa k m k xc
            have hb2 := fun w => run_86 w ia (some ⟨R0 + 2, 0, none⟩) ni nr ic nr
            go_upto_region 13 with fail
            clear hb1 hb2
            obtain ⟨w5, hw5⟩ : ∃ w5, (wc.alloc (.cells #[.slice (some ⟨R0 + 1, 0, none⟩) k k, .slice xa m xc, .map none, .string ⟨#[]⟩, .slice none 0 0] 82)).alloc (.cells #[.slice none 0 0, .slice ia ni ic, .slice none 0 0, .slice (some ⟨R0 + 2, 0, none⟩) nr nr] 86) = w5 := ⟨_, rfl⟩
            obtain ⟨q0, q1, q2, q3, HN, h5z, HR5, HB5⟩ : w5.cell? ⟨R0 + 3, 0, none⟩ = some (.slice (some ⟨R0 + 1, 0, none⟩) k k) ∧ w5.cell? ⟨R0 + 3, 1, none⟩ = some (.slice xa m xc) ∧ w5.cell? ⟨R0 + 3 + 1, 1, none⟩ = some (.slice ia ni ic) ∧ w5.cell? ⟨R0 + 3 + 1, 3, none⟩ = some (.slice (some ⟨R0 + 2, 0, none⟩) nr nr) ∧
                Hid (NvIn (vinOf txns ni IR rt ri rs bs) (R0 + 1) (R0 + 2) k m ni nr xa ia ira irc IR txns (opOf ops txns) (fun i => ro.getD i 0) w5) ∧ w5.heap.size = R0 + 5 ∧ Hid (w5.rowIs R0 41 18 z41) ∧ Hid (Below R0 w w5) := zv_call hR HZ.out HD.out HO.out HR1.out HB.out hsz hw5
            have H5z := hidden h5z
            rw [hw5]
            clear hw5 hsz HD HO HR1 HB h5z
            go_cut [23, 24] (fun v23 v24 wx => Hid (Below w5.heap.size w5 wx) ∧ ((v23 = .pointer none ∧ v24 = .bool false ∧ Hid (∃ i, i < nr ∧ (vinOf txns ni IR rt ri rs bs).Bad i)) ∨ ∃ g b ra2 ra3 ra4 ra5 rc2 rc3 rc4 rc5, v23 = .pointer (some ⟨g, 0, none⟩) ∧ v24 = .bool true ∧ Hid (∀ i, i < nr → ¬ (vinOf txns ni IR rt ri rs bs).Bad i) ∧
                Hid (∀ w'' : World, wx.heap.size ≤ w''.heap.size → (∀ k, w5.heap.size ≤ k → k < wx.heap.size → w''.heap[k]? = wx.heap[k]?) → NvEnd (vinOf txns ni IR rt ri rs bs) (stF (opOf ops txns) k k) xa xc g b ra2 ra3 ra4 ra5 rc2 rc3 rc4 rc5 w'')))
            case first =>
              as_aux_lemma =>
                go_wp2_with (first | (go_at_call 34; go_must (refine (nvs_any (vinOf txns ni IR rt ri rs bs) (R0 + 3) (R0 + 3 + 1) (R0 + 1) (R0 + 2) k m ni nr xa ia xc ic ira irc IR txns (opOf ops txns) (fun i => ro.getD i 0) w5 q0 q1 q2 q3 HN.out bm bn bp br).mono ?_; rintro e w' ⟨hbel, ⟨rfl, hbad⟩ | ⟨g, b, ra2, ra3, ra4, ra5, rc2, rc3, rc4, rc5, rfl, hnb, hend⟩⟩)) | fail)
                · have HBB := hidden hbel
                  have HBD := hidden hbad
                  clear hbel hbad
                  go_wp2
                  go_meet
                  exact ⟨HBB, .inl ⟨rfl, rfl, HBD⟩⟩
                · have HBB := hidden hbel
                  have HBD := hidden hnb
                  have HED := hidden hend
                  clear hbel hnb hend
                  go_wp2
                  go_meet
                  exact ⟨HBB, .inr ⟨g, b, ra2, ra3, ra4, ra5, rc2, rc3, rc4, rc5, rfl, rfl, HBD, HED⟩⟩
            case rest =>
              as_aux_lemma =>
                obtain ⟨HB6, hcase⟩ := hcut
                have HR6 : Hid (wc.rowIs R0 41 18 z41) := HR5.out.of_block (HB6.out.block R0 (by rw [H5z.out]; omega))
                rcases hcase with ⟨rfl, rfl, HBD⟩ | ⟨g, b, ra2, ra3, ra4, ra5, rc2, rc3, rc4, rc5, rfl, rfl, HNB, HED⟩
                ·
                  as_aux_lemma =>
                    go_upto_region 18 with fail
                    obtain ⟨f, HF, HFV⟩ : ∃ f : Nat → Value, Hid ((wc.alloc (.cells #[.bool false, .bool true, .slice none 0 0, .slice none 0 0, .slice none 0 0, .slice none 0 0, .slice none 0 0, .slice none 0 0, .slice none 0 0, .slice none 0 0, .slice none 0 0, .slice none 0 0, .slice none 0 0, .slice none 0 0, .slice none 0 0, .slice none 0 0, .slice none 0 0, .slice none 0 0] 41)).rowIs wc.heap.size 41 18 f) ∧ f = (fun i => (#[.bool false, .bool true, .slice none 0 0, .slice none 0 0, .slice none 0 0, .slice none 0 0, .slice none 0 0, .slice none 0 0, .slice none 0 0, .slice none 0 0, .slice none 0 0, .slice none 0 0, .slice none 0 0, .slice none 0 0, .slice none 0 0, .slice none 0 0, .slice none 0 0, .slice none 0 0] : Array Value)[i]?.getD default) := ⟨_, row18 wc _ rfl, rfl⟩
                    have HR7 : Hid ((wc.alloc (.cells #[.bool false, .bool true, .slice none 0 0, .slice none 0 0, .slice none 0 0, .slice none 0 0, .slice none 0 0, .slice none 0 0, .slice none 0 0, .slice none 0 0, .slice none 0 0, .slice none 0 0, .slice none 0 0, .slice none 0 0, .slice none 0 0, .slice none 0 0, .slice none 0 0, .slice none 0 0] 41)).rowIs R0 41 18 z41) := HR6.out.alloc _
                    have HB7 : Hid (Below R0 w (wc.alloc (.cells #[.bool false, .bool true, .slice none 0 0, .slice none 0 0, .slice none 0 0, .slice none 0 0, .slice none 0 0, .slice none 0 0, .slice none 0 0, .slice none 0 0, .slice none 0 0, .slice none 0 0, .slice none 0 0, .slice none 0 0, .slice none 0 0, .slice none 0 0, .slice none 0 0, .slice none 0 0] 41))) := (HB5.out.trans (HB6.out.mono (by rw [H5z.out]; omega))).alloc (by have h := HB6.out.size; rw [H5z.out] at h; omega) _
                    obtain ⟨oB, hoB⟩ : ∃ o, wc.heap.size = o := ⟨_, rfl⟩
                    obtain ⟨w7, hw7⟩ : ∃ w7, wc.alloc (.cells #[.bool false, .bool true, .slice none 0 0, .slice none 0 0, .slice none 0 0, .slice none 0 0, .slice none 0 0, .slice none 0 0, .slice none 0 0, .slice none 0 0, .slice none 0 0, .slice none 0 0, .slice none 0 0, .slice none 0 0, .slice none 0 0, .slice none 0 0, .slice none 0 0, .slice none 0 0] 41) = w7 := ⟨_, rfl⟩
                    rw [hoB, hw7] at HF
                    rw [hw7] at HR7 HB7
                    rw [hoB, hw7]
                    subst HFV
                    have O0 : Hid (w7.cell? ⟨oB, 0, none⟩ = some (.bool false)) := HF.out.cell (i := 0) (by omega)
                    have O1 : Hid (w7.cell? ⟨oB, 1, none⟩ = some (.bool true)) := HF.out.cell (i := 1) (by omega)
                    have O2 : Hid (w7.cell? ⟨oB, 2, none⟩ = some (.slice none 0 0)) := HF.out.cell (i := 2) (by omega)
                    have O3 : Hid (w7.cell? ⟨oB, 3, none⟩ = some (.slice none 0 0)) := HF.out.cell (i := 3) (by omega)
                    have O4 : Hid (w7.cell? ⟨oB, 4, none⟩ = some (.slice none 0 0)) := HF.out.cell (i := 4) (by omega)
                    have O5 : Hid (w7.cell? ⟨oB, 5, none⟩ = some (.slice none 0 0)) := HF.out.cell (i := 5) (by omega)
                    have O6 : Hid (w7.cell? ⟨oB, 6, none⟩ = some (.slice none 0 0)) := HF.out.cell (i := 6) (by omega)
                    have O7 : Hid (w7.cell? ⟨oB, 7, none⟩ = some (.slice none 0 0)) := HF.out.cell (i := 7) (by omega)
                    have O8 : Hid (w7.cell? ⟨oB, 8, none⟩ = some (.slice none 0 0)) := HF.out.cell (i := 8) (by omega)
                    have O9 : Hid (w7.cell? ⟨oB, 9, none⟩ = some (.slice none 0 0)) := HF.out.cell (i := 9) (by omega)
                    have O10 : Hid (w7.cell? ⟨oB, 10, none⟩ = some (.slice none 0 0)) := HF.out.cell (i := 10) (by omega)
                    have O11 : Hid (w7.cell? ⟨oB, 11, none⟩ = some (.slice none 0 0)) := HF.out.cell (i := 11) (by omega)
                    have O12 : Hid (w7.cell? ⟨oB, 12, none⟩ = some (.slice none 0 0)) := HF.out.cell (i := 12) (by omega)
                    have O13 : Hid (w7.cell? ⟨oB, 13, none⟩ = some (.slice none 0 0)) := HF.out.cell (i := 13) (by omega)
                    have O14 : Hid (w7.cell? ⟨oB, 14, none⟩ = some (.slice none 0 0)) := HF.out.cell (i := 14) (by omega)
                    have O15 : Hid (w7.cell? ⟨oB, 15, none⟩ = some (.slice none 0 0)) := HF.out.cell (i := 15) (by omega)
                    have O16 : Hid (w7.cell? ⟨oB, 16, none⟩ = some (.slice none 0 0)) := HF.out.cell (i := 16) (by omega)
                    have O17 : Hid (w7.cell? ⟨oB, 17, none⟩ = some (.slice none 0 0)) := HF.out.cell (i := 17) (by omega)
                    clear hoB hw7
                    go_cut [] (fun wx => Hid (wx.rowIs R0 41 18 (fun i => (#[.bool false, .bool true, .slice none 0 0, .slice none 0 0, .slice none 0 0, .slice none 0 0, .slice none 0 0, .slice none 0 0, .slice none 0 0, .slice none 0 0, .slice none 0 0, .slice none 0 0, .slice none 0 0, .slice none 0 0, .slice none 0 0, .slice none 0 0, .slice none 0 0, .slice none 0 0] : Array Value)[i]?.getD default)) ∧ Hid (Below R0 w wx))
                    case first =>
                      as_aux_lemma =>
                        go_wp2_with (first | (refine load18 _ rfl (.tmp 25) rfl oB rfl (.bool false) (.bool true) (.slice none 0 0) (.slice none 0 0) (.slice none 0 0) (.slice none 0 0) (.slice none 0 0) (.slice none 0 0) (.slice none 0 0) (.slice none 0 0) (.slice none 0 0) (.slice none 0 0) (.slice none 0 0) (.slice none 0 0) (.slice none 0 0) (.slice none 0 0) (.slice none 0 0) (.slice none 0 0) O0.out O1.out O2.out O3.out O4.out O5.out O6.out O7.out O8.out O9.out O10.out O11.out O12.out O13.out O14.out O15.out O16.out O17.out ?_) | (refine store18 _ rfl (.tmp 16) (.tmp 105) rfl R0 rfl (.bool false) (.bool true) (.slice none 0 0) (.slice none 0 0) (.slice none 0 0) (.slice none 0 0) (.slice none 0 0) (.slice none 0 0) (.slice none 0 0) (.slice none 0 0) (.slice none 0 0) (.slice none 0 0) (.slice none 0 0) (.slice none 0 0) (.slice none 0 0) (.slice none 0 0) (.slice none 0 0) (.slice none 0 0) rfl HR7.out rfl rfl rfl rfl rfl rfl rfl rfl rfl rfl rfl rfl rfl rfl rfl rfl rfl rfl ?_) | fail)
                        go_meet
                        exact ⟨row_set18 HR7.out (.bool false) (.bool true) (.slice none 0 0) (.slice none 0 0) (.slice none 0 0) (.slice none 0 0) (.slice none 0 0) (.slice none 0 0) (.slice none 0 0) (.slice none 0 0) (.slice none 0 0) (.slice none 0 0) (.slice none 0 0) (.slice none 0 0) (.slice none 0 0) (.slice none 0 0) (.slice none 0 0) (.slice none 0 0), below_set18 HB7.out (.bool false) (.bool true) (.slice none 0 0) (.slice none 0 0) (.slice none 0 0) (.slice none 0 0) (.slice none 0 0) (.slice none 0 0) (.slice none 0 0) (.slice none 0 0) (.slice none 0 0) (.slice none 0 0) (.slice none 0 0) (.slice none 0 0) (.slice none 0 0) (.slice none 0 0) (.slice none 0 0) (.slice none 0 0)⟩
                    case rest =>
                      as_aux_lemma =>
                        obtain ⟨HX, HBX⟩ := hcut
                        refine use_ret (by assumption) ?_
                        simp only [Exit.then]
                        refine bodyPost_ret (ret23 _ _ R0 rfl _ _ _ _ _ _ _ _ _ _ _ _ _ _ _ _ _ _ (HX.out.cell (i := 0) (by omega)) (HX.out.cell (i := 1) (by omega)) (HX.out.cell (i := 2) (by omega)) (HX.out.cell (i := 3) (by omega)) (HX.out.cell (i := 4) (by omega)) (HX.out.cell (i := 5) (by omega)) (HX.out.cell (i := 6) (by omega)) (HX.out.cell (i := 7) (by omega)) (HX.out.cell (i := 8) (by omega)) (HX.out.cell (i := 9) (by omega)) (HX.out.cell (i := 10) (by omega)) (HX.out.cell (i := 11) (by omega)) (HX.out.cell (i := 12) (by omega)) (HX.out.cell (i := 13) (by omega)) (HX.out.cell (i := 14) (by omega)) (HX.out.cell (i := 15) (by omega)) (HX.out.cell (i := 16) (by omega)) (HX.out.cell (i := 17) (by omega))) rfl ?_
                        refine ⟨?_, .inl ⟨rfl, ?_⟩⟩
                        · rw [hR]; exact HBX.out
                        · have h := HBD.out
                          rw [← HZ.out.lt] at h
                          exact h
                · have HN6 := hidden (HED.out wc (Nat.le_refl _) (fun _ _ _ => rfl))
                  have hvm : (vinOf txns ni IR rt ri rs bs).m = m := HZ.out.lx
                  have hvn : (vinOf txns ni IR rt ri rs bs).ni = ni := rfl
                  have g0 := HN6.out.g0
                  have g1 := HN6.out.g1
                  have g2 := HN6.out.g2
                  have g3 := HN6.out.g3
                  have g4 := HN6.out.g4
                  have g5 := HN6.out.g5
                  have g6 := HN6.out.g6
                  have g7 := HN6.out.g7
                  have g8 := HN6.out.g8
                  have g9 := HN6.out.g9
                  rw [hvm] at g0 g1 g2 g3 g4 g7 g8
                  rw [hvn] at g5 g6 g9
                  have HVM := hidden hvm
                  clear hvm hvn
                  have k0 := fun o => cellOld ((Below.refl wc.heap.size wc).alloc (Nat.le_refl _) o) g0
                  have k1 := fun o => cellOld ((Below.refl wc.heap.size wc).alloc (Nat.le_refl _) o) g1
                  have k2 := fun o => cellOld ((Below.refl wc.heap.size wc).alloc (Nat.le_refl _) o) g2
                  have k3 := fun o => cellOld ((Below.refl wc.heap.size wc).alloc (Nat.le_refl _) o) g3
                  have k4 := fun o => cellOld ((Below.refl wc.heap.size wc).alloc (Nat.le_refl _) o) g4
                  have k5 := fun o => cellOld ((Below.refl wc.heap.size wc).alloc (Nat.le_refl _) o) g5
                  have k6 := fun o => cellOld ((Below.refl wc.heap.size wc).alloc (Nat.le_refl _) o) g6
                  have k7 := fun o => cellOld ((Below.refl wc.heap.size wc).alloc (Nat.le_refl _) o) g7
                  have k8 := fun o => cellOld ((Below.refl wc.heap.size wc).alloc (Nat.le_refl _) o) g8
                  have k9 := fun o => cellOld ((Below.refl wc.heap.size wc).alloc (Nat.le_refl _) o) g9
                  go_upto_region 27 with fail
                  clear k0 k1 k2 k3 k4 k5 k6 k7 k8 k9 g0 g1 g2 g3 g4 g5 g6 g7 g8 g9
                  have HF8 := row18 wc #[.bool true, .bool false, .slice xa m xc, .slice (some ⟨b 1, 0, none⟩) m m, .slice (some ⟨b 6, 0, none⟩) ni ni, .slice (some ⟨b 8, 0, none⟩) m m, .slice (some ⟨b 9, 0, none⟩) ni ni, .slice (some ⟨b 7, 0, none⟩) m m, .slice (some ⟨b 4, 0, none⟩) m m, .slice (some ⟨b 5, 0, none⟩) ni ni, .slice none 0 0, .slice none 0 0, .slice none 0 0, .slice none 0 0, .slice none 0 0, .slice none 0 0, .slice none 0 0, .slice none 0 0] rfl
                  have HR8 : Hid ((wc.alloc (.cells #[.bool true, .bool false, .slice xa m xc, .slice (some ⟨b 1, 0, none⟩) m m, .slice (some ⟨b 6, 0, none⟩) ni ni, .slice (some ⟨b 8, 0, none⟩) m m, .slice (some ⟨b 9, 0, none⟩) ni ni, .slice (some ⟨b 7, 0, none⟩) m m, .slice (some ⟨b 4, 0, none⟩) m m, .slice (some ⟨b 5, 0, none⟩) ni ni, .slice none 0 0, .slice none 0 0, .slice none 0 0, .slice none 0 0, .slice none 0 0, .slice none 0 0, .slice none 0 0, .slice none 0 0] 41)).rowIs R0 41 18 z41) := HR6.out.alloc _
                  have HB8 : Hid (Below R0 w (wc.alloc (.cells #[.bool true, .bool false, .slice xa m xc, .slice (some ⟨b 1, 0, none⟩) m m, .slice (some ⟨b 6, 0, none⟩) ni ni, .slice (some ⟨b 8, 0, none⟩) m m, .slice (some ⟨b 9, 0, none⟩) ni ni, .slice (some ⟨b 7, 0, none⟩) m m, .slice (some ⟨b 4, 0, none⟩) m m, .slice (some ⟨b 5, 0, none⟩) ni ni, .slice none 0 0, .slice none 0 0, .slice none 0 0, .slice none 0 0, .slice none 0 0, .slice none 0 0, .slice none 0 0, .slice none 0 0] 41))) := (HB5.out.trans (HB6.out.mono (by rw [H5z.out]; omega))).alloc (by have h := HB6.out.size; rw [H5z.out] at h; omega) _
                  have HK8 : Hid (∀ k, k < wc.heap.size → (wc.alloc (.cells #[.bool true, .bool false, .slice xa m xc, .slice (some ⟨b 1, 0, none⟩) m m, .slice (some ⟨b 6, 0, none⟩) ni ni, .slice (some ⟨b 8, 0, none⟩) m m, .slice (some ⟨b 9, 0, none⟩) ni ni, .slice (some ⟨b 7, 0, none⟩) m m, .slice (some ⟨b 4, 0, none⟩) m m, .slice (some ⟨b 5, 0, none⟩) ni ni, .slice none 0 0, .slice none 0 0, .slice none 0 0, .slice none 0 0, .slice none 0 0, .slice none 0 0, .slice none 0 0, .slice none 0 0] 41)).heap[k]? = wc.heap[k]?) := fun k hk => Below.heap_alloc _ _ _ hk
                  have HZ8 : Hid ((wc.alloc (.cells #[.bool true, .bool false, .slice xa m xc, .slice (some ⟨b 1, 0, none⟩) m m, .slice (some ⟨b 6, 0, none⟩) ni ni, .slice (some ⟨b 8, 0, none⟩) m m, .slice (some ⟨b 9, 0, none⟩) ni ni, .slice (some ⟨b 7, 0, none⟩) m m, .slice (some ⟨b 4, 0, none⟩) m m, .slice (some ⟨b 5, 0, none⟩) ni ni, .slice none 0 0, .slice none 0 0, .slice none 0 0, .slice none 0 0, .slice none 0 0, .slice none 0 0, .slice none 0 0, .slice none 0 0] 41)).heap.size = wc.heap.size + 1) := by unfold Hid; simp
                  have HRO : Hid (R0 < wc.heap.size) := HR6.out.lt
                  obtain ⟨w8, hw8⟩ : ∃ w8, wc.alloc (.cells #[.bool true, .bool false, .slice xa m xc, .slice (some ⟨b 1, 0, none⟩) m m, .slice (some ⟨b 6, 0, none⟩) ni ni, .slice (some ⟨b 8, 0, none⟩) m m, .slice (some ⟨b 9, 0, none⟩) ni ni, .slice (some ⟨b 7, 0, none⟩) m m, .slice (some ⟨b 4, 0, none⟩) m m, .slice (some ⟨b 5, 0, none⟩) ni ni, .slice none 0 0, .slice none 0 0, .slice none 0 0, .slice none 0 0, .slice none 0 0, .slice none 0 0, .slice none 0 0, .slice none 0 0] 41) = w8 := ⟨_, rfl⟩
                  obtain ⟨oB, hoB⟩ : ∃ o, wc.heap.size = o := ⟨_, rfl⟩
                  rw [hw8, hoB] at HF8 HZ8 HK8
                  rw [hw8] at HR8 HB8
                  rw [hoB] at HRO HED
                  rw [hw8, hoB]
                  have HN8 := hidden (HED.out w8 (by rw [HZ8.out]; omega) (fun k h1 h2 => HK8.out k h2))
                  have HV2 : Hid (VRows w8 (some ⟨b 2, 0, none⟩) m ra2 rc2 (fun t => ((vinOf txns ni IR rt ri rs bs).reads t (vinOf txns ni IR rt ri rs bs).nr).length) (fun t k => ((vinOf txns ni IR rt ri rs bs).rt (((vinOf txns ni IR rt ri rs bs).reads t (vinOf txns ni IR rt ri rs bs).nr).getD k 0) : Int)) (fun t k => ((vinOf txns ni IR rt ri rs bs).it (((vinOf txns ni IR rt ri rs bs).reads t (vinOf txns ni IR rt ri rs bs).nr).getD k 0) : Int)) (fun t k => (vinOf txns ni IR rt ri rs bs).srcZ (((vinOf txns ni IR rt ri rs bs).reads t (vinOf txns ni IR rt ri rs bs).nr).getD k 0)) (fun t k => (vinOf txns ni IR rt ri rs bs).wr (((vinOf txns ni IR rt ri rs bs).reads t (vinOf txns ni IR rt ri rs bs).nr).getD k 0))) := by have h := HN8.out.r2; rw [HVM.out] at h; exact h
                  have q2 : w8.cell? ⟨g, 2, none⟩ = some (.slice (some ⟨b 2, 0, none⟩) m m) := by have h := HN8.out.g2; rw [HVM.out] at h; exact h
                  have q3 : w8.cell? ⟨g, 3, none⟩ = some (.slice (some ⟨b 3, 0, none⟩) m m) := by have h := HN8.out.g3; rw [HVM.out] at h; exact h
                  have HG3 := hidden q3
                  have HGO : Hid (g < oB) := by
                    show g < oB
                    have h := World.block_lt_of_cell? _ _ HN6.out.g0
                    rw [hoB] at h
                    exact h
                  have HWC : Hid (wc.heap.size = oB) := hoB
                  clear hw8 hoB q3 HR6 HR5
                  obtain ⟨H1, hH1⟩ : ∃ h, w8.heap.size = h := ⟨_, rfl⟩
                  have HH1 := hidden hH1
                  go_cut [26, 27, 28, 29] (fun a4 b4 c4 d4 wx => a4 = .slice (some ⟨H1, 0, none⟩) m m ∧ b4 = .slice (some ⟨H1 + 1, 0, none⟩) m m ∧ c4 = .slice (some ⟨H1 + 2, 0, none⟩) m m ∧ d4 = .slice (some ⟨H1 + 3, 0, none⟩) m m ∧ Hid (Uz H1 m (fun t => ((vinOf txns ni IR rt ri rs bs).reads t (vinOf txns ni IR rt ri rs bs).nr).length) (fun t k => ((vinOf txns ni IR rt ri rs bs).rt (((vinOf txns ni IR rt ri rs bs).reads t (vinOf txns ni IR rt ri rs bs).nr).getD k 0) : Int)) (fun t k => ((vinOf txns ni IR rt ri rs bs).it (((vinOf txns ni IR rt ri rs bs).reads t (vinOf txns ni IR rt ri rs bs).nr).getD k 0) : Int)) (fun t k => (vinOf txns ni IR rt ri rs bs).srcZ (((vinOf txns ni IR rt ri rs bs).reads t (vinOf txns ni IR rt ri rs bs).nr).getD k 0)) (fun t k => (vinOf txns ni IR rt ri rs bs).wr (((vinOf txns ni IR rt ri rs bs).reads t (vinOf txns ni IR rt ri rs bs).nr).getD k 0)) w8 m 0 wx))
                  case first =>
                    as_aux_lemma =>
                      clear hH1
                      go_wp2_with (first | (go_at_call 35; go_must (refine (unzip_any (some ⟨b 2, 0, none⟩) m m H1 ra2 rc2 (fun t => ((vinOf txns ni IR rt ri rs bs).reads t (vinOf txns ni IR rt ri rs bs).nr).length) (fun t k => ((vinOf txns ni IR rt ri rs bs).rt (((vinOf txns ni IR rt ri rs bs).reads t (vinOf txns ni IR rt ri rs bs).nr).getD k 0) : Int)) (fun t k => ((vinOf txns ni IR rt ri rs bs).it (((vinOf txns ni IR rt ri rs bs).reads t (vinOf txns ni IR rt ri rs bs).nr).getD k 0) : Int)) (fun t k => (vinOf txns ni IR rt ri rs bs).srcZ (((vinOf txns ni IR rt ri rs bs).reads t (vinOf txns ni IR rt ri rs bs).nr).getD k 0)) (fun t k => (vinOf txns ni IR rt ri rs bs).wr (((vinOf txns ni IR rt ri rs bs).reads t (vinOf txns ni IR rt ri rs bs).nr).getD k 0)) w8 HV2.out bm HH1.out).mono ?_; rintro e w' ⟨rfl, huz⟩)) | fail)
                      have HUZ := hidden huz
                      clear huz
                      go_wp2
                      go_meet
                      exact ⟨rfl, rfl, rfl, rfl, HUZ⟩
                  case rest =>
                    as_aux_lemma =>
                      obtain ⟨rfl, rfl, rfl, rfl, HU1⟩ := hcut
                      clear hH1 q2 HV2
                      have hgo := HGO.out
                      have HF9 : Hid (wc.rowIs oB 41 18 _) := HF8.out.of_block (HU1.out.bel.block oB (by rw [← HH1.out, HZ8.out]; omega))
                      have o10 : wc.cell? ⟨oB, 10, none⟩ = some (.slice none 0 0) := HF9.out.cell (i := 10) (by omega)
                      have z10 := HF9.out.frozen 10
                      have o11 : wc.cell? ⟨oB, 11, none⟩ = some (.slice none 0 0) := HF9.out.cell (i := 11) (by omega)
                      have z11 := HF9.out.frozen 11
                      have o12 : wc.cell? ⟨oB, 12, none⟩ = some (.slice none 0 0) := HF9.out.cell (i := 12) (by omega)
                      have z12 := HF9.out.frozen 12
                      have o13 : wc.cell? ⟨oB, 13, none⟩ = some (.slice none 0 0) := HF9.out.cell (i := 13) (by omega)
                      have z13 := HF9.out.frozen 13
                      go_upto_region 32 with fail
                      clear o10 z10 o11 z11 o12 z12 o13 z13
                      have HF10 := hidden (row_set4a HF9.out (.slice (some ⟨H1, 0, none⟩) m m) (.slice (some ⟨H1 + 1, 0, none⟩) m m) (.slice (some ⟨H1 + 2, 0, none⟩) m m) (.slice (some ⟨H1 + 3, 0, none⟩) m m))
                      have HK10 : Hid (∀ k, k ≠ oB → ((((wc.setCell ⟨oB, 10, none⟩ (.slice (some ⟨H1, 0, none⟩) m m)).setCell ⟨oB, 11, none⟩ (.slice (some ⟨H1 + 1, 0, none⟩) m m)).setCell ⟨oB, 12, none⟩ (.slice (some ⟨H1 + 2, 0, none⟩) m m)).setCell ⟨oB, 13, none⟩ (.slice (some ⟨H1 + 3, 0, none⟩) m m)).heap[k]? = wc.heap[k]?) := fun k hk => (Below.heap_setCell _ _ _ _ hk).trans ((Below.heap_setCell _ _ _ _ hk).trans ((Below.heap_setCell _ _ _ _ hk).trans ((Below.heap_setCell _ _ _ _ hk))))
                      have HS10 : Hid (((((wc.setCell ⟨oB, 10, none⟩ (.slice (some ⟨H1, 0, none⟩) m m)).setCell ⟨oB, 11, none⟩ (.slice (some ⟨H1 + 1, 0, none⟩) m m)).setCell ⟨oB, 12, none⟩ (.slice (some ⟨H1 + 2, 0, none⟩) m m)).setCell ⟨oB, 13, none⟩ (.slice (some ⟨H1 + 3, 0, none⟩) m m)).heap.size = wc.heap.size) := by unfold Hid; simp
                      have HB10 : Hid (Below H1 w8 wc) := HU1.out.bel
                      have HLO : Hid (R0 ≤ oB) := Nat.le_of_lt HRO.out
                      have HLH : Hid (oB + 1 = H1) := by show oB + 1 = H1; rw [← HH1.out, HZ8.out]
                      have HBA : Hid (Below R0 w wc) := HB8.out.trans (HU1.out.bel.mono (by have h1 := HLO.out; have h2 := HLH.out; omega))
                      have HBW : Hid (Below R0 w ((((wc.setCell ⟨oB, 10, none⟩ (.slice (some ⟨H1, 0, none⟩) m m)).setCell ⟨oB, 11, none⟩ (.slice (some ⟨H1 + 1, 0, none⟩) m m)).setCell ⟨oB, 12, none⟩ (.slice (some ⟨H1 + 2, 0, none⟩) m m)).setCell ⟨oB, 13, none⟩ (.slice (some ⟨H1 + 3, 0, none⟩) m m))) := (((HBA.out.setCell HLO.out _).setCell HLO.out _).setCell HLO.out _).setCell HLO.out _
                      have HUR : Hid (∀ w'' : World, (∀ k, H1 ≤ k → k < ((((wc.setCell ⟨oB, 10, none⟩ (.slice (some ⟨H1, 0, none⟩) m m)).setCell ⟨oB, 11, none⟩ (.slice (some ⟨H1 + 1, 0, none⟩) m m)).setCell ⟨oB, 12, none⟩ (.slice (some ⟨H1 + 2, 0, none⟩) m m)).setCell ⟨oB, 13, none⟩ (.slice (some ⟨H1 + 3, 0, none⟩) m m)).heap.size → w''.heap[k]? = ((((wc.setCell ⟨oB, 10, none⟩ (.slice (some ⟨H1, 0, none⟩) m m)).setCell ⟨oB, 11, none⟩ (.slice (some ⟨H1 + 1, 0, none⟩) m m)).setCell ⟨oB, 12, none⟩ (.slice (some ⟨H1 + 2, 0, none⟩) m m)).setCell ⟨oB, 13, none⟩ (.slice (some ⟨H1 + 3, 0, none⟩) m m)).heap[k]?) → URows (vinOf txns ni IR rt ri rs bs) (fun t => (vinOf txns ni IR rt ri rs bs).reads t (vinOf txns ni IR rt ri rs bs).nr) H1 w'') := by
                        intro w'' hk
                        have h := HU1.out
                        rw [← HVM.out] at h
                        refine urows_of (vin_fits HZ.out.dom) (by rw [HVM.out]; exact bm) bn (fun j i _ hi => reads_mem hi) (fun j _ => Nat.le_trans (reads_len _ _ _) (by show rt.length ≤ 1048576; rw [HZ.out.lt]; exact br)) h (fun k h1 h2 => ?_)
                        exact (hk k h1 (by rw [HS10.out]; exact h2)).trans (HK10.out k (by have h3 := HLH.out; omega))
                      obtain ⟨w10, hw10⟩ : ∃ w10, ((((wc.setCell ⟨oB, 10, none⟩ (.slice (some ⟨H1, 0, none⟩) m m)).setCell ⟨oB, 11, none⟩ (.slice (some ⟨H1 + 1, 0, none⟩) m m)).setCell ⟨oB, 12, none⟩ (.slice (some ⟨H1 + 2, 0, none⟩) m m)).setCell ⟨oB, 13, none⟩ (.slice (some ⟨H1 + 3, 0, none⟩) m m)) = w10 := ⟨_, rfl⟩
                      rw [hw10] at HF10 HK10 HS10 HBW HUR
                      rw [hw10]
                      clear hw10
                      have HA10 : Hid (∀ k, k < oB → w10.heap[k]? = w8.heap[k]?) := fun k hk => (HK10.out k (by omega)).trans (HB10.out.block k (by rw [← HH1.out, HZ8.out]; omega))
                      have HZ10 : Hid (oB < w10.heap.size) := by show oB < w10.heap.size; rw [HS10.out]; have h := HB10.out.size; rw [HZ8.out] at h; omega
                      have HN10 := hidden (HED.out w10 (Nat.le_of_lt HZ10.out) (fun k h1 h2 => (HA10.out k h2).trans (HK8.out k h2)))
                      have HV3 : Hid (VRows w10 (some ⟨b 3, 0, none⟩) m ra3 rc3 (fun t => ((vinOf txns ni IR rt ri rs bs).seenBy t (vinOf txns ni IR rt ri rs bs).nr).length) (fun t k => ((vinOf txns ni IR rt ri rs bs).rt (((vinOf txns ni IR rt ri rs bs).seenBy t (vinOf txns ni IR rt ri rs bs).nr).getD k 0) : Int)) (fun t k => ((vinOf txns ni IR rt ri rs bs).it (((vinOf txns ni IR rt ri rs bs).seenBy t (vinOf txns ni IR rt ri rs bs).nr).getD k 0) : Int)) (fun t k => (vinOf txns ni IR rt ri rs bs).srcZ (((vinOf txns ni IR rt ri rs bs).seenBy t (vinOf txns ni IR rt ri rs bs).nr).getD k 0)) (fun t k => (vinOf txns ni IR rt ri rs bs).wr (((vinOf txns ni IR rt ri rs bs).seenBy t (vinOf txns ni IR rt ri rs bs).nr).getD k 0))) := by have h := HN10.out.r3; rw [HVM.out] at h; exact h
                      have q3 : w10.cell? ⟨g, 3, none⟩ = some (.slice (some ⟨b 3, 0, none⟩) m m) := by have h := HN10.out.g3; rw [HVM.out] at h; exact h
                      obtain ⟨H2, hH2⟩ : ∃ h, w10.heap.size = h := ⟨_, rfl⟩
                      have HH2 := hidden hH2
                      go_cut [30, 31, 32, 33] (fun a4 b4 c4 d4 wx => a4 = .slice (some ⟨H2, 0, none⟩) m m ∧ b4 = .slice (some ⟨H2 + 1, 0, none⟩) m m ∧ c4 = .slice (some ⟨H2 + 2, 0, none⟩) m m ∧ d4 = .slice (some ⟨H2 + 3, 0, none⟩) m m ∧ Hid (Uz H2 m (fun t => ((vinOf txns ni IR rt ri rs bs).seenBy t (vinOf txns ni IR rt ri rs bs).nr).length) (fun t k => ((vinOf txns ni IR rt ri rs bs).rt (((vinOf txns ni IR rt ri rs bs).seenBy t (vinOf txns ni IR rt ri rs bs).nr).getD k 0) : Int)) (fun t k => ((vinOf txns ni IR rt ri rs bs).it (((vinOf txns ni IR rt ri rs bs).seenBy t (vinOf txns ni IR rt ri rs bs).nr).getD k 0) : Int)) (fun t k => (vinOf txns ni IR rt ri rs bs).srcZ (((vinOf txns ni IR rt ri rs bs).seenBy t (vinOf txns ni IR rt ri rs bs).nr).getD k 0)) (fun t k => (vinOf txns ni IR rt ri rs bs).wr (((vinOf txns ni IR rt ri rs bs).seenBy t (vinOf txns ni IR rt ri rs bs).nr).getD k 0)) w10 m 0 wx))
                      case first =>
                        as_aux_lemma =>
                          clear hH2
                          go_wp2_with (first | (go_at_call 35; go_must (refine (unzip_any (some ⟨b 3, 0, none⟩) m m H2 ra3 rc3 (fun t => ((vinOf txns ni IR rt ri rs bs).seenBy t (vinOf txns ni IR rt ri rs bs).nr).length) (fun t k => ((vinOf txns ni IR rt ri rs bs).rt (((vinOf txns ni IR rt ri rs bs).seenBy t (vinOf txns ni IR rt ri rs bs).nr).getD k 0) : Int)) (fun t k => ((vinOf txns ni IR rt ri rs bs).it (((vinOf txns ni IR rt ri rs bs).seenBy t (vinOf txns ni IR rt ri rs bs).nr).getD k 0) : Int)) (fun t k => (vinOf txns ni IR rt ri rs bs).srcZ (((vinOf txns ni IR rt ri rs bs).seenBy t (vinOf txns ni IR rt ri rs bs).nr).getD k 0)) (fun t k => (vinOf txns ni IR rt ri rs bs).wr (((vinOf txns ni IR rt ri rs bs).seenBy t (vinOf txns ni IR rt ri rs bs).nr).getD k 0)) w10 HV3.out bm HH2.out).mono ?_; rintro e w' ⟨rfl, huz⟩)) | fail)
                          have HUZ := hidden huz
                          clear huz
                          go_wp2
                          go_meet
                          exact ⟨rfl, rfl, rfl, rfl, HUZ⟩
                      case rest =>
                        as_aux_lemma =>
                          obtain ⟨rfl, rfl, rfl, rfl, HU2⟩ := hcut
                          clear hH2 q3 HV3
                          have HF11 : Hid (wc.rowIs oB 41 18 _) := HF10.out.of_block (HU2.out.bel.block oB (by rw [← HH2.out]; exact HZ10.out))
                          have o14 : wc.cell? ⟨oB, 14, none⟩ = some (.slice none 0 0) := HF11.out.cell (i := 14) (by omega)
                          have z14 := HF11.out.frozen 14
                          have o15 : wc.cell? ⟨oB, 15, none⟩ = some (.slice none 0 0) := HF11.out.cell (i := 15) (by omega)
                          have z15 := HF11.out.frozen 15
                          have o16 : wc.cell? ⟨oB, 16, none⟩ = some (.slice none 0 0) := HF11.out.cell (i := 16) (by omega)
                          have z16 := HF11.out.frozen 16
                          have o17 : wc.cell? ⟨oB, 17, none⟩ = some (.slice none 0 0) := HF11.out.cell (i := 17) (by omega)
                          have z17 := HF11.out.frozen 17
                          go_upto_region 37 with fail
                          clear o14 z14 o15 z15 o16 z16 o17 z17
                          have HF12 := hidden (row_set4b HF11.out (.slice (some ⟨H2, 0, none⟩) m m) (.slice (some ⟨H2 + 1, 0, none⟩) m m) (.slice (some ⟨H2 + 2, 0, none⟩) m m) (.slice (some ⟨H2 + 3, 0, none⟩) m m))
                          have HK12 : Hid (∀ k, k ≠ oB → ((((wc.setCell ⟨oB, 14, none⟩ (.slice (some ⟨H2, 0, none⟩) m m)).setCell ⟨oB, 15, none⟩ (.slice (some ⟨H2 + 1, 0, none⟩) m m)).setCell ⟨oB, 16, none⟩ (.slice (some ⟨H2 + 2, 0, none⟩) m m)).setCell ⟨oB, 17, none⟩ (.slice (some ⟨H2 + 3, 0, none⟩) m m)).heap[k]? = wc.heap[k]?) := fun k hk => (Below.heap_setCell _ _ _ _ hk).trans ((Below.heap_setCell _ _ _ _ hk).trans ((Below.heap_setCell _ _ _ _ hk).trans ((Below.heap_setCell _ _ _ _ hk))))
                          have HS12 : Hid (((((wc.setCell ⟨oB, 14, none⟩ (.slice (some ⟨H2, 0, none⟩) m m)).setCell ⟨oB, 15, none⟩ (.slice (some ⟨H2 + 1, 0, none⟩) m m)).setCell ⟨oB, 16, none⟩ (.slice (some ⟨H2 + 2, 0, none⟩) m m)).setCell ⟨oB, 17, none⟩ (.slice (some ⟨H2 + 3, 0, none⟩) m m)).heap.size = wc.heap.size) := by unfold Hid; simp
                          have HBC : Hid (Below R0 w wc) := HBW.out.trans (HU2.out.bel.mono (by rw [← HH2.out]; have h1 := HZ10.out; have h2 := HLO.out; omega))
                          have HB12 : Hid (Below R0 w ((((wc.setCell ⟨oB, 14, none⟩ (.slice (some ⟨H2, 0, none⟩) m m)).setCell ⟨oB, 15, none⟩ (.slice (some ⟨H2 + 1, 0, none⟩) m m)).setCell ⟨oB, 16, none⟩ (.slice (some ⟨H2 + 2, 0, none⟩) m m)).setCell ⟨oB, 17, none⟩ (.slice (some ⟨H2 + 3, 0, none⟩) m m))) := (((HBC.out.setCell HLO.out _).setCell HLO.out _).setCell HLO.out _).setCell HLO.out _
                          have HUS : Hid (∀ w'' : World, (∀ k, H2 ≤ k → k < ((((wc.setCell ⟨oB, 14, none⟩ (.slice (some ⟨H2, 0, none⟩) m m)).setCell ⟨oB, 15, none⟩ (.slice (some ⟨H2 + 1, 0, none⟩) m m)).setCell ⟨oB, 16, none⟩ (.slice (some ⟨H2 + 2, 0, none⟩) m m)).setCell ⟨oB, 17, none⟩ (.slice (some ⟨H2 + 3, 0, none⟩) m m)).heap.size → w''.heap[k]? = ((((wc.setCell ⟨oB, 14, none⟩ (.slice (some ⟨H2, 0, none⟩) m m)).setCell ⟨oB, 15, none⟩ (.slice (some ⟨H2 + 1, 0, none⟩) m m)).setCell ⟨oB, 16, none⟩ (.slice (some ⟨H2 + 2, 0, none⟩) m m)).setCell ⟨oB, 17, none⟩ (.slice (some ⟨H2 + 3, 0, none⟩) m m)).heap[k]?) → URows (vinOf txns ni IR rt ri rs bs) (fun t => (vinOf txns ni IR rt ri rs bs).seenBy t (vinOf txns ni IR rt ri rs bs).nr) H2 w'') := by
                            intro w'' hk
                            have h := HU2.out
                            rw [← HVM.out] at h
                            refine urows_of (vin_fits HZ.out.dom) (by rw [HVM.out]; exact bm) bn (fun j i _ hi => seenBy_mem hi) (fun j _ => Nat.le_trans (seenBy_len _ _ _) (by show rt.length ≤ 1048576; rw [HZ.out.lt]; exact br)) h (fun k h1 h2 => ?_)
                            exact (hk k h1 (by rw [HS12.out]; exact h2)).trans (HK12.out k (by rw [← HH2.out] at h1; have h3 := HZ10.out; omega))
                          obtain ⟨w12, hw12⟩ : ∃ w12, ((((wc.setCell ⟨oB, 14, none⟩ (.slice (some ⟨H2, 0, none⟩) m m)).setCell ⟨oB, 15, none⟩ (.slice (some ⟨H2 + 1, 0, none⟩) m m)).setCell ⟨oB, 16, none⟩ (.slice (some ⟨H2 + 2, 0, none⟩) m m)).setCell ⟨oB, 17, none⟩ (.slice (some ⟨H2 + 3, 0, none⟩) m m)) = w12 := ⟨_, rfl⟩
                          rw [hw12] at HF12 HK12 HS12 HB12 HUS
                          rw [hw12]
                          clear hw12
                          have HL : Hid (∀ k, k ≠ oB → k < H2 → w12.heap[k]? = w10.heap[k]?) := fun k h1 h2 => (HK12.out k h1).trans (HU2.out.bel.block k h2)
                          have HR12 : Hid (w12.rowIs R0 41 18 z41) := HR8.out.of_block ((HL.out R0 (by have h := HRO.out; omega) (by rw [← HH2.out]; have h1 := HZ10.out; have h2 := HRO.out; omega)).trans (HA10.out R0 HRO.out))
                          have O0 : Hid (w12.cell? ⟨oB, 0, none⟩ = some (.bool true)) := HF12.out.cell (i := 0) (by omega)
                          have O1 : Hid (w12.cell? ⟨oB, 1, none⟩ = some (.bool false)) := HF12.out.cell (i := 1) (by omega)
                          have O2 : Hid (w12.cell? ⟨oB, 2, none⟩ = some (.slice xa m xc)) := HF12.out.cell (i := 2) (by omega)
                          have O3 : Hid (w12.cell? ⟨oB, 3, none⟩ = some (.slice (some ⟨b 1, 0, none⟩) m m)) := HF12.out.cell (i := 3) (by omega)
                          have O4 : Hid (w12.cell? ⟨oB, 4, none⟩ = some (.slice (some ⟨b 6, 0, none⟩) ni ni)) := HF12.out.cell (i := 4) (by omega)
                          have O5 : Hid (w12.cell? ⟨oB, 5, none⟩ = some (.slice (some ⟨b 8, 0, none⟩) m m)) := HF12.out.cell (i := 5) (by omega)
                          have O6 : Hid (w12.cell? ⟨oB, 6, none⟩ = some (.slice (some ⟨b 9, 0, none⟩) ni ni)) := HF12.out.cell (i := 6) (by omega)
                          have O7 : Hid (w12.cell? ⟨oB, 7, none⟩ = some (.slice (some ⟨b 7, 0, none⟩) m m)) := HF12.out.cell (i := 7) (by omega)
                          have O8 : Hid (w12.cell? ⟨oB, 8, none⟩ = some (.slice (some ⟨b 4, 0, none⟩) m m)) := HF12.out.cell (i := 8) (by omega)
                          have O9 : Hid (w12.cell? ⟨oB, 9, none⟩ = some (.slice (some ⟨b 5, 0, none⟩) ni ni)) := HF12.out.cell (i := 9) (by omega)
                          have O10 : Hid (w12.cell? ⟨oB, 10, none⟩ = some (.slice (some ⟨H1, 0, none⟩) m m)) := HF12.out.cell (i := 10) (by omega)
                          have O11 : Hid (w12.cell? ⟨oB, 11, none⟩ = some (.slice (some ⟨H1 + 1, 0, none⟩) m m)) := HF12.out.cell (i := 11) (by omega)
                          have O12 : Hid (w12.cell? ⟨oB, 12, none⟩ = some (.slice (some ⟨H1 + 2, 0, none⟩) m m)) := HF12.out.cell (i := 12) (by omega)
                          have O13 : Hid (w12.cell? ⟨oB, 13, none⟩ = some (.slice (some ⟨H1 + 3, 0, none⟩) m m)) := HF12.out.cell (i := 13) (by omega)
                          have O14 : Hid (w12.cell? ⟨oB, 14, none⟩ = some (.slice (some ⟨H2, 0, none⟩) m m)) := HF12.out.cell (i := 14) (by omega)
                          have O15 : Hid (w12.cell? ⟨oB, 15, none⟩ = some (.slice (some ⟨H2 + 1, 0, none⟩) m m)) := HF12.out.cell (i := 15) (by omega)
                          have O16 : Hid (w12.cell? ⟨oB, 16, none⟩ = some (.slice (some ⟨H2 + 2, 0, none⟩) m m)) := HF12.out.cell (i := 16) (by omega)
                          have O17 : Hid (w12.cell? ⟨oB, 17, none⟩ = some (.slice (some ⟨H2 + 3, 0, none⟩) m m)) := HF12.out.cell (i := 17) (by omega)
                          go_cut [] (fun wx => Hid (wx.rowIs R0 41 18 (fun i => (#[.bool true, .bool false, .slice xa m xc, .slice (some ⟨b 1, 0, none⟩) m m, .slice (some ⟨b 6, 0, none⟩) ni ni, .slice (some ⟨b 8, 0, none⟩) m m, .slice (some ⟨b 9, 0, none⟩) ni ni, .slice (some ⟨b 7, 0, none⟩) m m, .slice (some ⟨b 4, 0, none⟩) m m, .slice (some ⟨b 5, 0, none⟩) ni ni, .slice (some ⟨H1, 0, none⟩) m m, .slice (some ⟨H1 + 1, 0, none⟩) m m, .slice (some ⟨H1 + 2, 0, none⟩) m m, .slice (some ⟨H1 + 3, 0, none⟩) m m, .slice (some ⟨H2, 0, none⟩) m m, .slice (some ⟨H2 + 1, 0, none⟩) m m, .slice (some ⟨H2 + 2, 0, none⟩) m m, .slice (some ⟨H2 + 3, 0, none⟩) m m] : Array Value)[i]?.getD default)) ∧ Hid (∀ k, k ≠ R0 → wx.heap[k]? = w12.heap[k]?) ∧ Hid (wx.heap.size = w12.heap.size) ∧ Hid (Below R0 w wx))
                          case first =>
                            as_aux_lemma =>
                              go_wp2_with (first | (refine load18 _ rfl (.tmp 25) rfl oB rfl (.bool true) (.bool false) (.slice xa m xc) (.slice (some ⟨b 1, 0, none⟩) m m) (.slice (some ⟨b 6, 0, none⟩) ni ni) (.slice (some ⟨b 8, 0, none⟩) m m) (.slice (some ⟨b 9, 0, none⟩) ni ni) (.slice (some ⟨b 7, 0, none⟩) m m) (.slice (some ⟨b 4, 0, none⟩) m m) (.slice (some ⟨b 5, 0, none⟩) ni ni) (.slice (some ⟨H1, 0, none⟩) m m) (.slice (some ⟨H1 + 1, 0, none⟩) m m) (.slice (some ⟨H1 + 2, 0, none⟩) m m) (.slice (some ⟨H1 + 3, 0, none⟩) m m) (.slice (some ⟨H2, 0, none⟩) m m) (.slice (some ⟨H2 + 1, 0, none⟩) m m) (.slice (some ⟨H2 + 2, 0, none⟩) m m) (.slice (some ⟨H2 + 3, 0, none⟩) m m) O0.out O1.out O2.out O3.out O4.out O5.out O6.out O7.out O8.out O9.out O10.out O11.out O12.out O13.out O14.out O15.out O16.out O17.out ?_) | (refine store18 _ rfl (.tmp 16) (.tmp 182) rfl R0 rfl (.bool true) (.bool false) (.slice xa m xc) (.slice (some ⟨b 1, 0, none⟩) m m) (.slice (some ⟨b 6, 0, none⟩) ni ni) (.slice (some ⟨b 8, 0, none⟩) m m) (.slice (some ⟨b 9, 0, none⟩) ni ni) (.slice (some ⟨b 7, 0, none⟩) m m) (.slice (some ⟨b 4, 0, none⟩) m m) (.slice (some ⟨b 5, 0, none⟩) ni ni) (.slice (some ⟨H1, 0, none⟩) m m) (.slice (some ⟨H1 + 1, 0, none⟩) m m) (.slice (some ⟨H1 + 2, 0, none⟩) m m) (.slice (some ⟨H1 + 3, 0, none⟩) m m) (.slice (some ⟨H2, 0, none⟩) m m) (.slice (some ⟨H2 + 1, 0, none⟩) m m) (.slice (some ⟨H2 + 2, 0, none⟩) m m) (.slice (some ⟨H2 + 3, 0, none⟩) m m) rfl HR12.out rfl rfl rfl rfl rfl rfl rfl rfl rfl rfl rfl rfl rfl rfl rfl rfl rfl rfl ?_) | fail)
                              go_meet
                              exact ⟨row_set18 HR12.out (.bool true) (.bool false) (.slice xa m xc) (.slice (some ⟨b 1, 0, none⟩) m m) (.slice (some ⟨b 6, 0, none⟩) ni ni) (.slice (some ⟨b 8, 0, none⟩) m m) (.slice (some ⟨b 9, 0, none⟩) ni ni) (.slice (some ⟨b 7, 0, none⟩) m m) (.slice (some ⟨b 4, 0, none⟩) m m) (.slice (some ⟨b 5, 0, none⟩) ni ni) (.slice (some ⟨H1, 0, none⟩) m m) (.slice (some ⟨H1 + 1, 0, none⟩) m m) (.slice (some ⟨H1 + 2, 0, none⟩) m m) (.slice (some ⟨H1 + 3, 0, none⟩) m m) (.slice (some ⟨H2, 0, none⟩) m m) (.slice (some ⟨H2 + 1, 0, none⟩) m m) (.slice (some ⟨H2 + 2, 0, none⟩) m m) (.slice (some ⟨H2 + 3, 0, none⟩) m m), fun k hk => blk_set18 (.bool true) (.bool false) (.slice xa m xc) (.slice (some ⟨b 1, 0, none⟩) m m) (.slice (some ⟨b 6, 0, none⟩) ni ni) (.slice (some ⟨b 8, 0, none⟩) m m) (.slice (some ⟨b 9, 0, none⟩) ni ni) (.slice (some ⟨b 7, 0, none⟩) m m) (.slice (some ⟨b 4, 0, none⟩) m m) (.slice (some ⟨b 5, 0, none⟩) ni ni) (.slice (some ⟨H1, 0, none⟩) m m) (.slice (some ⟨H1 + 1, 0, none⟩) m m) (.slice (some ⟨H1 + 2, 0, none⟩) m m) (.slice (some ⟨H1 + 3, 0, none⟩) m m) (.slice (some ⟨H2, 0, none⟩) m m) (.slice (some ⟨H2 + 1, 0, none⟩) m m) (.slice (some ⟨H2 + 2, 0, none⟩) m m) (.slice (some ⟨H2 + 3, 0, none⟩) m m) hk, size_set18 (.bool true) (.bool false) (.slice xa m xc) (.slice (some ⟨b 1, 0, none⟩) m m) (.slice (some ⟨b 6, 0, none⟩) ni ni) (.slice (some ⟨b 8, 0, none⟩) m m) (.slice (some ⟨b 9, 0, none⟩) ni ni) (.slice (some ⟨b 7, 0, none⟩) m m) (.slice (some ⟨b 4, 0, none⟩) m m) (.slice (some ⟨b 5, 0, none⟩) ni ni) (.slice (some ⟨H1, 0, none⟩) m m) (.slice (some ⟨H1 + 1, 0, none⟩) m m) (.slice (some ⟨H1 + 2, 0, none⟩) m m) (.slice (some ⟨H1 + 3, 0, none⟩) m m) (.slice (some ⟨H2, 0, none⟩) m m) (.slice (some ⟨H2 + 1, 0, none⟩) m m) (.slice (some ⟨H2 + 2, 0, none⟩) m m) (.slice (some ⟨H2 + 3, 0, none⟩) m m), below_set18 HB12.out (.bool true) (.bool false) (.slice xa m xc) (.slice (some ⟨b 1, 0, none⟩) m m) (.slice (some ⟨b 6, 0, none⟩) ni ni) (.slice (some ⟨b 8, 0, none⟩) m m) (.slice (some ⟨b 9, 0, none⟩) ni ni) (.slice (some ⟨b 7, 0, none⟩) m m) (.slice (some ⟨b 4, 0, none⟩) m m) (.slice (some ⟨b 5, 0, none⟩) ni ni) (.slice (some ⟨H1, 0, none⟩) m m) (.slice (some ⟨H1 + 1, 0, none⟩) m m) (.slice (some ⟨H1 + 2, 0, none⟩) m m) (.slice (some ⟨H1 + 3, 0, none⟩) m m) (.slice (some ⟨H2, 0, none⟩) m m) (.slice (some ⟨H2 + 1, 0, none⟩) m m) (.slice (some ⟨H2 + 2, 0, none⟩) m m) (.slice (some ⟨H2 + 3, 0, none⟩) m m)⟩
                          case rest =>
                            as_aux_lemma =>
                              obtain ⟨HX, HKX, HSX, HBX⟩ := hcut
                              refine use_ret (by assumption) ?_
                              refine bodyPost_ret (ret23 _ _ R0 rfl _ _ _ _ _ _ _ _ _ _ _ _ _ _ _ _ _ _ (HX.out.cell (i := 0) (by omega)) (HX.out.cell (i := 1) (by omega)) (HX.out.cell (i := 2) (by omega)) (HX.out.cell (i := 3) (by omega)) (HX.out.cell (i := 4) (by omega)) (HX.out.cell (i := 5) (by omega)) (HX.out.cell (i := 6) (by omega)) (HX.out.cell (i := 7) (by omega)) (HX.out.cell (i := 8) (by omega)) (HX.out.cell (i := 9) (by omega)) (HX.out.cell (i := 10) (by omega)) (HX.out.cell (i := 11) (by omega)) (HX.out.cell (i := 12) (by omega)) (HX.out.cell (i := 13) (by omega)) (HX.out.cell (i := 14) (by omega)) (HX.out.cell (i := 15) (by omega)) (HX.out.cell (i := 16) (by omega)) (HX.out.cell (i := 17) (by omega))) rfl ?_
                              refine ⟨by rw [hR]; exact HBX.out, .inr ⟨g, b, ra2, ra3, ra4, ra5, rc2, rc3, rc4, rc5, H1, H2, by rw [HVM.out]; rfl, ?_, ?_, ?_, ?_⟩⟩
                              · have h := HNB.out
                                rw [← HZ.out.lt] at h
                                exact h
                              · refine HED.out _ ?_ (fun k h1 h2 => ?_)
                                · rw [HSX.out, HS12.out]
                                  have h1 := HU2.out.bel.size
                                  have h2 := HZ10.out
                                  omega
                                · rw [H5z.out] at h1
                                  rw [HKX.out k (by omega)]
                                  exact ((HL.out k (by omega) (by rw [← HH2.out]; have h3 := HZ10.out; omega)).trans (HA10.out k h2)).trans (HK8.out k h2)
                              · refine HUR.out _ (fun k h1 h2 => ?_)
                                have h3 := HLH.out
                                have h4 := HRO.out
                                rw [HKX.out k (by omega)]
                                exact HL.out k (by omega) (by rw [← HH2.out]; exact h2)
                              · refine HUS.out _ (fun k h1 h2 => ?_)
                                have h3 := HZ10.out
                                rw [HH2.out] at h3
                                have h4 := HRO.out
                                exact HKX.out k (by omega)
end Go.Proofs.Qxb6603374a
