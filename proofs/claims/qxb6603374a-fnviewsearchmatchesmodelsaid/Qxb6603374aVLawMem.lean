/- Small parts of the two FnViewSearch laws: their zzBytes, the copy of a row of bools. -/
import Derived.Test.Qxb6603374aLawMem
import Derived.Test.Qxb6603374aEqBools
namespace Go.Proofs.Qxb6603374a
open Go.ChangeShapes Go.WideShapes Go.ChangeAt Go.RowKit

set_option maxRecDepth 100000 in
set_option maxHeartbeats 4000000 in
theorem vbytes7_any (pa xa ia oa ta ma sa wa : Option Addr) (pn pc xn xc ni ic on oc tn tc mn mc sn sc bn bc : Nat) (ira : Nat → Option Addr) (irc : Nat → Nat) (IR : Nat → List Int) (w : World) (hI : RowsAt w ia ni ira irc IR) :
    Calls Try.prog 30 #[.slice pa pn pc, .slice xa xn xc, .slice ia ni ic, .slice oa on oc, .slice ta tn tc, .slice ma mn mc, .slice sa sn sc, .slice wa bn bc] w fun e w' => BoolEnd (fun _ => True) w e w' := by
  go_enter Try.func30, Try.ntmps30
  go_wp2
  all_goals first
    | (go_ret; exact BoolEnd.mk false rfl trivial rfl)
    | skip
  go_loop [17, 18] (fun s i => ∃ k z : Nat, k ≤ ni ∧ z ≤ 1048576 ∧ i = .int .i64 k ∧ s = .int .i64 z) (fun _ i => ni - (intOf i).toNat)
  case atStart => exact ⟨0, pn + xn + ni, by omega, by omega, rfl, by go_num⟩
  case round =>
    obtain ⟨k, z, hk, hz, rfl, rfl⟩ := hrel
    by_cases hlt : (k : Int) < ni
    · obtain ⟨tb, tq, rfl, hc, -, hm⟩ := hI k (by omega)
      go_wp2
      all_goals first
        | (go_ret; exact BoolEnd.mk false rfl trivial rfl)
        | skip
      go_round
      case rel => exact ⟨k + 1, z + (IR k).length, by omega, by omega, by go_num, by go_num⟩
      case measure => simp [intOf]; omega
    · go_wp2
      all_goals (go_ret; first | exact BoolEnd.mk false rfl trivial rfl | exact BoolEnd.mk true rfl trivial rfl)

set_option maxRecDepth 100000 in
set_option maxHeartbeats 4000000 in
theorem vbytes6_any (pa xa ia oa ta ma sa wa : Option Addr) (pn pc xn xc ni ic on oc tn tc mn mc sn sc bn bc : Nat) (ira : Nat → Option Addr) (irc : Nat → Nat) (IR : Nat → List Int) (w : World) (hI : RowsAt w ia ni ira irc IR) :
    Calls Try.prog 21 #[.slice pa pn pc, .slice xa xn xc, .slice ia ni ic, .slice oa on oc, .slice ta tn tc, .slice ma mn mc, .slice sa sn sc, .slice wa bn bc] w fun e w' => BoolEnd (fun _ => True) w e w' := by
  go_enter Try.func21, Try.ntmps21
  go_wp2
  all_goals first
    | (go_ret; exact BoolEnd.mk false rfl trivial rfl)
    | skip
  go_loop [17, 18] (fun s i => ∃ k z : Nat, k ≤ ni ∧ z ≤ 1048576 ∧ i = .int .i64 k ∧ s = .int .i64 z) (fun _ i => ni - (intOf i).toNat)
  case atStart => exact ⟨0, pn + xn + ni, by omega, by omega, rfl, by go_num⟩
  case round =>
    obtain ⟨k, z, hk, hz, rfl, rfl⟩ := hrel
    by_cases hlt : (k : Int) < ni
    · obtain ⟨tb, tq, rfl, hc, -, hm⟩ := hI k (by omega)
      go_wp2
      all_goals first
        | (go_ret; exact BoolEnd.mk false rfl trivial rfl)
        | skip
      go_round
      case rel => exact ⟨k + 1, z + (IR k).length, by omega, by omega, by go_num, by go_num⟩
      case measure => simp [intOf]; omega
    · go_wp2
      all_goals (go_ret; first | exact BoolEnd.mk false rfl trivial rfl | exact BoolEnd.mk true rfl trivial rfl)

theorem made_listB (n : Nat) : madeCells #[Value.bool false] n = (List.replicate n (Value.bool false)).toArray := by
  rw [← toList_madeCells_one]
theorem bools_at (bs : List Bool) (i : Nat) (hi : i < bs.length) : (bs.map Value.bool)[i]? = some (.bool (bs.getD i false)) := by
  simp [List.getElem?_map, List.getD, List.getElem?_eq_getElem hi]
theorem brow_of_block {w : World} {g : Nat} {bs : List Bool} (hg : w.heap[g]? = some (.cells (bs.map Value.bool).toArray 4 (0, 0))) : BRow w (some ⟨g, 0, none⟩) bs := fun i h => by
  refine ⟨g, 0, rfl, ?_⟩
  rw [Nat.zero_add, cell_of_row w g i _ 4 (0, 0) hg]
  simpa using bools_at bs i h
theorem infoB : (Try.prog.info? 4).map (fun i => (i.zero, i.size, i.bytes)) = some (some (.bool false), 1, 1) := by kernel_rfl
/-- 'zzc := make([]bool, len(xs)); copy(zzc, xs)'. -/
theorem copy_bools (w : World) {ops : Array Oper} {rest : List Oper} {o : Oper} {a : Act} {Q : Exit → Act → World → Prop} (hgd : o.guard = none) (d s : Operand)
    (ho : o.op = .call { callee := .builtin .copy, args := #[d, s], argTypes := #[28, 28] }) (oa : Option Addr) (oc n : Nat) (bs : List Bool) (hn : bs.length = n) (hd : a.eval d = .slice (some ⟨w.heap.size, 0, none⟩) n n) (hs : a.eval s = .slice oa n oc) (hO : BRow w oa bs)
    (h : ∀ w', Hid (BRow w' (some ⟨w.heap.size, 0, none⟩) bs) → Hid (Below w.heap.size w w') → wpList Try.prog ops Q rest (a.put o.dst (goInt n)) w') :
    wpList Try.prog ops Q (o :: rest) a (w.alloc (.cells (madeCells #[.bool false] n) 4)) := by
  subst hn
  obtain ⟨i, hi, hz, hsz, hb⟩ := info_parts infoB
  have hlen : (bs.map Value.bool).length = bs.length := by simp
  refine wpList_copy_splice hgd d s 28 28 ho 4 Try.underlying28 (by rw [hi]; simp [hsz]) _ _ _ _ _ _ hd hs w.heap.size 0 (List.replicate bs.length (Value.bool false)) 4 (by rw [made_listB]; exact heap_alloc_new _ _) (bs.map Value.bool) (by simp) (fun h0 => ⟨rfl, ?_⟩) (by simp) (fun v hv => by obtain ⟨b, -, rfl⟩ := List.mem_map.1 hv; rfl) w.heap.size w ((Below.refl _ _).alloc (Nat.le_refl _) _) (Nat.le_refl _) ?_
  · rw [hlen] at h0
    obtain ⟨b, off, hoa, -⟩ := hO 0 h0
    refine ⟨⟨b, off, none⟩, hoa, fun j v hj => ?_⟩
    have hj2 : j < bs.length := by
      have := (List.getElem?_eq_some_iff.1 hj).1
      simpa using this
    obtain ⟨b', off', hoa', hc⟩ := hO j hj2
    rw [hoa] at hoa'
    cases hoa'
    rw [bools_at bs j hj2] at hj
    cases hj
    have hadd : (⟨b, off, none⟩ : Addr).add j = ⟨b, off + j, none⟩ := by unfold Addr.add; split <;> simp_all
    rw [hadd]
    exact cellOld ((Below.refl w.heap.size w).alloc (Nat.le_refl _) _) hc
  · intro w' hg hbel
    have e : splice (List.replicate bs.length (Value.bool false)) 0 (bs.map Value.bool) = bs.map Value.bool := by simp [splice]
    have hg' := hg.out
    rw [e] at hg'
    have := h w' (brow_of_block hg') hbel
    rw [hlen]
    exact this
/-- The eight arguments in a world behind w1. -/
structure L8 (pa xa ia oa ta ma sa wa : Option Addr) (ni : Nat) (ira : Nat → Option Addr) (irc : Nat → Nat) (IR : Nat → List Int) (ops txns ro rt ri rs : List Int) (bs : List Bool) (w1 wx : World) : Prop where
  hP : Row wx pa ops
  hX : Row wx xa txns
  hI : RowsAt wx ia ni ira irc IR
  hO : Row wx oa ro
  hT : Row wx ta rt
  hM : Row wx ma ri
  hS : Row wx sa rs
  hW : BRow wx wa bs
  bel : Below w1.heap.size w1 wx
theorem L8.kept {pa xa ia oa ta ma sa wa : Option Addr} {ni : Nat} {ira : Nat → Option Addr} {irc : Nat → Nat} {IR : Nat → List Int} {ops txns ro rt ri rs : List Int} {bs : List Bool} {w1 wx w' : World} (h : L8 pa xa ia oa ta ma sa wa ni ira irc IR ops txns ro rt ri rs bs w1 wx) (hb : Below wx.heap.size wx w') : L8 pa xa ia oa ta ma sa wa ni ira irc IR ops txns ro rt ri rs bs w1 w' :=
  ⟨h.hP.kept hb, h.hX.kept hb, h.hI.kept hb, h.hO.kept hb, h.hT.kept hb, h.hM.kept hb, h.hS.kept hb, h.hW.kept hb, h.bel.trans (hb.mono h.bel.size)⟩
/-- zzB1CloneInts, whatever the length: a row of the same numbers. -/
def CloneEnd (zs : List Int) (n : Nat) (w : World) (e : Ending) (w' : World) : Prop := ∃ a c, e = .returned (.slice a n c) ∧ Row w' a zs ∧ Below w.heap.size w w'
set_option maxRecDepth 100000 in
set_option maxHeartbeats 1000000 in
theorem clone_zero (ka : Option Addr) (kc : Nat) (w : World) : Calls Try.prog 18 #[.slice ka 0 kc] w fun e w' => CloneEnd [] 0 w e w' := by
  have hmk : ∀ w, (Instr.makeSlice 24 (.int .i64 0) (.int .i64 0)).run Try.prog w = .ok (.slice (some ⟨w.heap.size, 0, none⟩) 0 0) (w.alloc (.cells (madeCells #[.int .i64 0] 0) 3)) := fun w => run_make_row' (P := Try.prog) 24 3 (.int .i64 0) 8 Try.underlying24 Try.info3 rfl .i64 .i64 0 (by omega) (by omega) w
  have q24 : ∀ (w : World) (a : Option Addr) (n c n' c' : Nat), (binOp .eql 24 (.slice a n c) (.slice none n' c')).run Try.prog w = .ok (.bool a.isNone) w := fun w a n c n' c' => Lib.run_eql_slice_nil w _ _ a n c n' c' Try.underlying24
  have hr : ∀ (w' : World) (a : Option Addr), Row w' a [] := fun _ _ i hi => absurd hi (Nat.not_lt_zero _)
  have HR := hidden hr
  clear hr
  cases ka with
  | none =>
    go_enter Try.func18, Try.ntmps18
    go_wp2
    go_ret
    exact ⟨none, _, rfl, HR.out _ _, Below.refl _ _⟩
  | some ad =>
    go_enter Try.func18, Try.ntmps18
    go_wp2
    clear hmk
    go_loopw [4] (fun i wr => i = .int .i64 0 ∧ Below w.heap.size w wr) (fun _ _ => 0)
    case atStart => exact ⟨rfl, (Below.refl _ _).alloc (Nat.le_refl _) _⟩
    case round =>
      obtain ⟨rfl, hb⟩ := hrel
      go_wp2
      go_ret
      exact ⟨_, _, rfl, HR.out _ _, hb⟩
theorem clone_all (ka : Option Addr) (kc n : Nat) (zs : List Int) (w : World) (hK : Row w ka zs) (hl : zs.length = n) (hn : n ≤ 1048576) : Calls Try.prog 18 #[.slice ka n kc] w fun e w' => CloneEnd zs n w e w' := by
  subst hl
  by_cases h0 : 0 < zs.length
  · refine (clone_any ka kc zs w hK h0 hn).mono ?_
    rintro e w' ⟨rfl, h2, h3, -⟩
    refine ⟨_, _, rfl, fun i hi => ?_, h3⟩
    obtain ⟨_, _, _, _, h4⟩ := hK i hi
    exact ⟨w.heap.size, 0, rfl, by rw [Nat.zero_add, h2.cell hi], h4⟩
  · have e : zs = [] := List.eq_nil_of_length_eq_zero (by omega)
    subst e
    exact clone_zero ka kc w
end Go.Proofs.Qxb6603374a
