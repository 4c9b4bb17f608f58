/- The state of newViewSearch's walk. -/
import Derived.Test.Qxb6603374aVDom
import Derived.Test.Qxb6603374aVMap
import Derived.Test.Qxb6603374aVPlain
import Derived.Test.Qxb6603374aMakes
import Derived.Test.Qxb6603374aVs
import Derived.OwnWalk
import Derived.BigRegion
import Derived.Deep.RegionLaw
import Derived.Deep.RegionHeld
import Derived.Laws.Tables
import Derived.Test.Qxb6603374aNvSt
import Derived.Test.Qxb6603374aSource
import Derived.Deep.LoopGhost
import Derived.Deep.CutBlock
import Derived.Deep.DeepCutAuto
import Derived.Handy
namespace Go.Proofs.Qxb6603374a
open Go.ChangeShapes Go.WideShapes Go.ChangeAt Go.RowKit

/-- The index of the first k transactions. -/
def Idx (txns : List Int) (k : Nat) (f : Value → Option Int) : Prop := ∀ i, i < k → f (.int .i64 (txns.getD i 0)) = some (i : Int)
theorem Idx.next {txns : List Int} {k : Nat} {f : Value → Option Int} {X : Int} (h : Idx txns k f) (ha : Asc txns) (hk : k < txns.length) (hX : txns.getD k 0 = X) : Idx txns (k + 1) (updV f (.int .i64 X) (k : Int)) := fun i hi => by
  subst hX
  by_cases e : i = k
  · subst e; exact updV_same _ _ _
  · have h1 := ha i k (by omega) hk
    rw [updV_other]
    · exact h i (by omega)
    · intro e2
      injection e2 with _ e3
      omega

theorem Try.info104 : (Try.prog.info? 104).map (fun i => (i.zero, i.size, i.bytes)) = some (some (.slice none 0 0), 1, 24) := by kernel_rfl
theorem Try.info24 : (Try.prog.info? 24).map (fun i => (i.zero, i.size, i.bytes)) = some (some (.slice none 0 0), 1, 24) := by kernel_rfl
theorem built92 (a0 a1 a2 a3 a4 a5 a6 a7 a8 a9 : Option Addr) (n0 n1 n2 n3 n4 n5 n6 n7 n8 n9 c0 c1 c2 c3 c4 c5 c6 c7 c8 c9 : Nat) :
    Try.prog.built 92 [(0, .slice a0 n0 c0), (2, .slice a2 n2 c2), (3, .slice a3 n3 c3), (4, .slice a4 n4 c4), (5, .slice a5 n5 c5), (6, .slice a6 n6 c6), (1, .slice a1 n1 c1), (7, .slice a7 n7 c7), (8, .slice a8 n8 c8), (9, .slice a9 n9 c9)] = some #[.slice a0 n0 c0, .slice a1 n1 c1, .slice a2 n2 c2, .slice a3 n3 c3, .slice a4 n4 c4, .slice a5 n5 c5, .slice a6 n6 c6, .slice a7 n7 c7, .slice a8 n8 c8, .slice a9 n9 c9] := by kernel_rfl
theorem run_vs (w : World) (a0 a1 a2 a3 a4 a5 a6 a7 a8 a9 : Option Addr) (n0 n1 n2 n3 n4 n5 n6 n7 n8 n9 c0 c1 c2 c3 c4 c5 c6 c7 c8 c9 : Nat) :
    (Instr.build 92 #[(0, .slice a0 n0 c0), (2, .slice a2 n2 c2), (3, .slice a3 n3 c3), (4, .slice a4 n4 c4), (5, .slice a5 n5 c5), (6, .slice a6 n6 c6), (1, .slice a1 n1 c1), (7, .slice a7 n7 c7), (8, .slice a8 n8 c8), (9, .slice a9 n9 c9)]).run Try.prog w = .ok (.agg #[.slice a0 n0 c0, .slice a1 n1 c1, .slice a2 n2 c2, .slice a3 n3 c3, .slice a4 n4 c4, .slice a5 n5 c5, .slice a6 n6 c6, .slice a7 n7 c7, .slice a8 n8 c8, .slice a9 n9 c9]) w := run_build w 92 _ _ (built92 a0 a1 a2 a3 a4 a5 a6 a7 a8 a9 n0 n1 n2 n3 n4 n5 n6 n7 n8 n9 c0 c1 c2 c3 c4 c5 c6 c7 c8 c9)
theorem make_hint (m : Nat) (w : World) : (Instr.makeMap 60 (some (.int .i64 (m : Int)))).run Try.prog w = .ok (.map (some w.heap.size)) (w.alloc (.map #[] 0)) := by
  simp [Instr.makeMap, run_underlying und60, asInt, asIntOf, Result.andThen]


/-- What newViewSearch is given. -/
structure NvIn (V : VIn) (opB rdB pn m ni nr : Nat) (xa ia : Option Addr) (ira : Nat → Option Addr) (irc : Nat → Nat) (IR : Nat → List Int) (txns : List Int) (op : Nat → Nat) (rop : Nat → Int) (w : World) : Prop where
  vm : V.m = m
  vn : V.ni = ni
  vr : V.nr = nr
  fits : V.Fits
  row : Row w xa txns
  len : txns.length = m
  asc : Asc txns
  pos : ∀ i, i < m → 1 ≤ txns.getD i 0
  op1 : ∀ i, i < pn → op i < m
  op2 : ∀ i, i < pn → w.cell? ⟨opB, i * 4 + 1, none⟩ = some (.int .i64 (txns.getD (op i) 0))
  inst : RowsAt w ia ni ira irc IR
  ir : ∀ x, x < ni → IR x = (V.row x).map (fun t => txns.getD t 0)
  rd0 : ∀ i, i < nr → w.cell? ⟨rdB, i * 5, none⟩ = some (.int .i64 (rop i))
  rd1 : ∀ i, i < nr → w.cell? ⟨rdB, i * 5 + 1, none⟩ = some (.int .i64 (txns.getD (V.rt i) 0))
  rd2 : ∀ i, i < nr → w.cell? ⟨rdB, i * 5 + 2, none⟩ = some (.int .i64 (V.it i : Int))
  rd3 : ∀ i, i < nr → w.cell? ⟨rdB, i * 5 + 3, none⟩ = some (.int .i64 (V.sn i))
  rd4 : ∀ i, i < nr → w.cell? ⟨rdB, i * 5 + 4, none⟩ = some (.bool (V.own i))
  sn : ∀ i, i < nr → I64 (V.sn i)
  sum : sumTo (fun x => (V.row x).length) ni ≤ 1048576
/-- What it answers. -/
def NvPost (V : VIn) (st : Nat → Int) (nr : Nat) (xa : Option Addr) (xc : Nat) (w : World) (e : Ending) (w' : World) : Prop :=
  Below w.heap.size w w' ∧ ((e = .returned (.tuple #[.pointer none, .bool false]) ∧ ∃ i, i < nr ∧ V.Bad i) ∨
    ∃ g b ra2 ra3 ra4 ra5 rc2 rc3 rc4 rc5, e = .returned (.tuple #[.pointer (some ⟨g, 0, none⟩), .bool true]) ∧ (∀ i, i < nr → ¬ V.Bad i) ∧ ∀ w'' : World, w'.heap.size ≤ w''.heap.size → (∀ k, w.heap.size ≤ k → k < w'.heap.size → w''.heap[k]? = w'.heap[k]?) → NvEnd V st xa xc g b ra2 ra3 ra4 ra5 rc2 rc3 rc4 rc5 w'')
theorem NvIn.i64 {V : VIn} {opB rdB pn m ni nr : Nat} {xa ia : Option Addr} {ira : Nat → Option Addr} {irc : Nat → Nat} {IR : Nat → List Int} {txns : List Int} {op : Nat → Nat} {rop : Nat → Int} {w : World} (h : NvIn V opB rdB pn m ni nr xa ia ira irc IR txns op rop w) {i : Nat} (hi : i < m) : 1 ≤ txns.getD i 0 ∧ txns.getD i 0 ≤ 9223372036854775807 := by
  obtain ⟨b, o, -, -, h1⟩ := h.row i (by rw [h.len]; exact hi)
  exact ⟨h.pos i hi, h1.2⟩

theorem make_97 (w : World) : (Instr.makeMap 97 none).run Try.prog w = .ok (.map (some w.heap.size)) (w.alloc (.map #[] 0)) := by
  simp [Instr.makeMap]
theorem built100 (a b : Int) : Try.prog.built 100 [(0, .int .i64 a), (1, .int .i64 b)] = some #[.int .i64 a, .int .i64 b] := by kernel_rfl
theorem run_100 (w : World) (a b : Int) : (Instr.build 100 #[(0, .int .i64 a), (1, .int .i64 b)]).run Try.prog w = .ok (.agg #[.int .i64 a, .int .i64 b]) w := run_build w 100 _ _ (built100 a b)
theorem Sv.next {wv wx : World} {b m pn d p : Nat} {op : Nat → Nat} {gk : Nat} (h : Sv wv b m (fun t => .int .i64 (stF op pn (pn - gk) t)) wx) (hg : (d : Int) + 1 = (gk : Int)) (hd : gk ≤ pn) (hp : op d = p) :
    Sv wv b m (fun t => .int .i64 (stF op pn (pn - (gk - 1)) t)) (wx.setCell ⟨b, p, none⟩ (.int .i64 (d : Int))).drew := by
  have h1 := (h.set p (.int .i64 (d : Int))).drew
  have e1 : pn - (gk - 1) = (pn - gk) + 1 := by omega
  have e2 : pn - 1 - (pn - gk) = d := by omega
  refine { h1 with row := h1.row.congr (fun t _ => ?_) }
  rw [e1]
  show at' _ _ _ _ = Value.int .i64 (at' (stF op pn (pn - gk)) (op (pn - 1 - (pn - gk))) ((pn - 1 - (pn - gk) : Nat) : Int) t)
  rw [e2, hp, at'_eq, at'_eq]
  by_cases e : t = p
  · rw [if_pos e, if_pos e]
  · rw [if_neg e, if_neg e]
/-- The letters of the walk. -/
structure CIs (C : NvC) (V : VIn) (m ni H gB lB xc : Nat) (xa : Option Addr) (f : Value → Option Int) : Prop where
  ok : C.Ok
  em : C.m = m
  eni : C.ni = ni
  eH : C.H = H
  eg : C.g = gB
  emp : C.mp = H
  elast : C.last = lB
  exc : C.xc = xc
  exa : C.xa = xa
  ef1 : C.f1 = f
  erc : C.rc = V.rcell
/-- The state of the walk. -/
def Ivn (V : VIn) (st : Nat → Int) (C : NvC) (w : World) (x s i fx : Nat) (wx : World) : Prop := ∃ f2 n2 ct v L, Nv C w f2 n2 ct v L wx ∧ Hd C ct v ∧ Pl V st x s i fx L f2 n2 ct
theorem ivn_start {V : VIn} {op : Nat → Nat} {pn : Nat} {w wr wv wx : World} {m ni xc gB start reads seenBy writes writers final placed pending armed : Nat} {xa : Option Addr} {f : Value → Option Int}
    (hM : MapFn wr 3 w.heap.size m f) (hB : Below w.heap.size w wr) (h0 : Vs0 wr.drew m ni xa xc gB start reads seenBy writes writers final placed pending armed wv) (hS : Sv wv start m (fun t => .int .i64 (stF op pn pn t)) wx) :
    ∃ C, CIs C V m ni w.heap.size gB wx.heap.size xc xa f ∧ Ivn V (stF op pn pn) C w 0 0 0 0 (wx.alloc (.map #[] 0)) := by
  obtain ⟨C, ct, hOk, h1, h2, h3, h4, h5, h6, h7, h8, h9, h10, c1, c6, c7, c8, c9, hHd, hNv⟩ := nv_start V.rcell hM hB h0 hS
  exact ⟨C, ⟨hOk, h1, h2, h3, h4, h5, h6, h7, h8, h9, h10⟩, _, _, ct, _, _, hNv, hHd, Pl.start (fun t _ => by rw [c1]) (fun t _ => by rw [c7]) (fun t _ => by rw [c8]) (fun t _ => by rw [c9])⟩
section
variable {V : VIn} {st : Nat → Int} {C : NvC} {w wx w' : World} {x s i fx m ni H gB lB xc : Nat} {xa : Option Addr} {f : Value → Option Int}
theorem Ivn.frame (h : Ivn V st C w x s i fx wx) (hC : C.Ok) (hb : Below wx.heap.size wx w') : Ivn V st C w x s i fx w' := by
  obtain ⟨f2, n2, ct, v, L, h1, h2, h3⟩ := h
  exact ⟨f2, n2, ct, v, L, h1.frame hC hb, h2, h3⟩
theorem Ivn.drew (h : Ivn V st C w x s i fx wx) (hC : C.Ok) : Ivn V st C w x s i fx wx.drew := h.frame hC ⟨rfl, rfl, rfl, Nat.le_refl _, fun _ _ => rfl⟩
theorem Ivn.bel (h : Ivn V st C w x s i fx wx) (hC : CIs C V m ni H gB lB xc xa f) : Below H w wx := by
  obtain ⟨f2, n2, ct, v, L, h1, h2, h3⟩ := h
  have := h1.bel
  rwa [hC.eH] at this
/-- The struct's field j. -/
theorem Ivn.g (h : Ivn V st C w x s i fx wx) (hC : CIs C V m ni H gB lB xc xa f) (j : Nat) (h1 : 1 ≤ j) (h2 : j ≤ 9) : wx.cell? ⟨gB, j, none⟩ = some (.slice (some ⟨C.bk j, 0, none⟩) (C.ln j) (C.ln j)) := by
  obtain ⟨f2, n2, ct, v, L, g1, g2, g3⟩ := h
  have := g1.gcell j h1 h2
  rw [hC.eg] at this
  exact this
theorem Ivn.cell (h : Ivn V st C w x s i fx wx) (j : Nat) (h1 : 1 ≤ j) (h2 : j ≤ 9) {k : Nat} (hk : k < C.ln j) : ∃ u, wx.cell? ⟨C.bk j, k, none⟩ = some u := by
  obtain ⟨f2, n2, ct, v, L, g1, g2, g3⟩ := h
  exact ⟨_, (g1.row j h1 h2).cell hk⟩
theorem Ivn.frozen (h : Ivn V st C w x s i fx wx) (j : Nat) (h1 : 1 ≤ j) (h2 : j ≤ 9) (k : Nat) : wx.frozen? ⟨C.bk j, k, none⟩ = false := by
  obtain ⟨f2, n2, ct, v, L, g1, g2, g3⟩ := h
  exact (g1.row j h1 h2).frozen k
/-- The index of a transaction. -/
theorem Ivn.look (h : Ivn V st C w x s i fx wx) (hC : CIs C V m ni H gB lB xc xa f) {txns : List Int} {k p : Nat} (hI : Idx txns k f) (hp : p < k) (h1 : 1 ≤ txns.getD p 0 ∧ txns.getD p 0 ≤ 9223372036854775807) : (Instr.lookup 60 (.map (some H)) (.int .i64 (txns.getD p 0)) false).run Try.prog wx = .ok (.int .i64 (p : Int)) wx := by
  obtain ⟨f2, n2, ct, v, L, g1, g2, g3⟩ := h
  have hm := g1.map1
  rw [hC.emp, hC.ef1] at hm
  have h := MapFn.look (t := 60) hm keyed3 und60 (key3 (z := txns.getD p 0) (Go.WalkArith.wf_i64 ⟨by omega, by omega⟩))
  rw [hI p hp] at h
  exact h
theorem Ivn.set6 (h : Ivn V st C w x s i x wx) (hC : C.Ok) (u : Value) : Ivn V st C w x s i x (wx.setCell ⟨C.bk 6, x, none⟩ u) := by
  obtain ⟨f2, n2, ct, v, L, g1, g2, g3⟩ := h
  exact ⟨f2, n2, _, v, L, g1.set hC (by omega) (by omega) x u, g2.other (by omega) (by omega) (by omega) (by omega) _, g3.set6 (Nat.le_refl _) u⟩
theorem Ivn.fin (h : Ivn V st C w x s i x wx) (hC : C.Ok) {z : Int} (hu : z = V.final x) : Ivn V st C w x s i (x + 1) (wx.setCell ⟨C.bk 6, x, none⟩ (.int .i64 z)) := by
  subst hu
  obtain ⟨f2, n2, ct, v, L, g1, g2, g3⟩ := h
  exact ⟨f2, n2, _, v, L, g1.set hC (by omega) (by omega) x _, g2.other (by omega) (by omega) (by omega) (by omega) _, g3.fin⟩
/-- The version s of item x. -/
theorem NvIn.ver {opB rdB pn nr : Nat} {ia : Option Addr} {ira : Nat → Option Addr} {irc : Nat → Nat} {IR : Nat → List Int} {txns : List Int} {op : Nat → Nat} {rop : Nat → Int} (h : NvIn V opB rdB pn m ni nr xa ia ira irc IR txns op rop w) (hx : x < ni) (hs : s < (IR x).length) :
    (V.row x).length = (IR x).length ∧ (V.row x).getD s 0 < m ∧ (IR x).getD s 0 = txns.getD ((V.row x).getD s 0) 0 := by
  have e := h.ir x hx
  have hl : (V.row x).length = (IR x).length := by rw [e, List.length_map]
  have hs' : s < (V.row x).length := by omega
  refine ⟨hl, ?_, ?_⟩
  · have := h.fits.row x (by rw [h.vn]; exact hx) ((V.row x).getD s 0) (by simp [List.getD, List.getElem?_eq_getElem hs'])
    rw [h.vm] at this
    exact this
  · rw [e]
    simp [List.getD, List.getElem?_eq_getElem hs']
/-- The last version so far, of transaction T's of item y. -/
theorem Ivn.look2 (h : Ivn V st C w x s i fx wx) (hC : CIs C V m ni H gB lB xc xa f) {T y : Nat} (hT : T < V.m) (hy : y < V.ni) (b1 : V.m ≤ 1048576) (b2 : V.ni ≤ 1048576) :
    ∃ (z : Int) (o : Bool), (o = true ↔ V.lTo T y x s ≠ none) ∧ (∀ q, V.lTo T y x s = some q → z = (q : Int)) ∧
      (∀ wy, wy.heap[lB]? = wx.heap[lB]? → (Instr.lookup 97 (.map (some lB)) (.agg #[.int .i64 (T : Int), .int .i64 (y : Int)]) true).run Try.prog wy = .ok (.tuple #[.int .i64 z, .bool o]) wy) ∧
      (∀ wy, wy.heap[lB]? = wx.heap[lB]? → (Instr.lookup 97 (.map (some lB)) (.agg #[.int .i64 (T : Int), .int .i64 (y : Int)]) false).run Try.prog wy = .ok (.int .i64 z) wy) := by
  obtain ⟨f2, n2, ct, v, L, g1, g2, g3⟩ := h
  obtain ⟨kl, hk⟩ := key2_key (t := T) (x := y) (by omega) (by omega)
  have hm := g1.map2
  rw [hC.elast] at hm
  have hf := g3.f2 T y hT hy
  unfold key2 at hf
  refine ⟨_, _, ?_, ?_, fun wy hwy => (hm.block hwy).look_ok keyed100 und97 hk, fun wy hwy => (hm.block hwy).look keyed100 und97 hk⟩
  · rw [hf]
    cases V.lTo T y x s <;> simp
  · intro q hq
    rw [hf, hq]
    rfl
theorem sumTo_lt (g : Nat → Nat) {x : Nat} : ∀ {n}, x < n → sumTo g x + g x ≤ sumTo g n
  | 0, h => absurd h (Nat.not_lt_zero _)
  | n + 1, h => by
    by_cases e : x = n
    · subst e; exact Nat.le_refl _
    · have := sumTo_lt g (x := x) (n := n) (by omega)
      simp only [sumTo]
      omega
theorem wTo_len (V : VIn) (t x s : Nat) : (V.wTo t x s).length ≤ x + 1 := by
  unfold VIn.wTo VIn.writes
  rw [List.length_append, cnt_filter]
  have := cnt_le (fun x => decide (t ∈ V.row x)) x
  split <;> simp <;> omega
theorem xTo_len {V : VIn} (h : V.Fits) {y : Nat} (hy : y < V.ni) (x s : Nat) : (V.xTo y x s).length ≤ V.m := by
  have k1 : ∀ l : List Nat, (∀ t ∈ l, t < V.m) → (once l).length ≤ V.m := fun l hl => by
    rw [nodup_cnt V.m (once l) (once_nodup _) (fun t ht => hl t ((mem_once _ _).1 ht))]
    exact cnt_le _ _
  unfold VIn.xTo
  split
  · exact k1 _ (h.row y hy)
  · split
    · rename_i e
      subst e
      exact k1 _ (fun t ht => h.row y hy t (List.mem_of_mem_take ht))
    · simp
theorem reads_len (V : VIn) (t i : Nat) : (V.reads t i).length ≤ i := by unfold VIn.reads; rw [cnt_filter]; exact cnt_le _ _
theorem seenBy_len (V : VIn) (t i : Nat) : (V.seenBy t i).length ≤ i := by unfold VIn.seenBy; rw [cnt_filter]; exact cnt_le _ _
/-- An append turns no block below the rows. -/
theorem grown_low {wa wb : World} {U : Value} {base : Nat} {e : TypeId} {z n : Nat} {xs : List Value} (hown : wa.ownsRow base e z U n xs) (hg : wa.grownBy wb U.ownBlock) (hsz : base ≤ wa.heap.size) {b : Nat} (hb : b < base) : wb.heap[b]? = wa.heap[b]? :=
  hg.block b (by omega) (fun e => by have := (hown.lt b e.symm).1; omega)
theorem grown_cell {wa wb : World} {U : Value} {base : Nat} {e : TypeId} {z n : Nat} {xs : List Value} (hown : wa.ownsRow base e z U n xs) (hg : wa.grownBy wb U.ownBlock) (hsz : base ≤ wa.heap.size) {a : Addr} {u : Value} (hb : a.block < base) (hc : wa.cell? a = some u) : wb.cell? a = some u :=
  (World.cell?_of_block (grown_low hown hg hsz hb)).trans hc
theorem grown_frozen {wa wb : World} {U : Value} {base : Nat} {e : TypeId} {z n : Nat} {xs : List Value} (hown : wa.ownsRow base e z U n xs) (hg : wa.grownBy wb U.ownBlock) (hsz : base ≤ wa.heap.size) {a : Addr} (hb : a.block < base) (hc : wa.frozen? a = false) : wb.frozen? a = false :=
  (World.frozen?_of_block (grown_low hown hg hsz hb)).trans hc
/-- An append to row j, its slice stored into a header. -/
theorem nv_app_set (hC : C.Ok) {f2 : Value → Option Int} {n2 : Nat} {ct : Nat → Nat → Value} {v : Nat → Value} {L : Nat → List Nat} (h : Nv C w f2 n2 ct v L wx) {j k y nL z q : Nat} {e : TypeId} {u U : Value} {xs news : List Value} {o : Obj}
    (hj : j < 3 * C.m + C.ni) (hU : v j = U) (he : C.eT j = e) (hz : C.eS j = z) (hnL : (L j).length = nL) (hxs : (L j).flatMap (C.cell j) = xs) (hn : C.cell j y = news) (h1 : 1 ≤ q) (h2 : q ≤ 9)
    (ho : w'.ownsRow C.base e z u (nL + 1) (xs ++ news)) (hg : ((wx.alloc o).drew).grownBy w' U.ownBlock) (hu : u.ownBlock = U.ownBlock ∨ u.ownBlock = some ((wx.alloc o).drew).heap.size) :
    Nv C w f2 n2 (at' ct q (at' (ct q) k u)) (at' v j u) (at' L j (L j ++ [y])) (w'.setCell ⟨C.bk q, k, none⟩ u) := by
  subst hU he hz hnL hxs
  exact (((h.alloc hC o).drew hC).app hC hj hn ho hg hu).set hC h1 h2 k u
theorem new_cell1 (w : World) (v : Value) (t : TypeId) : ((w.alloc (.cells #[v] t)).drew).cell? ⟨w.heap.size, 0, none⟩ = some v := by
  show (w.alloc (.cells #[v] t)).cell? _ = _
  rw [cell_of_row _ _ 0 _ t (0, 0) (heap_alloc_new _ _)]
  rfl
theorem frozenOld {wa wb : World} (h : Below wa.heap.size wa wb) {a : Addr} (ha : a.block < wa.heap.size) (hf : wa.frozen? a = false) : wb.frozen? a = false := (World.frozen?_of_block (h.block a.block ha)).trans hf
section
variable {opB rdB pn nr : Nat} {ia : Option Addr} {ira : Nat → Option Addr} {irc : Nat → Nat} {IR : Nat → List Int} {txns : List Int} {op : Nat → Nat} {rop : Nat → Int} {j : Nat}
theorem NvIn.rt (h : NvIn V opB rdB pn m ni nr xa ia ira irc IR txns op rop w) (hj : j < nr) : V.rt j < m := by have := h.fits.rt j (by rw [h.vr]; exact hj); rwa [h.vm] at this
theorem NvIn.it (h : NvIn V opB rdB pn m ni nr xa ia ira irc IR txns op rop w) (hj : j < nr) : V.it j < ni := by have := h.fits.it j (by rw [h.vr]; exact hj); rwa [h.vn] at this
theorem NvIn.rlen (h : NvIn V opB rdB pn m ni nr xa ia ira irc IR txns op rop w) {y : Nat} (hy : y < ni) : (IR y).length = (V.row y).length := by rw [h.ir y hy, List.length_map]
theorem NvIn.sn_lt (h : NvIn V opB rdB pn m ni nr xa ia ira irc IR txns op rop w) (hj : j < nr) : V.sn j < ((IR (V.it j)).length : Int) := by have := h.fits.sn j (by rw [h.vr]; exact hj); rw [h.rlen (h.it hj)]; exact this
theorem NvIn.src0 (_h : NvIn V opB rdB pn m ni nr xa ia ira irc IR txns op rop w) (hs : V.src j = none) : seenTxn IR (V.it j) (V.sn j) = 0 := by
  unfold VIn.src at hs
  unfold seenTxn
  by_cases c : 0 ≤ V.sn j
  · rw [if_pos c] at hs; cases hs
  · rw [if_pos (by omega)]
theorem NvIn.srcS (h : NvIn V opB rdB pn m ni nr xa ia ira irc IR txns op rop w) (hj : j < nr) {s0 : Nat} (hs : V.src j = some s0) :
    s0 < m ∧ seenTxn IR (V.it j) (V.sn j) = txns.getD s0 0 ∧ (∃ q : Nat, V.sn j = (q : Int)) ∧ ∃ q, lastTo (V.row (V.it j)) s0 (V.row (V.it j)).length = some q := by
  have hsl := h.sn_lt hj
  have hsv := hs
  unfold VIn.src at hs
  by_cases c : 0 ≤ V.sn j
  · rw [if_pos c] at hs
    have hl : (V.sn j).toNat < (IR (V.it j)).length := by omega
    obtain ⟨e1, e2, e3⟩ := h.ver (x := V.it j) (s := (V.sn j).toNat) (h.it hj) hl
    cases hs
    refine ⟨e2, ?_, ⟨(V.sn j).toNat, by omega⟩, ?_⟩
    · unfold seenTxn
      rw [if_neg (by omega), e3]
    · have hm : (V.row (V.it j)).getD (V.sn j).toNat 0 ∈ V.row (V.it j) := by
        simp [List.getD, List.getElem?_eq_getElem (show (V.sn j).toNat < (V.row (V.it j)).length by omega)]
      have := mem_row.1 hm
      cases hq : lastTo (V.row (V.it j)) ((V.row (V.it j)).getD (V.sn j).toNat 0) (V.row (V.it j)).length with
      | none => exact absurd hq this
      | some q => exact ⟨q, rfl⟩
  · rw [if_neg c] at hs; cases hs
theorem asc_inj {zs : List Int} (h : Asc zs) {i j : Nat} (hi : i < zs.length) (hj : j < zs.length) (e : zs.getD i 0 = zs.getD j 0) : i = j := by
  rcases Nat.lt_trichotomy i j with c | c | c
  · have := h i j c hj; omega
  · exact c
  · have := h j i c hi; omega
theorem NvIn.same (h : NvIn V opB rdB pn m ni nr xa ia ira irc IR txns op rop w) (hj : j < nr) : seenTxn IR (V.it j) (V.sn j) = txns.getD (V.rt j) 0 ↔ V.src j = some (V.rt j) := by
  have hp := h.pos (V.rt j) (h.rt hj)
  cases hs : V.src j with
  | none =>
    rw [h.src0 hs]
    constructor
    · intro e; omega
    · intro e; cases e
  | some s0 =>
    obtain ⟨h1, h2, -⟩ := h.srcS hj hs
    rw [h2]
    constructor
    · intro e
      rw [asc_inj h.asc (by rw [h.len]; exact h1) (by rw [h.len]; exact h.rt hj) e]
    · intro e; cases e; rfl
/-- The bound by which a read is refused or not. -/
theorem lTo_end (V : VIn) {t y : Nat} (hy : y < V.ni) : V.lTo t y V.ni 0 = lastTo (V.row y) t (V.row y).length := by
  unfold VIn.lTo
  rw [if_pos hy]
end
theorem built103 (a b : Int) (c : Bool) : Try.prog.built 103 [(0, .int .i64 a), (1, .int .i64 b), (2, .int .i64 (-1)), (3, .bool c)] = some #[.int .i64 a, .int .i64 b, .int .i64 (-1), .bool c] := by kernel_rfl
theorem run_103 (w : World) (a b : Int) (c : Bool) : (Instr.build 103 #[(0, .int .i64 a), (1, .int .i64 b), (2, .int .i64 (-1)), (3, .bool c)]).run Try.prog w = .ok (.agg #[.int .i64 a, .int .i64 b, .int .i64 (-1), .bool c]) w := run_build w 103 _ _ (built103 a b c)
/-- The read that the round is about, in its own block. -/
structure RdC (rB : Nat) (R0 X : Int) (it : Nat) (sn : Int) (own : Bool) (wx : World) : Prop where
  c0 : wx.cell? ⟨rB, 0, none⟩ = some (.int .i64 R0)
  c1 : wx.cell? ⟨rB, 1, none⟩ = some (.int .i64 X)
  c2 : wx.cell? ⟨rB, 2, none⟩ = some (.int .i64 (it : Int))
  c3 : wx.cell? ⟨rB, 3, none⟩ = some (.int .i64 sn)
  c4 : wx.cell? ⟨rB, 4, none⟩ = some (.bool own)
theorem RdC.new (wr : World) (R0 X : Int) (it : Nat) (sn : Int) (own : Bool) : RdC wr.heap.size R0 X it sn own (wr.alloc (.cells #[.int .i64 R0, .int .i64 X, .int .i64 (it : Int), .int .i64 sn, .bool own] 76)) := by
  have h := fun i => cell_of_row (wr.alloc (.cells #[.int .i64 R0, .int .i64 X, .int .i64 (it : Int), .int .i64 sn, .bool own] 76)) wr.heap.size i _ 76 (0, 0) (heap_alloc_new _ _)
  exact ⟨h 0, h 1, h 2, h 3, h 4⟩
theorem RdC.kept {rB : Nat} {R0 X : Int} {it : Nat} {sn : Int} {own : Bool} (h : RdC rB R0 X it sn own wx) (hb : Below wx.heap.size wx w') : RdC rB R0 X it sn own w' := ⟨cellOld hb h.c0, cellOld hb h.c1, cellOld hb h.c2, cellOld hb h.c3, cellOld hb h.c4⟩
theorem RdC.of {rB : Nat} {R0 X : Int} {it : Nat} {sn : Int} {own : Bool} (h : RdC rB R0 X it sn own wx) (hb : w'.heap[rB]? = wx.heap[rB]?) : RdC rB R0 X it sn own w' :=
  ⟨(World.cell?_of_block (a := ⟨rB, 0, none⟩) hb).trans h.c0, (World.cell?_of_block (a := ⟨rB, 1, none⟩) hb).trans h.c1, (World.cell?_of_block (a := ⟨rB, 2, none⟩) hb).trans h.c2, (World.cell?_of_block (a := ⟨rB, 3, none⟩) hb).trans h.c3, (World.cell?_of_block (a := ⟨rB, 4, none⟩) hb).trans h.c4⟩
/-- The kept read of the round, in its own block. -/
structure VrC (vr t it : Nat) (Z : Int) (o : Bool) (wx : World) : Prop where
  c0 : wx.cell? ⟨vr, 0, none⟩ = some (.int .i64 (t : Int))
  c1 : wx.cell? ⟨vr, 1, none⟩ = some (.int .i64 (it : Int))
  c2 : wx.cell? ⟨vr, 2, none⟩ = some (.int .i64 Z)
  c3 : wx.cell? ⟨vr, 3, none⟩ = some (.bool o)
  fz : wx.frozen? ⟨vr, 2, none⟩ = false
theorem new_cell4 (w : World) (y0 y1 y2 : Int) (y3 : Bool) : ((w.alloc (.cells #[.int .i64 y0, .int .i64 y1, .int .i64 y2, .bool y3] 103)).drew).cell? ⟨w.heap.size, 0, none⟩ = some (.int .i64 y0) ∧ ((w.alloc (.cells #[.int .i64 y0, .int .i64 y1, .int .i64 y2, .bool y3] 103)).drew).cell? ⟨w.heap.size, 1, none⟩ = some (.int .i64 y1) ∧ ((w.alloc (.cells #[.int .i64 y0, .int .i64 y1, .int .i64 y2, .bool y3] 103)).drew).cell? ⟨w.heap.size, 2, none⟩ = some (.int .i64 y2) ∧ ((w.alloc (.cells #[.int .i64 y0, .int .i64 y1, .int .i64 y2, .bool y3] 103)).drew).cell? ⟨w.heap.size, 3, none⟩ = some (.bool y3) := by
  have h := fun i => cell_of_row (w.alloc (.cells #[.int .i64 y0, .int .i64 y1, .int .i64 y2, .bool y3] 103)) w.heap.size i _ 103 (0, 0) (heap_alloc_new _ _)
  exact ⟨h 0, h 1, h 2, h 3⟩
theorem VrC.new (wr : World) (t it : Nat) (Z : Int) (o : Bool) : VrC wr.heap.size t it Z o (wr.alloc (.cells #[.int .i64 (t : Int), .int .i64 (it : Int), .int .i64 Z, .bool o] 103)) := by
  obtain ⟨h0, h1, h2, h3⟩ := new_cell4 wr (t : Int) (it : Int) Z o
  refine ⟨h0, h1, h2, h3, ?_⟩
  have e := heap_alloc_new wr (.cells #[.int .i64 (t : Int), .int .i64 (it : Int), .int .i64 Z, .bool o] 103)
  unfold World.frozen?
  rw [e]
  rfl
theorem VrC.of {vr t it : Nat} {Z : Int} {o : Bool} (h : VrC vr t it Z o wx) (hb : w'.heap[vr]? = wx.heap[vr]?) : VrC vr t it Z o w' :=
  ⟨(World.cell?_of_block (a := ⟨vr, 0, none⟩) hb).trans h.c0, (World.cell?_of_block (a := ⟨vr, 1, none⟩) hb).trans h.c1, (World.cell?_of_block (a := ⟨vr, 2, none⟩) hb).trans h.c2, (World.cell?_of_block (a := ⟨vr, 3, none⟩) hb).trans h.c3, (World.frozen?_of_block (a := ⟨vr, 2, none⟩) hb).trans h.fz⟩
theorem VrC.lt {vr t it : Nat} {Z : Int} {o : Bool} (h : VrC vr t it Z o wx) : vr < wx.heap.size := World.block_lt_of_cell? wx _ h.c0
theorem VrC.set2 {vr t it : Nat} {Z Z' : Int} {o : Bool} (h : VrC vr t it Z o wx) : VrC vr t it Z' o (wx.setCell ⟨vr, 2, none⟩ (.int .i64 Z')) := by
  have hl := h.lt
  obtain ⟨ob, hob⟩ : ∃ ob, wx.heap[vr]? = some ob := ⟨_, Array.getElem?_eq_getElem hl⟩
  cases ob with
  | cells c ty fr =>
    have k : ∀ i v, wx.cell? ⟨vr, i, none⟩ = some v → c[i]? = some v := fun i v hv => by simpa [World.cell?, hob] using hv
    have e : (wx.setCell ⟨vr, 2, none⟩ (.int .i64 Z')).heap[vr]? = some (.cells (c.setIfInBounds 2 (.int .i64 Z')) ty fr) := by simp [World.setCell, Array.getElem?_modify, hob]
    have k2 : ∀ i, (wx.setCell ⟨vr, 2, none⟩ (.int .i64 Z')).cell? ⟨vr, i, none⟩ = (c.setIfInBounds 2 (.int .i64 Z'))[i]? := fun i => by simp [World.cell?, e]
    have h0 := k 0 _ h.c0
    have h1 := k 1 _ h.c1
    have h2 := k 2 _ h.c2
    have h3 := k 3 _ h.c3
    have hs : 2 < c.size := (Array.getElem?_eq_some_iff.1 h2).1
    refine ⟨?_, ?_, ?_, ?_, ?_⟩
    · rw [k2, Array.getElem?_setIfInBounds]; simpa using h0
    · rw [k2, Array.getElem?_setIfInBounds]; simpa using h1
    · rw [k2, Array.getElem?_setIfInBounds]; simp [hs]
    · rw [k2, Array.getElem?_setIfInBounds]; simpa using h3
    · have hf := h.fz
      simp only [World.frozen?, hob] at hf
      simp only [World.frozen?, e]
      exact hf
  | map a b => have := h.c0; simp [World.cell?, hob] at this
  | _ => have := h.c0; simp [World.cell?, hob] at this
/-- A store into a block that is none of the memory's. -/
theorem Nv.out (hC : C.Ok) {f2 : Value → Option Int} {n2 : Nat} {ct : Nat → Nat → Value} {v : Nat → Value} {L : Nat → List Nat} (h : Nv C w f2 n2 ct v L wx) {a : Addr} (ha : C.base ≤ a.block) (hv : ∀ i b, i < 3 * C.m + C.ni → (v i).ownBlock = some b → b ≠ a.block) (u : Value) : Nv C w f2 n2 ct v L (wx.setCell a u) := by
  have hblk : ∀ b, b ≠ a.block → (wx.setCell a u).heap[b]? = wx.heap[b]? := fun b hb => Below.heap_setCell _ _ _ _ hb
  refine ⟨?_, fun i h1 h2 => ?_, ?_, ?_, ?_, ?_, ?_⟩
  · rw [hblk _ (by have := hC.g; omega)]; exact h.cells
  · exact (h.row i h1 h2).of_block (hblk _ (by have := hC.low i h1 h2; omega))
  · exact h.map1.block (hblk _ (by have := hC.mp; omega))
  · exact h.map2.block (hblk _ (by have := hC.last; omega))
  · refine ⟨fun i hi => ?_, h.fam.apart⟩
    have ho := h.fam.own i hi
    refine ⟨ho.1, ?_⟩
    rcases ho.2 with h1 | ⟨g, cap, cur, h1, h2, h3, h4⟩
    · exact .inl h1
    · exact .inr ⟨g, cap, cur, h1, h2, (hblk g (hv i g hi (by rw [h1]; rfl))).trans h3, h4⟩
  · exact h.bel.setCell (by have := hC.g; omega) u
  · have := h.sz; simpa using this
/-- No row's block is a block that is still to come. -/
theorem Nv.old {f2 : Value → Option Int} {n2 : Nat} {ct : Nat → Nat → Value} {v : Nat → Value} {L : Nat → List Nat} (h : Nv C w f2 n2 ct v L wx) : ∀ i b, i < 3 * C.m + C.ni → (v i).ownBlock = some b → b ≠ wx.heap.size := fun i b hi hb => by
  have := ((h.fam.own i hi).lt b hb).2
  omega
/-- The index of a transaction, in every world in which that map is as it is. -/
theorem Ivn.lookB (h : Ivn V st C w x s i fx wx) (hC : CIs C V m ni H gB lB xc xa f) {txns : List Int} {k p : Nat} (hI : Idx txns k f) (hp : p < k) (h1 : 1 ≤ txns.getD p 0 ∧ txns.getD p 0 ≤ 9223372036854775807) : ∀ wy : World, wy.heap[H]? = wx.heap[H]? → (Instr.lookup 60 (.map (some H)) (.int .i64 (txns.getD p 0)) false).run Try.prog wy = .ok (.int .i64 (p : Int)) wy := by
  intro wy hwy
  obtain ⟨f2, n2, ct, v, L, g1, g2, g3⟩ := h
  have hm := g1.map1
  rw [hC.emp, hC.ef1] at hm
  have h := MapFn.look (t := 60) (hm.block hwy) keyed3 und60 (key3 (z := txns.getD p 0) (Go.WalkArith.wf_i64 ⟨by omega, by omega⟩))
  rw [hI p hp] at h
  exact h
/-- The memory in a world that has the call's own blocks. -/
theorem Nv.move (hC : C.Ok) {f2 : Value → Option Int} {n2 : Nat} {ct : Nat → Nat → Value} {v : Nat → Value} {L : Nat → List Nat} (h : Nv C w f2 n2 ct v L wx) (hz : wx.heap.size ≤ w'.heap.size) (hk : ∀ k, C.H ≤ k → k < wx.heap.size → w'.heap[k]? = wx.heap[k]?) : Nv C w' f2 n2 ct v L w' := by
  have hs := h.sz
  refine ⟨?_, fun i h1 h2 => ?_, ?_, ?_, ?_, Below.refl _ _, by omega⟩
  · rw [hk _ hC.g.1 (by have := hC.g; omega)]; exact h.cells
  · exact (h.row i h1 h2).of_block (hk _ (hC.low i h1 h2).1 (by have := hC.low i h1 h2; omega))
  · exact h.map1.block (hk _ hC.mp.1 (by have := hC.mp; omega))
  · exact h.map2.block (hk _ hC.last.1 (by have := hC.last; omega))
  · exact h.fam.frame (fun b hb hl => hk b (by have := hC.g; omega) hl)
end
end Go.Proofs.Qxb6603374a
