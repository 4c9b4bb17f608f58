/- The relation of cycle's search loops. -/
import Derived.Test.Qxb6603374aCycMem
namespace Go.Proofs.Qxb6603374a
open Go.ChangeShapes Go.WideShapes Go.ChangeAt Go.RowKit

/-- What the search has in hand. -/
structure Gh where
  ms : Nat → Int
  M : Nat → Prop
  d : Nat → Nat
  V : Nat → Nat
  Q : Nat → Int
  rk : Nat → Nat
  N : List Nat
  F : List Nat
  D : Nat
  tm : Nat

structure Ok (g : Gr) (b H mB dB vB : Nat) (st : Int) (w1 : World) (vN vF : Value) (wr : World) (X k μ B : Nat) (G : Gh) : Prop where
  fr : Fr H mB dB vB w1 wr
  rows : Rows3 mB dB vB g.n wr G.ms G.d G.V G.Q
  two : Two H wr vN vF G.N G.F
  iff : ∀ y, y < g.n → (G.M y ↔ G.ms y = st)
  inv : g.Inv b G.M G.d G.V G.Q G.rk G.N G.F G.D G.tm X k
  tot : Gr.total G.M G.d G.N G.F G.D g.n ≤ μ
  dm : G.D + μ ≤ B
  nn : ∃ g' m cap, vN = .slice (some ⟨g', 0, none⟩) m cap

section
variable {g : Gr} {b H mB dB vB : Nat} {st : Int} {w1 : World} {vN vF : Value} {wr : World} {X k x μ B : Nat} {G : Gh}
theorem Ok.alloc (h : Ok g b H mB dB vB st w1 vN vF wr X k μ B G) (o : Obj) : Ok g b H mB dB vB st w1 vN vF (wr.alloc o) X k μ B G := ⟨h.fr.alloc o, h.rows.alloc o, h.two.alloc o, h.iff, h.inv, h.tot, h.dm, h.nn⟩
theorem Ok.drewN (h : Ok g b H mB dB vB st w1 vN vF wr X k μ B G) (m : Nat) : Ok g b H mB dB vB st w1 vN vF (wr.drewN m) X k μ B G := ⟨h.fr.drewN m, h.rows.drewN m, h.two.drewN m, h.iff, h.inv, h.tot, h.dm, h.nn⟩
theorem Ok.drew (h : Ok g b H mB dB vB st w1 vN vF wr X k μ B G) : Ok g b H mB dB vB st w1 vN vF wr.drew X k μ B G := ⟨h.fr.drew, h.rows.drew, h.two.drew, h.iff, h.inv, h.tot, h.dm, h.nn⟩
theorem Ok.wide {B' : Nat} (h : Ok g b H mB dB vB st w1 vN vF wr X k μ B G) (hB : B ≤ B') : Ok g b H mB dB vB st w1 vN vF wr X k μ B' G := ⟨h.fr, h.rows, h.two, h.iff, h.inv, h.tot, by have := h.dm; omega, h.nn⟩
theorem Ok.swap {g' m cap : Nat} (h : Ok g b H mB dB vB st w1 (.slice (some ⟨g', 0, none⟩) m cap) vF wr g.n k μ B G) (hN : G.N = []) (hF : G.F ≠ []) :
    Ok g b H mB dB vB st w1 vF (.slice (some ⟨g', 0, none⟩) 0 cap) wr g.n 0 μ (B + 1) { G with N := G.F, F := [], D := G.D + 1 } := by
  have h2 := h.two
  have h3 := h.inv
  have h4 := h.tot
  rw [hN] at h2 h3 h4
  have e : m = 0 := by
    rcases h2.near.2 with ⟨e, -⟩ | ⟨g2, cap2, cur, e, -⟩
    · cases e
    · simp at e; exact e.2.1
  subst e
  refine ⟨h.fr, h.rows, h2.swap, h.iff, h3.swap g, ?_, by have := h.dm; show G.D + 1 + μ ≤ B + 1; omega, ?_⟩
  · exact Nat.le_trans Gr.total_swap h4
  · have hl : 0 < G.F.length := List.length_pos_iff.2 hF
    obtain ⟨g2, cap2, e, -⟩ := owns_shape h2.far hl
    exact ⟨g2, _, cap2, e⟩
theorem Ok.pop {N' : List Nat} {g' m cap : Nat} (h : Ok g b H mB dB vB st w1 (.slice (some ⟨g', 0, none⟩) m cap) vF wr g.n k μ B G) (hN : G.N = N' ++ [x]) :
    m = N'.length + 1 ∧ 1 ≤ μ ∧ Ok g b H mB dB vB st w1 (.slice (some ⟨g', 0, none⟩) N'.length cap) vF wr x 0 (μ - 1) (B - 1) { G with N := N' } := by
  have h2 := h.two
  have h3 := h.inv
  have h4 := h.tot
  rw [hN] at h2 h3 h4
  have e : m = N'.length + 1 := by
    rcases h2.near.2 with ⟨e, -⟩ | ⟨g2, cap2, cur, e, -⟩
    · cases e
    · simp at e; exact e.2.1
  subst e
  rw [← Gr.total_pop] at h4
  refine ⟨rfl, by omega, h.fr, h.rows, h2.pop, h.iff, h3.pop g, ?_, by have := h.dm; show G.D + (μ - 1) ≤ B - 1; omega, ⟨_, _, _, rfl⟩⟩
  show Gr.total G.M G.d N' G.F G.D g.n ≤ μ - 1
  omega
theorem Ok.lens (h : Ok g b H mB dB vB st w1 vN vF wr X k μ B G) : G.N.length + G.F.length ≤ μ ∧ G.D + μ ≤ B := by
  have := h.tot
  unfold Gr.total at this
  exact ⟨by omega, h.dm⟩
theorem Ok.done (h : Ok g b H mB dB vB st w1 vN vF wr x (g.deg x) μ B G) : Ok g b H mB dB vB st w1 vN vF wr g.n 0 μ B G := ⟨h.fr, h.rows, h.two, h.iff, h.inv.done g, h.tot, h.dm, h.nn⟩
theorem Ok.skip (h : Ok g b H mB dB vB st w1 vN vF wr x k μ B G) (hs : ¬ g.O (g.T x k) ≤ g.up ∨ (G.M (g.T x k) ∧ G.d (g.T x k) ≤ G.d x + g.wt x k)) : Ok g b H mB dB vB st w1 vN vF wr x (k + 1) μ B G := ⟨h.fr, h.rows, h.two, h.iff, h.inv.skip g hs, h.tot, h.dm, h.nn⟩

/-- What the search has in hand behind an arc that is taken. -/
def Gh.took (G : Gh) (g : Gr) (st : Int) (x k : Nat) : Gh where
  ms := Gr.upd G.ms (g.T x k) st
  M := fun z => z = g.T x k ∨ G.M z
  d := Gr.upd G.d (g.T x k) (G.d x + g.wt x k)
  V := Gr.upd G.V (g.T x k) x
  Q := Gr.upd G.Q (g.T x k) (g.L x k)
  rk := Gr.upd G.rk (g.T x k) G.tm
  N := if g.wt x k = 0 then G.N ++ [g.T x k] else G.N
  F := if g.wt x k = 0 then G.F else G.F ++ [g.T x k]
  D := G.D
  tm := G.tm + 1

/-- Between the stores and the append. -/
structure Mid (g : Gr) (b H mB dB vB : Nat) (st : Int) (w1 : World) (vN vF : Value) (wr : World) (x k μ B : Nat) (G : Gh) : Prop where
  fr : Fr H mB dB vB w1 wr
  rows : Rows3 mB dB vB g.n wr (G.took g st x k).ms (G.took g st x k).d (G.took g st x k).V (G.took g st x k).Q
  two : Two H wr vN vF G.N G.F
  iff : ∀ y, y < g.n → ((G.took g st x k).M y ↔ (G.took g st x k).ms y = st)
  inv : g.Inv b (G.took g st x k).M (G.took g st x k).d (G.took g st x k).V (G.took g st x k).Q (G.took g st x k).rk (G.took g st x k).N (G.took g st x k).F (G.took g st x k).D (G.took g st x k).tm x (k + 1)
  tot : Gr.total (G.took g st x k).M (G.took g st x k).d (G.took g st x k).N (G.took g st x k).F (G.took g st x k).D g.n ≤ μ
  len : G.N.length + G.F.length ≤ μ
  dm : G.D + μ ≤ B
  nn : ∃ g' m cap, vN = .slice (some ⟨g', 0, none⟩) m cap
theorem Mid.alloc (h : Mid g b H mB dB vB st w1 vN vF wr x k μ B G) (o : Obj) : Mid g b H mB dB vB st w1 vN vF (wr.alloc o) x k μ B G := ⟨h.fr.alloc o, h.rows.alloc o, h.two.alloc o, h.iff, h.inv, h.tot, h.len, h.dm, h.nn⟩
theorem Mid.drew (h : Mid g b H mB dB vB st w1 vN vF wr x k μ B G) : Mid g b H mB dB vB st w1 vN vF wr.drew x k μ B G := ⟨h.fr.drew, h.rows.drew, h.two.drew, h.iff, h.inv, h.tot, h.len, h.dm, h.nn⟩
theorem Mid.drewN (h : Mid g b H mB dB vB st w1 vN vF wr x k μ B G) (m : Nat) : Mid g b H mB dB vB st w1 vN vF (wr.drewN m) x k μ B G := ⟨h.fr.drewN m, h.rows.drewN m, h.two.drewN m, h.iff, h.inv, h.tot, h.len, h.dm, h.nn⟩
/-- The stores of an arc that is taken. -/
theorem Ok.put (h : Ok g b H mB dB vB st w1 vN vF wr x k μ B G) (ha : g.Arc x k) (hs : ¬ (G.M (g.T x k) ∧ G.d (g.T x k) ≤ G.d x + g.wt x k))
    (hmd : mB ≠ dB) (hmv : mB ≠ vB) (hdv : dB ≠ vB) (hm : mB < H) (hd : dB < H) (hv : vB < H) {y v : Nat} {z : Int} (ey : g.T x k = y) (ev : G.d x + g.wt x k = v) (ez : g.L x k = z) :
    Mid g b H mB dB vB st w1 vN vF ((((wr.setCell ⟨mB, y, none⟩ (.int .i64 st)).setCell ⟨dB, y, none⟩ (.int .i64 (v : Int))).setCell ⟨vB, y * 2, none⟩ (.int .i64 (x : Int))).setCell ⟨vB, y * 2 + 1, none⟩ (.int .i64 z)) x k μ B G := by
  obtain ⟨f1, f2, f3, f4⟩ := h.inv.far g ha hs
  have hw := g.wt_le x k
  have hlen : G.N.length + G.F.length ≤ μ := by
    have := h.tot
    unfold Gr.total at this
    omega
  subst ey ev ez
  refine ⟨(((h.fr.set (.inl rfl) _).set (.inr (.inl rfl)) _).set (.inr (.inr (.inl rfl))) _).set (.inr (.inr (.inl rfl))) _, h.rows.put hmd hmv hdv x _ _ _ st, (((h.two.set hm _).set hd _).set hv _).set hv _, fun y hy => ?_, h.inv.take g ha hs _ _ rfl rfl, ?_, hlen, h.dm, h.nn⟩
  · show (y = g.T x k ∨ G.M y) ↔ Gr.upd G.ms (g.T x k) st y = st
    unfold Gr.upd
    by_cases e : y = g.T x k
    · simp [e]
    · rw [if_neg e, ← h.iff y hy]; simp [e]
  · refine Nat.le_trans (Nat.le_of_lt ?_) h.tot
    refine Gr.total_take (D := G.D) (v := G.d x + g.wt x k) ha.2.2.1 (by omega) (by omega) (fun hM => ?_) f4 (fun hM => (h.inv.top _ hM).1) ?_ rfl
    · exact Nat.lt_of_not_le (fun hl => hs ⟨hM, hl⟩)
    · show (if g.wt x k = 0 then G.N ++ [g.T x k] else G.N).length + (if g.wt x k = 0 then G.F else G.F ++ [g.T x k]).length = _
      split <;> simp <;> omega
theorem grown_apart {w' : World} {v : Value} {m : Nat} {xs : List Value} {k : Nat} (ho : wr.ownsRow H 3 1 v m xs) (hk : k < H) (_hg : wr.grownBy w' v.ownBlock) : some k ≠ v.ownBlock := fun e => by
  have := ho.lt k e.symm
  omega
theorem Mid.near {w' : World} {v' : Value} (h : Mid g b H mB dB vB st w1 vN vF wr x k μ B G) (hm : mB < H) (hd : dB < H) (hv : vB < H) (h0 : g.wt x k = 0) {y : Nat} (ey : g.T x k = y)
    (ho : w'.ownsRow H 3 1 v' (G.N.length + 1) (G.N.map enc ++ [enc y])) (hg : wr.grownBy w' vN.ownBlock) (hb : v'.ownBlock = vN.ownBlock ∨ v'.ownBlock = some (wr.heap.size + 1)) :
    Ok g b H mB dB vB st w1 v' vF w' x (k + 1) μ B (G.took g st x k) := by
  have hn := h.two.near
  subst ey
  refine ⟨h.fr.grown hg (fun k hk => (hn.lt k hk).1), h.rows.grown hg (grown_apart hn hm hg) (grown_apart hn hd hg) (grown_apart hn hv hg), ?_, h.iff, h.inv, h.tot, h.dm, ?_⟩
  · have := h.two.appN ho hg hb
    show Two H w' v' vF (if g.wt x k = 0 then G.N ++ [g.T x k] else G.N) (if g.wt x k = 0 then G.F else G.F ++ [g.T x k])
    rw [if_pos h0, if_pos h0]
    exact this
  · obtain ⟨g2, cap2, e, -⟩ := owns_shape ho (by omega)
    exact ⟨g2, _, cap2, e⟩
theorem Mid.far {w' : World} {v' : Value} (h : Mid g b H mB dB vB st w1 vN vF wr x k μ B G) (hm : mB < H) (hd : dB < H) (hv : vB < H) (h0 : ¬ g.wt x k = 0) {y : Nat} (ey : g.T x k = y)
    (ho : w'.ownsRow H 3 1 v' (G.F.length + 1) (G.F.map enc ++ [enc y])) (hg : wr.grownBy w' vF.ownBlock) (hb : v'.ownBlock = vF.ownBlock ∨ v'.ownBlock = some (wr.heap.size + 1)) :
    Ok g b H mB dB vB st w1 vN v' w' x (k + 1) μ B (G.took g st x k) := by
  have hn := h.two.far
  subst ey
  refine ⟨h.fr.grown hg (fun k hk => (hn.lt k hk).1), h.rows.grown hg (grown_apart hn hm hg) (grown_apart hn hd hg) (grown_apart hn hv hg), ?_, h.iff, h.inv, h.tot, h.dm, h.nn⟩
  have := h.two.appF ho hg hb
  show Two H w' vN v' (if g.wt x k = 0 then G.N ++ [g.T x k] else G.N) (if g.wt x k = 0 then G.F else G.F ++ [g.T x k])
  rw [if_neg h0, if_neg h0]
  exact this
end
end Go.Proofs.Qxb6603374a
