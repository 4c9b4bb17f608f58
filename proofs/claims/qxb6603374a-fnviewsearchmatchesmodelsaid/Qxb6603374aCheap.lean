/- The contract of zzB1Cheapest (Bellman-Ford). -/
import Derived.Test.Qxb6603374aDom
import Derived.Test.Qxb6603374aGraph
namespace Go.Proofs.Qxb6603374a
open Go.ChangeShapes Go.WideShapes Go.ChangeAt Go.RowKit

/-- The graph that the law's arguments are. -/
def grOf (n : Nat) (TR LR : Nat → List Int) (ord lev : List Int) (up : Int) : Gr where
  n := n
  deg v := (TR v).length
  T v i := ((TR v).getD i 0).toNat
  L v i := (LR v).getD i 0
  O v := ord.getD v 0
  up := up
  hi l := decide (0 < lev.getD (l / 2).toNat 0)

theorem Gr.relax_le (g : Gr) {D : Nat → Int} {x i : Nat} {B : Int} (h : ∀ v, D v ≤ B + 1) (hx : D x ≤ B) : (∀ v, g.relax D x i v ≤ B + 1) ∧ (0 ≤ D x → g.relax D x i x = D x) := by
  have hw : (g.wt x i : Int) ≤ 1 := by
    unfold Gr.wt Gr.cost
    split <;> omega
  refine ⟨fun v => ?_, fun h0 => ?_⟩
  · have h1 := h v
    unfold Gr.relax
    split
    · split <;> omega
    · exact h1
  · unfold Gr.relax
    split
    · split
      · rename_i c; omega
      · rfl
    · rfl

/-- What zzB1Cheapest hands back. -/
def CheapEnd (g : Gr) (b : Nat) (w : World) (e : Ending) (w' : World) : Prop :=
  e = .returned (.slice (some ⟨w.heap.size, 0, none⟩) g.n g.n) ∧ (∃ D : Nat → Int, w'.rowIs w.heap.size 3 g.n (fun v => .int .i64 (D v)) ∧ g.Attained b D ∧ g.Upto b g.n D) ∧ Below w.heap.size w w' ∧ w'.heap.size = w.heap.size + 1

/-- Bellman-Ford's row in memory. -/
structure Held (n : Nat) (w : World) (D : Nat → Int) (wr : World) : Prop where
  row : wr.rowIs w.heap.size 3 n (fun v => .int .i64 (D v))
  bel : Below w.heap.size w wr
  sz : wr.heap.size = w.heap.size + 1
theorem Held.put {n : Nat} {w wr : World} {D : Nat → Int} (h : Held n w D wr) (y : Nat) (v : Int) (D' : Nat → Int) (e : ∀ j, j < n → D' j = if j = y then v else D j) : Held n w D' (wr.setCell ⟨w.heap.size, y, none⟩ (.int .i64 v)) :=
  ⟨(h.row.set y _).congr (fun j hj => by rw [e j hj]; split <;> rfl), h.bel.setCell (Nat.le_refl _) _, by simpa using h.sz⟩

structure AtRound (g : Gr) (b r : Nat) (D : Nat → Int) : Prop where
  att : g.Attained b D
  upto : g.Upto b r D
  le : ∀ v, D v ≤ (r * 4096 : Nat)
structure AtVert (g : Gr) (b r : Nat) (E : Nat → Int) (x : Nat) (c : Bool) (D : Nat → Int) : Prop where
  att : g.Attained b D
  bet : g.Better E D
  rel : g.Relaxed E D x 0
  still : c = false → D = E
  le : ∀ v, D v ≤ (r * 4096 + x : Nat)
structure AtArc (g : Gr) (b r : Nat) (E : Nat → Int) (x j : Nat) (c : Bool) (D : Nat → Int) : Prop where
  att : g.Attained b D
  bet : g.Better E D
  rel : g.Relaxed E D x j
  still : c = false → D = E
  le : ∀ v, D v ≤ (r * 4096 + x : Nat) + 1
  dx : 0 ≤ D x ∧ D x ≤ (r * 4096 + x : Nat)

theorem relax_skip (g : Gr) {D : Nat → Int} {x i : Nat} (h : ¬ (g.O (g.T x i) ≤ g.up ∧ 0 ≤ D x ∧ (D (g.T x i) < 0 ∨ D x + (g.wt x i : Int) < D (g.T x i)))) : g.relax D x i = D := by
  funext v
  unfold Gr.relax
  by_cases e : v = g.T x i
  · rw [if_pos e, e, if_neg h]
  · rw [if_neg e]
theorem relax_take (g : Gr) {D : Nat → Int} {x i : Nat} (h : g.O (g.T x i) ≤ g.up ∧ 0 ≤ D x ∧ (D (g.T x i) < 0 ∨ D x + (g.wt x i : Int) < D (g.T x i))) : ∀ v, g.relax D x i v = if v = g.T x i then D x + (g.wt x i : Int) else D v := fun v => by
  unfold Gr.relax
  by_cases e : v = g.T x i
  · rw [if_pos e, if_pos e, e, if_pos h]
  · rw [if_neg e, if_neg e]
theorem AtArc.step {g : Gr} {b r x j : Nat} {E D : Nat → Int} {c c' : Bool} (h : AtArc g b r E x j c D) (hx : x < g.n) (hj : j < g.deg x) (hT : g.T x j < g.n) (hc : c' = false → c = false ∧ g.relax D x j = D) : AtArc g b r E x (j + 1) c' (g.relax D x j) := by
  obtain ⟨l1, l2⟩ := g.relax_le (i := j) h.le h.dx.2
  refine ⟨g.relax_attained h.att hx hj hT, h.bet.trans g (g.relax_better D), g.relaxed_step h.bet h.rel, fun e => ?_, l1, ?_⟩
  · obtain ⟨e1, e2⟩ := hc e
    rw [e2]; exact h.still e1
  · rw [l2 h.dx.1]; exact h.dx
theorem AtVert.into {g : Gr} {b r x : Nat} {E D : Nat → Int} {c : Bool} (h : AtVert g b r E x c D) (h0 : 0 ≤ D x) : AtArc g b r E x 0 c D := ⟨h.att, h.bet, h.rel, h.still, fun v => by have := h.le v; omega, h0, h.le x⟩
theorem AtArc.out {g : Gr} {b r x : Nat} {E D : Nat → Int} {c : Bool} (h : AtArc g b r E x (g.deg x) c D) : AtVert g b r E (x + 1) c D := ⟨h.att, h.bet, g.relaxed_next h.rel, h.still, fun v => by have := h.le v; omega⟩
theorem AtVert.skip {g : Gr} {b r x : Nat} {E D : Nat → Int} {c : Bool} (h : AtVert g b r E x c D) (h0 : D x < 0) : AtVert g b r E (x + 1) c D := ⟨h.att, h.bet, g.relaxed_skip h.rel h.bet h0, h.still, fun v => by have := h.le v; omega⟩
theorem AtRound.into {g : Gr} {b r : Nat} {D : Nat → Int} (h : AtRound g b r D) : AtVert g b r D 0 false D := ⟨h.att, Gr.Better.refl g D, g.relaxed_start D D, fun _ => rfl, fun v => by rw [Nat.add_zero]; exact h.le v⟩
theorem AtVert.out {g : Gr} {b r : Nat} {E D : Nat → Int} {c : Bool} (hb : b < g.n) (hn : g.n ≤ 4096) (h : AtVert g b r E g.n c D) (hE : g.Upto b r E) : AtRound g b (r + 1) D := ⟨h.att, g.upto_round hb hE h.bet h.rel, fun v => by have := h.le v; omega⟩
/-- Nothing changed in this round: the end. -/
theorem AtVert.fin {g : Gr} {b r : Nat} {E D : Nat → Int} (h : AtVert g b r E g.n false D) (hE : g.Upto b r E) : g.Attained b D ∧ g.Upto b g.n D := by
  have e := h.still rfl
  subst e
  exact ⟨h.att, g.upto_still (fun v m c s hw hm => hE v m c s hw (by omega)) h.rel⟩
theorem AtRound.start {g : Gr} (b : Nat) : AtRound g b 0 (Gr.start b) := ⟨g.attained_start b, g.upto_start b, fun v => by unfold Gr.start; split <;> omega⟩

theorem AtArc.left {g : Gr} {b r x j : Nat} {E D : Nat → Int} {c : Bool} (h : AtArc g b r E x j c D) (hx : x < g.n) (hj : j < g.deg x) (hT : g.T x j < g.n)
    (hs : ¬ (g.O (g.T x j) ≤ g.up ∧ 0 ≤ D x ∧ (D (g.T x j) < 0 ∨ D x + (g.wt x j : Int) < D (g.T x j)))) : AtArc g b r E x (j + 1) c D := by
  have := h.step hx hj hT (c' := c) (fun e => ⟨e, relax_skip g hs⟩)
  rwa [relax_skip g hs] at this
theorem AtArc.taken {g : Gr} {b r x j : Nat} {E D : Nat → Int} {c : Bool} (h : AtArc g b r E x j c D) (hx : x < g.n) (hj : j < g.deg x) (hT : g.T x j < g.n) : AtArc g b r E x (j + 1) true (g.relax D x j) := h.step hx hj hT (fun e => by cases e)

/-- The letters of one arc. -/
def Lets (TR LR : Nat → List Int) (ord : List Int) (D : Nat → Int) (x j y : Nat) (Z o X Y : Int) : Prop := (TR x).getD j 0 = (y : Int) ∧ (LR x).getD j 0 = Z ∧ ord.getD y 0 = o ∧ D x = X ∧ D y = Y
theorem Lets.gr {k : Nat} {TR LR : Nat → List Int} {ord lev : List Int} {up : Int} {D : Nat → Int} {x j y : Nat} {Z o X Y : Int} (h : Lets TR LR ord D x j y Z o X Y) :
    (grOf k TR LR ord lev up).T x j = y ∧ (grOf k TR LR ord lev up).O y = o ∧ (grOf k TR LR ord lev up).wt x j = (grOf k TR LR ord lev up).cost Z := by
  obtain ⟨h1, h2, h3, -, -⟩ := h
  have e1 : (grOf k TR LR ord lev up).T x j = y := by show ((TR x).getD j 0).toNat = y; rw [h1]; omega
  refine ⟨e1, h3, ?_⟩
  show (grOf k TR LR ord lev up).cost ((LR x).getD j 0) = _
  rw [h2]
theorem arc_left {k : Nat} {TR LR : Nat → List Int} {ord lev : List Int} {up : Int} {D E : Nat → Int} {b r x j y : Nat} {Z o X Y : Int} {c : Bool} (h : Lets TR LR ord D x j y Z o X Y) (HA : AtArc (grOf k TR LR ord lev up) b r E x j c D) (hx : x < k) (hj : j < (TR x).length) (hy : y < k)
    (hs : ¬ (o ≤ up ∧ (Y < 0 ∨ X + ((grOf k TR LR ord lev up).cost Z : Int) < Y))) : AtArc (grOf k TR LR ord lev up) b r E x (j + 1) c D := by
  obtain ⟨e1, e2, e3⟩ := h.gr (k := k) (lev := lev) (up := up)
  obtain ⟨-, -, -, h4, h5⟩ := h
  refine HA.left hx hj (by rw [e1]; exact hy) (fun hc => hs ?_)
  rw [e1, e2, e3, h4, h5] at hc
  exact ⟨hc.1, hc.2.2⟩
theorem arc_taken {k : Nat} {TR LR : Nat → List Int} {ord lev : List Int} {up : Int} {D E : Nat → Int} {b r x j y : Nat} {Z o X Y : Int} {c : Bool} {w wr : World} (h : Lets TR LR ord D x j y Z o X Y) (HA : AtArc (grOf k TR LR ord lev up) b r E x j c D) (HH : Held k w D wr) (hx : x < k) (hj : j < (TR x).length) (hy : y < k)
    {v : Int} (hv : v = X + ((grOf k TR LR ord lev up).cost Z : Int)) (hs : o ≤ up ∧ (Y < 0 ∨ v < Y)) :
    Held k w ((grOf k TR LR ord lev up).relax D x j) (wr.setCell ⟨w.heap.size, y, none⟩ (.int .i64 v)) ∧ AtArc (grOf k TR LR ord lev up) b r E x (j + 1) true ((grOf k TR LR ord lev up).relax D x j) := by
  obtain ⟨e1, e2, e3⟩ := h.gr (k := k) (lev := lev) (up := up)
  have h0 := HA.dx.1
  obtain ⟨-, -, -, h4, h5⟩ := h
  refine ⟨HH.put y v _ (fun q _ => ?_), HA.taken hx hj (by rw [e1]; exact hy)⟩
  rw [relax_take (grOf k TR LR ord lev up) (by rw [e1, e2, e3, h5, h4, ← hv]; rw [h4] at h0; exact ⟨hs.1, h0, hs.2⟩) q, e1, e3, h4, ← hv]

theorem cost_neg {k : Nat} {TR LR : Nat → List Int} {ord lev : List Int} {up Z : Int} (h : ¬ 0 ≤ Z) : (grOf k TR LR ord lev up).cost Z = 0 := by unfold Gr.cost; rw [if_neg (fun e => h e.1)]
theorem cost_low {k : Nat} {TR LR : Nat → List Int} {ord lev : List Int} {up Z l : Int} {q : Nat} (hq : Z / 2 = (q : Int)) (hl : lev.getD q 0 = l) (h : ¬ 0 < l) : (grOf k TR LR ord lev up).cost Z = 0 := by
  unfold Gr.cost
  rw [if_neg]
  rintro ⟨-, e⟩
  have e' : decide (0 < lev.getD (Z / 2).toNat 0) = true := e
  rw [hq] at e'
  simp only [Int.toNat_natCast, hl] at e'
  simp at e'
  omega
theorem cost_high {k : Nat} {TR LR : Nat → List Int} {ord lev : List Int} {up Z l : Int} {q : Nat} (h0 : 0 ≤ Z) (hq : Z / 2 = (q : Int)) (hl : lev.getD q 0 = l) (h : 0 < l) : (grOf k TR LR ord lev up).cost Z = 1 := by
  unfold Gr.cost
  rw [if_pos]
  refine ⟨h0, ?_⟩
  show decide (0 < lev.getD (Z / 2).toNat 0) = true
  rw [hq]
  simp only [Int.toNat_natCast, hl]
  simp [h]

theorem Try.info3 : (Try.prog.info? 3).map (fun i => (i.zero, i.size, i.bytes)) = some (some (.int .i64 0), 1, 8) := by kernel_rfl

set_option maxRecDepth 100000 in
set_option maxHeartbeats 1000000 in
theorem cheap_any (ta la oa va : Option Addr) (n tc lc oc vc : Nat) (tra lra : Nat → Option Addr) (trc lrc : Nat → Nat) (TR LR : Nat → List Int) (ord lev mark : List Int) (st a up : Int) (b : Nat) (w : World)
    (hT : RowsAt w ta n tra trc TR) (hL : RowsAt w la n lra lrc LR) (hO : Row w oa ord) (hV : Row w va lev) (hol : ord.length = n) (hn : n ≤ 4096) (hD : Dom n TR LR lev.length mark st a b) :
    Calls Try.prog 17 #[.slice ta n tc, .slice la n lc, .slice oa n oc, .slice va lev.length vc, .int .i64 up, .int .i64 (b : Int)] w fun e w' => CheapEnd (grOf n TR LR ord lev up) b w e w' := by
  have hmk := run_make_row' (P := Try.prog) 24 3 (.int .i64 0) 8 Try.underlying24 Try.info3 rfl .i64 .i64 n (by omega) (by omega)
  have HT := hidden hT
  have HL := hidden hL
  have HO := hidden hO
  have HV := hidden hV
  have HD := hidden hD
  have HOL := hidden hol
  have hb1 := hD.b0.2
  clear hT hL hO hV hD hol
  go_enter Try.func17, Try.ntmps17
  go_wp2
  clear hmk
  go_loopw [15] (fun i wr => ∃ k : Nat, k ≤ n ∧ i = .int .i64 k ∧ wr.rowIs w.heap.size 3 n (fun j => .int .i64 (if j < k then -1 else 0)) ∧ Below w.heap.size w wr ∧ wr.heap.size = w.heap.size + 1) (fun i _ => n - (intOf i).toNat)
  case atStart => exact ⟨0, by omega, rfl, (World.rowIs_made _ _ _ _).congr (fun i _ => by simp), (Below.refl _ _).alloc (Nat.le_refl _) _, by simp⟩
  case round =>
    obtain ⟨k, hk, rfl, hrow, hbel, hz⟩ := hrel
    by_cases hlt : (k : Int) < n
    · have hc := hrow.cell (i := k) (by omega)
      have hf := hrow.frozen k
      go_wp2
      go_roundw
      case rel =>
        refine ⟨k + 1, by omega, by go_num, (hrow.set k _).congr (fun j _ => ?_), hbel.setCell (Nat.le_refl _) _, by simpa using hz⟩
        by_cases e : j = k
        · subst e; simp
        · simp only [e, if_false]
          by_cases h : j < k
          · rw [if_pos h, if_pos (by omega)]
          · rw [if_neg h, if_neg (by omega)]
      case measure => simp [intOf]; omega
    · have e : k = n := by omega
      subst e
      have hc := hrow.cell (i := b) (by omega)
      have hf := hrow.frozen b
      go_wp2
      have H0 : Held k w (Gr.start b) (wr.setCell ⟨w.heap.size, b, none⟩ (.int .i64 0)) :=
        Held.put (D := fun j => if j < k then -1 else 0) ⟨hrow, hbel, hz⟩ b 0 _ (fun j hj => by
          unfold Gr.start
          rw [if_pos hj])
      clear hc hf hrow hbel hz
      go_loopw [16] (fun i wr => ∃ r D, r ≤ k ∧ i = .int .i64 (r : Nat) ∧ Hid (Held k w D wr) ∧ Hid (AtRound (grOf k TR LR ord lev up) b r D)) (fun i _ => k - (intOf i).toNat)
      case atStart => exact ⟨0, _, by omega, rfl, H0, AtRound.start b⟩
      case round =>
        clear H0
        obtain ⟨r, E, hr, rfl, HE, HR⟩ := hrel
        by_cases hlr : (r : Int) < k
        · go_wp2
          go_loopw [17, 18] (fun c i wr => ∃ x D c', x ≤ k ∧ i = .int .i64 (x : Nat) ∧ c = .bool c' ∧ Hid (Held k w D wr) ∧ Hid (AtVert (grOf k TR LR ord lev up) b r E x c' D)) (fun _ i _ => k - (intOf i).toNat)
          case atStart => exact ⟨0, E, false, by omega, rfl, rfl, HE, HR.out.into⟩
          case round =>
            obtain ⟨x, D, c, hx, rfl, rfl, HH, HA⟩ := hrel
            by_cases hlx : (x : Int) < k
            · have hcx := HH.out.row.cell (i := x) (by omega)
              obtain ⟨X, HX'⟩ : ∃ X, D x = X := ⟨_, rfl⟩
              rw [HX'] at hcx
              have HX := hidden HX'
              clear HX'
              by_cases h0 : X < 0
              · go_wp2
                go_roundw
                case rel => exact ⟨x + 1, D, c, by omega, by go_num, rfl, HH, HA.out.skip (by rw [HX.out]; exact h0)⟩
                case measure => simp [intOf]; omega
              · go_wp2
                go_loopw [17, 19] (fun c i wr => ∃ j D c', j ≤ (TR x).length ∧ i = .int .i64 (j : Nat) ∧ c = .bool c' ∧ Hid (Held k w D wr) ∧ Hid (AtArc (grOf k TR LR ord lev up) b r E x j c' D)) (fun _ i _ => (TR x).length - (intOf i).toNat)
                case atStart => exact ⟨0, D, c, by omega, rfl, rfl, HH, HA.out.into (by rw [HX.out]; omega)⟩
                case round =>
                  clear hcx h0 HX HH HA
                  obtain ⟨j, D, c, hj, rfl, rfl, HH, HA⟩ := hrel
                  obtain ⟨tb, to, hta, hct, hRt, hmt⟩ := HT.out.kept HH.out.bel x (by omega)
                  subst hta
                  by_cases hlj : (j : Int) < (TR x).length
                  · obtain ⟨lb, lo, hla, hcl, hRl, hml⟩ := HL.out.kept HH.out.bel x (by omega)
                    subst hla
                    have hlen := HD.out.len x (by omega)
                    obtain ⟨b1, o1, hra, hcy, hy⟩ := hRt j (by omega)
                    obtain ⟨b2, o2, hrb, hcz, hz⟩ := hRl j (by omega)
                    obtain ⟨a1, a2, a3⟩ := HD.out.arc x j (by omega) (by omega)
                    rw [hra] at hct
                    rw [hrb] at hcl
                    obtain ⟨y, hy'⟩ : ∃ y : Nat, (TR x).getD j 0 = (y : Int) := ⟨((TR x).getD j 0).toNat, by omega⟩
                    obtain ⟨Z, hz'⟩ : ∃ Z, (LR x).getD j 0 = Z := ⟨_, rfl⟩
                    rw [hy'] at hcy a1 a2
                    rw [hz'] at hcz hz a3
                    obtain ⟨ob, oo, hoa, hco, ho⟩ := HO.out.kept HH.out.bel y (by have := HOL.out; omega)
                    subst hoa
                    obtain ⟨o, ho'⟩ : ∃ o, ord.getD y 0 = o := ⟨_, rfl⟩
                    rw [ho'] at hco ho
                    have hcx := HH.out.row.cell (i := x) (by omega)
                    have hcd := HH.out.row.cell (i := y) (by omega)
                    have hfd := HH.out.row.frozen y
                    obtain ⟨X, hX'⟩ : ∃ X, D x = X := ⟨_, rfl⟩
                    obtain ⟨Y, hY'⟩ : ∃ Y, D y = Y := ⟨_, rfl⟩
                    have hX := HA.out.dx
                    have hYl := HA.out.le y
                    have hYm := (HA.out.att y (by show y < k; omega)).1
                    rw [hX'] at hcx hX
                    rw [hY'] at hcd hYl hYm
                    have HLET : Hid (Lets TR LR ord D x j y Z o X Y) := And.intro hy' (And.intro hz' (And.intro ho' (And.intro hX' hY')))
                    have hX1 := hX.1
                    have hX2 := hX.2
                    have hz1 := hz.1
                    have hz2 := hz.2
                    have ho1 := ho.1
                    have ho2 := ho.2
                    have hyk : (y : Int) < k := a2
                    have hlj' : (j : Int) < (LR x).length := by omega
                    clear hy' hz' ho' hX' hY' hra hrb hX hz ho hy a1 a2 hRt hRl hlen
                    by_cases c1 : up < o
                    · go_wp2
                      go_roundw
                      case rel => exact ⟨j + 1, D, c, by omega, by go_num, rfl, HH, arc_left HLET.out HA.out (by omega) (by omega) (by omega) (fun h => by omega)⟩
                      case measure => simp [intOf]; omega
                    · by_cases c2 : 0 ≤ Z
                      · have a4 := a3 c2
                        obtain ⟨q, hq⟩ : ∃ q : Nat, Z / 2 = (q : Int) := ⟨(Z / 2).toNat, by omega⟩
                        have hq2 : Z.tdiv 2 = (q : Int) := by rw [← hq]; exact Int.tdiv_eq_ediv_of_nonneg c2
                        have hq3 : (q : Int) < lev.length := by omega
                        have hq4 : (q : Int) ≤ 9223372036854775807 := by omega
                        obtain ⟨vb, vo, hva, hcv, hv⟩ := HV.out.kept HH.out.bel q (by omega)
                        subst hva
                        obtain ⟨l, hl'⟩ : ∃ l, lev.getD q 0 = l := ⟨_, rfl⟩
                        rw [hl'] at hcv hv
                        have hl1 := hv.1
                        have hl2 := hv.2
                        by_cases c5 : 0 < l
                        · have HC := hidden (cost_high (k := k) (TR := TR) (LR := LR) (ord := ord) (lev := lev) (up := up) c2 hq hl' c5)
                          clear hq hl' a3 a4 hv
                          by_cases c3 : Y < 0
                          · go_wp2
                            go_roundw
                            case rel =>
                              obtain ⟨t1, t2⟩ := arc_taken HLET.out HA.out HH.out (by omega) (by omega) (by omega) (v := (X + 1)) (by rw [HC.out]; omega) (by omega)
                              exact ⟨j + 1, _, true, by omega, by go_num, rfl, t1, t2⟩
                            case measure => simp [intOf]; omega
                          · by_cases c4 : (X + 1) < Y
                            · go_wp2
                              go_roundw
                              case rel =>
                                obtain ⟨t1, t2⟩ := arc_taken HLET.out HA.out HH.out (by omega) (by omega) (by omega) (v := (X + 1)) (by rw [HC.out]; omega) (by omega)
                                exact ⟨j + 1, _, true, by omega, by go_num, rfl, t1, t2⟩
                              case measure => simp [intOf]; omega
                            · go_wp2
                              go_roundw
                              case rel => exact ⟨j + 1, D, c, by omega, by go_num, rfl, HH, arc_left HLET.out HA.out (by omega) (by omega) (by omega) (fun h => by rw [HC.out] at h; omega)⟩
                              case measure => simp [intOf]; omega
                        · have HC := hidden (cost_low (k := k) (TR := TR) (LR := LR) (ord := ord) (lev := lev) (up := up) hq hl' c5)
                          clear hq hl' a3 a4 hv
                          by_cases c3 : Y < 0
                          · go_wp2
                            go_roundw
                            case rel =>
                              obtain ⟨t1, t2⟩ := arc_taken HLET.out HA.out HH.out (by omega) (by omega) (by omega) (v := X) (by rw [HC.out]; omega) (by omega)
                              exact ⟨j + 1, _, true, by omega, by go_num, rfl, t1, t2⟩
                            case measure => simp [intOf]; omega
                          · by_cases c4 : X < Y
                            · go_wp2
                              go_roundw
                              case rel =>
                                obtain ⟨t1, t2⟩ := arc_taken HLET.out HA.out HH.out (by omega) (by omega) (by omega) (v := X) (by rw [HC.out]; omega) (by omega)
                                exact ⟨j + 1, _, true, by omega, by go_num, rfl, t1, t2⟩
                              case measure => simp [intOf]; omega
                            · go_wp2
                              go_roundw
                              case rel => exact ⟨j + 1, D, c, by omega, by go_num, rfl, HH, arc_left HLET.out HA.out (by omega) (by omega) (by omega) (fun h => by rw [HC.out] at h; omega)⟩
                              case measure => simp [intOf]; omega
                      · have HC := hidden (cost_neg (k := k) (TR := TR) (LR := LR) (ord := ord) (lev := lev) (up := up) c2)
                        by_cases c3 : Y < 0
                        · go_wp2
                          go_roundw
                          case rel =>
                            obtain ⟨t1, t2⟩ := arc_taken HLET.out HA.out HH.out (by omega) (by omega) (by omega) (v := X) (by rw [HC.out]; omega) (by omega)
                            exact ⟨j + 1, _, true, by omega, by go_num, rfl, t1, t2⟩
                          case measure => simp [intOf]; omega
                        · by_cases c4 : X < Y
                          · go_wp2
                            go_roundw
                            case rel =>
                              obtain ⟨t1, t2⟩ := arc_taken HLET.out HA.out HH.out (by omega) (by omega) (by omega) (v := X) (by rw [HC.out]; omega) (by omega)
                              exact ⟨j + 1, _, true, by omega, by go_num, rfl, t1, t2⟩
                            case measure => simp [intOf]; omega
                          · go_wp2
                            go_roundw
                            case rel => exact ⟨j + 1, D, c, by omega, by go_num, rfl, HH, arc_left HLET.out HA.out (by omega) (by omega) (by omega) (fun h => by rw [HC.out] at h; omega)⟩
                            case measure => simp [intOf]; omega
                  · have e : j = (TR x).length := by omega
                    subst e
                    go_wp2
                    go_roundw
                    case rel => exact ⟨x + 1, D, c, by omega, by go_num, rfl, HH, AtArc.out (g := grOf k TR LR ord lev up) HA.out⟩
                    case measure => simp [intOf]; omega
            · have e : x = k := by omega
              subst e
              cases c
              · go_wp2
                go_ret
                obtain ⟨f1, f2⟩ := AtVert.fin (g := grOf x TR LR ord lev up) HA.out HR.out.upto
                exact ⟨rfl, ⟨D, HH.out.row, f1, f2⟩, HH.out.bel, HH.out.sz⟩
              · go_wp2
                go_roundw
                case rel => exact ⟨r + 1, D, by omega, by go_num, HH, AtVert.out (g := grOf x TR LR ord lev up) (by show b < x; omega) hn HA.out HR.out.upto⟩
                case measure => simp [intOf]; omega
        · have e : r = k := by omega
          subst e
          go_wp2
          go_ret
          exact ⟨rfl, ⟨E, HE.out.row, HR.out.att, HR.out.upto⟩, HE.out.bel, HE.out.sz⟩
end Go.Proofs.Qxb6603374a
