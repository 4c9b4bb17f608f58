/- The plain law of FnCycleIsCheapestPath: a 0-1 search against Bellman-Ford, no Go in sight. -/
import Derived.Test.Qxb6603374aRows
namespace Go.Proofs.Qxb6603374a

/-- The graph as the law sees it: n vertices, deg v arcs out of v, arc i of v to T v i with literal L v i; O the order, up the bound, hi l: the literal l counts. -/
structure Gr where
  n : Nat
  deg : Nat → Nat
  T : Nat → Nat → Nat
  L : Nat → Nat → Int
  O : Nat → Int
  up : Int
  hi : Int → Bool

namespace Gr
variable (g : Gr)

/-- Arc i of x may be taken. -/
def Arc (x i : Nat) : Prop := x < g.n ∧ i < g.deg x ∧ g.T x i < g.n ∧ g.O (g.T x i) ≤ g.up
/-- What a literal costs. -/
def cost (l : Int) : Nat := if 0 ≤ l ∧ g.hi l = true then 1 else 0
def wt (x i : Nat) : Nat := g.cost (g.L x i)
def lits (x i : Nat) : List Int := if 0 ≤ g.L x i then [g.L x i] else []

/-- A walk from b: its end, its number of arcs, its cost, its literals. -/
inductive Wk (b : Nat) : Nat → Nat → Nat → List Int → Prop
  | nil : Wk b b 0 0 []
  | snoc {x m c : Nat} {s : List Int} (i : Nat) (h : Wk b x m c s) (ha : g.Arc x i) : Wk b (g.T x i) (m + 1) (c + g.wt x i) (s ++ g.lits x i)

theorem Wk.lt {b x m c : Nat} {s : List Int} (hb : b < g.n) (h : g.Wk b x m c s) : x < g.n := by
  cases h with
  | nil => exact hb
  | snoc i h ha => exact ha.2.2.1

/-- A walk's literals are none of them negative, no more than its arcs, and cost what it costs. -/
theorem Wk.words {b x m c : Nat} {s : List Int} (h : g.Wk b x m c s) : (∀ l ∈ s, 0 ≤ l) ∧ s.length ≤ m ∧ (s.map g.cost).sum = c := by
  induction h with
  | nil => simp
  | @snoc x m c s i h ha ih =>
    obtain ⟨h1, h2, h3⟩ := ih
    unfold lits
    by_cases hl : 0 ≤ g.L x i
    · rw [if_pos hl]
      refine ⟨fun l hm => ?_, by simp; omega, ?_⟩
      · rcases List.mem_append.1 hm with h | h
        · exact h1 l h
        · simp at h; omega
      · simp [h3, wt]
    · rw [if_neg hl]
      refine ⟨by simpa using h1, by simp; omega, ?_⟩
      have : g.wt x i = 0 := by unfold wt cost; rw [if_neg (fun e => hl e.1)]
      simp [h3, this]

/-- A row of distinct vertices is no longer than there are vertices. -/
theorem nodup_le : ∀ (n : Nat) (l : List Nat), l.Nodup → (∀ x ∈ l, x < n) → l.length ≤ n
  | 0, l, _, h => by
    cases l with
    | nil => simp
    | cons x r => exact absurd (h x (by simp)) (Nat.not_lt_zero x)
  | n + 1, l, hn, h => by
    by_cases hm : n ∈ l
    · have h1 := nodup_le n (l.erase n) (hn.erase n) (fun x hx => by
        have h2 := (List.Nodup.mem_erase_iff hn).1 hx
        have := h x h2.2
        omega)
      rw [List.length_erase_of_mem hm] at h1
      omega
    · have := nodup_le n l hn (fun x hx => by
        have h1 := h x hx
        have : x ≠ n := fun e => hm (e ▸ hx)
        omega)
      omega

/-! ### Bellman-Ford -/
/-- Each distance that is there is a walk's cost. -/
def Attained (b : Nat) (D : Nat → Int) : Prop := ∀ v, v < g.n → -1 ≤ D v ∧ (0 ≤ D v → ∃ m c s, g.Wk b v m c s ∧ D v = (c : Int))
/-- All walks of at most r arcs are met. -/
def Upto (b r : Nat) (D : Nat → Int) : Prop := ∀ v m c s, g.Wk b v m c s → m ≤ r → 0 ≤ D v ∧ D v ≤ (c : Int)
/-- D' is at least as good as D. -/
def Better (D D' : Nat → Int) : Prop := ∀ v, v < g.n → 0 ≤ D v → 0 ≤ D' v ∧ D' v ≤ D v
/-- All arcs out of the vertices below x (and the first i of x) are relaxed with respect to D. -/
def Relaxed (D D' : Nat → Int) (x i : Nat) : Prop := ∀ u j, g.Arc u j → 0 ≤ D u → (u < x ∨ (u = x ∧ j < i)) → 0 ≤ D' (g.T u j) ∧ D' (g.T u j) ≤ D u + (g.wt u j : Int)

theorem Better.refl (D : Nat → Int) : g.Better D D := fun _ _ h => ⟨h, Int.le_refl _⟩
theorem Better.trans {D E F : Nat → Int} (h : g.Better D E) (k : g.Better E F) : g.Better D F := fun v hv h0 => by
  obtain ⟨h1, h2⟩ := h v hv h0
  obtain ⟨h3, h4⟩ := k v hv h1
  exact ⟨h3, by omega⟩

/-- The start. -/
def start (b : Nat) : Nat → Int := fun v => if v = b then 0 else -1
theorem attained_start (b : Nat) : g.Attained b (start b) := fun v _ => by
  unfold start
  by_cases e : v = b
  · subst e
    rw [if_pos rfl]
    exact ⟨by omega, fun _ => ⟨0, 0, [], .nil, rfl⟩⟩
  · rw [if_neg e]
    exact ⟨by omega, fun h => by omega⟩
theorem upto_start (b : Nat) : g.Upto b 0 (start b) := fun v m c s h hm => by
  cases h with
  | nil => simp [start]
  | snoc i h ha => omega

/-- A round's end: everything relaxed: one arc more. -/
theorem upto_round {b r : Nat} {D D' : Nat → Int} (hb : b < g.n) (h : g.Upto b r D) (hB : g.Better D D') (hR : g.Relaxed D D' g.n 0) : g.Upto b (r + 1) D' := fun v m c s hw hm => by
  cases hw with
  | nil =>
    obtain ⟨h1, h2⟩ := h b 0 0 [] .nil (by omega)
    obtain ⟨h3, h4⟩ := hB b hb h1
    exact ⟨h3, by omega⟩
  | snoc i hw ha =>
    obtain ⟨h1, h2⟩ := h _ _ _ _ hw (by omega)
    obtain ⟨h3, h4⟩ := hR _ i ha h1 (.inl ha.1)
    exact ⟨h3, by omega⟩
/-- Nothing changed: all walks are met. -/
theorem upto_still {b r : Nat} {D : Nat → Int} (h : g.Upto b 0 D) (hR : g.Relaxed D D g.n 0) : g.Upto b r D := by
  have : ∀ v m c s, g.Wk b v m c s → 0 ≤ D v ∧ D v ≤ (c : Int) := fun v m c s hw => by
    induction hw with
    | nil => exact h b 0 0 [] .nil (by omega)
    | snoc i hw ha ih =>
      obtain ⟨h3, h4⟩ := hR _ i ha ih.1 (.inl ha.1)
      exact ⟨h3, by omega⟩
  exact fun v m c s hw _ => this v m c s hw
theorem upto_mono {b r : Nat} {D D' : Nat → Int} (hb : b < g.n) (h : g.Upto b r D) (hB : g.Better D D') : g.Upto b r D' := fun v m c s hw hm => by
  obtain ⟨h1, h2⟩ := h v m c s hw hm
  obtain ⟨h3, h4⟩ := hB v (hw.lt g hb) h1
  exact ⟨h3, by omega⟩

/-- One arc's step of Bellman-Ford on the row D. -/
def relax (D : Nat → Int) (x i : Nat) : Nat → Int := fun v =>
  if v = g.T x i then (if g.O (g.T x i) ≤ g.up ∧ 0 ≤ D x ∧ (D v < 0 ∨ D x + (g.wt x i : Int) < D v) then D x + (g.wt x i : Int) else D v) else D v

theorem relax_attained {b x i : Nat} {D : Nat → Int} (h : g.Attained b D) (hx : x < g.n) (hi : i < g.deg x) (hT : g.T x i < g.n) : g.Attained b (g.relax D x i) := fun v hv => by
  unfold relax
  by_cases e : v = g.T x i
  · rw [if_pos e]
    by_cases c : g.O (g.T x i) ≤ g.up ∧ 0 ≤ D x ∧ (D v < 0 ∨ D x + (g.wt x i : Int) < D v)
    · rw [if_pos c]
      refine ⟨by omega, fun _ => ?_⟩
      obtain ⟨m, k, s, hw, hd⟩ := (h x hx).2 c.2.1
      rw [e]
      exact ⟨m + 1, k + g.wt x i, _, .snoc i hw ⟨hx, hi, hT, c.1⟩, by omega⟩
    · rw [if_neg c]; exact h v hv
  · rw [if_neg e]; exact h v hv
theorem relax_better {x i : Nat} (D : Nat → Int) : g.Better D (g.relax D x i) := fun v _ h0 => by
  unfold relax
  by_cases e : v = g.T x i
  · rw [if_pos e]
    by_cases c : g.O (g.T x i) ≤ g.up ∧ 0 ≤ D x ∧ (D v < 0 ∨ D x + (g.wt x i : Int) < D v)
    · rw [if_pos c]; omega
    · rw [if_neg c]; omega
  · rw [if_neg e]; omega
/-- The arc is relaxed behind its step. -/
theorem relax_done {x i : Nat} {D : Nat → Int} (ha : g.Arc x i) (h0 : 0 ≤ D x) : 0 ≤ g.relax D x i (g.T x i) ∧ g.relax D x i (g.T x i) ≤ D x + (g.wt x i : Int) := by
  unfold relax
  rw [if_pos rfl]
  by_cases c : g.O (g.T x i) ≤ g.up ∧ 0 ≤ D x ∧ (D (g.T x i) < 0 ∨ D x + (g.wt x i : Int) < D (g.T x i))
  · rw [if_pos c]; omega
  · rw [if_neg c]
    have := ha.2.2.2
    omega
/-- A round in hand: E the row at its start, D the row now. -/
theorem relaxed_step {x i : Nat} {E D : Nat → Int} (hB : g.Better E D) (hR : g.Relaxed E D x i) : g.Relaxed E (g.relax D x i) x (i + 1) := fun u j ha h0 hu => by
  by_cases e : u = x ∧ j = i
  · obtain ⟨rfl, rfl⟩ := e
    obtain ⟨h1, h2⟩ := hB u ha.1 h0
    obtain ⟨h3, h4⟩ := g.relax_done ha h1
    exact ⟨h3, by omega⟩
  · obtain ⟨h1, h2⟩ := hR u j ha h0 (by
      rcases hu with h | ⟨h, k⟩
      · exact .inl h
      · refine .inr ⟨h, ?_⟩
        have : j ≠ i := fun e2 => e ⟨h, e2⟩
        omega)
    obtain ⟨h3, h4⟩ := g.relax_better (x := x) (i := i) D _ ha.2.2.1 h1
    exact ⟨h3, by omega⟩
theorem relaxed_start (E D : Nat → Int) : g.Relaxed E D 0 0 := fun u j _ _ hu => by omega
/-- All of x's arcs, or x not there at all: on to the next. -/
theorem relaxed_next {x : Nat} {E D : Nat → Int} (hR : g.Relaxed E D x (g.deg x)) : g.Relaxed E D (x + 1) 0 := fun u j ha h0 hu => by
  refine hR u j ha h0 ?_
  have := ha.2.1
  rcases hu with h | ⟨_, h⟩
  · by_cases e : u = x
    · subst e; exact .inr ⟨rfl, this⟩
    · exact .inl (by omega)
  · omega
theorem relaxed_skip {x : Nat} {E D : Nat → Int} (hR : g.Relaxed E D x 0) (hB : g.Better E D) (hn : D x < 0) : g.Relaxed E D (x + 1) 0 := fun u j ha h0 hu => by
  by_cases e : u = x
  · subst e
    have := (hB u ha.1 h0).1
    omega
  · exact hR u j ha h0 (.inl (by omega))
end Gr
end Go.Proofs.Qxb6603374a
