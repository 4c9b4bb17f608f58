/- The plain law of FnCycleIsCheapestPath, second part: the 0-1 search of 'cycle'. -/
import Derived.Test.Qxb6603374aGraph
namespace Go.Proofs.Qxb6603374a

/-- The least number of which P holds (0 where there is none). -/
theorem least_ex {P : Nat → Prop} : ∀ n, P n → ∃ m, P m ∧ ∀ k, P k → m ≤ k := fun n => by
  induction n using Nat.strongRecOn with
  | ind n ih =>
    intro h
    by_cases hs : ∃ m, m < n ∧ P m
    · obtain ⟨m, hm, hp⟩ := hs
      exact ih m hm hp
    · exact ⟨n, h, fun k hk => Nat.le_of_not_lt fun hl => hs ⟨k, hl, hk⟩⟩
open Classical in
noncomputable def least (P : Nat → Prop) : Nat := if h : ∃ m, P m ∧ ∀ k, P k → m ≤ k then h.choose else 0
theorem least_spec {P : Nat → Prop} {n : Nat} (h : P n) : P (least P) ∧ least P ≤ n := by
  have e := least_ex n h
  unfold least
  rw [dif_pos e]
  exact ⟨e.choose_spec.1, e.choose_spec.2 n h⟩

namespace Gr
variable (g : Gr)

/-- The first k arcs of y are relaxed. -/
def Exp (M : Nat → Prop) (d : Nat → Nat) (y k : Nat) : Prop := ∀ i, i < k → g.Arc y i → M (g.T y i) ∧ d (g.T y i) ≤ d y + g.wt y i

/-- The search in hand: M the vertices met, d their distances, V and Q the arc each was met by, rk when; N and F the two rows, D the distance in hand; X the vertex in hand (n: none), k of its arcs done. -/
structure Inv (b : Nat) (M : Nat → Prop) (d V : Nat → Nat) (Q : Nat → Int) (rk : Nat → Nat) (N F : List Nat) (D tm X k : Nat) : Prop where
  b0 : M b ∧ d b = 0
  ml : ∀ y, M y → y < g.n
  via : ∀ y, M y → y ≠ b → M (V y) ∧ (∃ i, g.Arc (V y) i ∧ g.T (V y) i = y ∧ g.L (V y) i = Q y ∧ d y = d (V y) + g.wt (V y) i) ∧ rk (V y) < rk y ∧ d (V y) ≤ D
  tms : ∀ y, M y → rk y < tm
  nn : ∀ y, y ∈ N → M y ∧ d y ≤ D
  ff : ∀ y, y ∈ F → M y ∧ d y ≤ D + 1
  top : ∀ y, M y → d y ≤ D + 1 ∧ (d y = D + 1 → y ∈ F)
  low : ∀ y, M y → d y < D → g.Exp M d y (g.deg y)
  cur : ∀ y, M y → d y = D → y ∉ N → y ≠ X → g.Exp M d y (g.deg y)
  ex : X < g.n → M X ∧ d X ≤ D ∧ (d X = D → g.Exp M d X k)

theorem wt_le (x i : Nat) : g.wt x i ≤ 1 := by unfold wt cost; split <;> omega

theorem inv_start {b : Nat} (hb : b < g.n) (d V : Nat → Nat) (Q : Nat → Int) (hd : d b = 0) : g.Inv b (fun y => y = b) d V Q (fun _ => 0) [b] [] 0 1 g.n 0 where
  b0 := ⟨rfl, hd⟩
  ml y h := h ▸ hb
  via y h hn := absurd h hn
  tms y _ := by omega
  nn y h := by simp at h; exact ⟨h, by subst h; omega⟩
  ff y h := by simp at h
  top y h := by subst h; omega
  low y _ h := absurd h (Nat.not_lt_zero _)
  cur y h _ hn _ := absurd (by subst h; simp) hn
  ex h := absurd h (Nat.lt_irrefl _)

/-- The next distance. -/
theorem Inv.swap {b : Nat} {M : Nat → Prop} {d V : Nat → Nat} {Q : Nat → Int} {rk : Nat → Nat} {F : List Nat} {D tm k : Nat} (h : g.Inv b M d V Q rk [] F D tm g.n k) : g.Inv b M d V Q rk F [] (D + 1) tm g.n 0 where
  b0 := h.b0
  ml := h.ml
  via y hy hn := by
    obtain ⟨h1, h2, h3, h4⟩ := h.via y hy hn
    exact ⟨h1, h2, h3, by omega⟩
  tms := h.tms
  nn := h.ff
  ff y hy := by simp at hy
  top y hy := by
    have := (h.top y hy).1
    exact ⟨by omega, fun e => by omega⟩
  low y hy hl := by
    by_cases e : d y = D
    · exact h.cur y hy e (by simp) (fun e2 => by have := h.ml y hy; omega)
    · exact h.low y hy (by omega)
  cur y hy e hn _ := absurd ((h.top y hy).2 e) hn
  ex hx := absurd hx (Nat.lt_irrefl _)

/-- The last of the row is taken. -/
theorem Inv.pop {b : Nat} {M : Nat → Prop} {d V : Nat → Nat} {Q : Nat → Int} {rk : Nat → Nat} {N F : List Nat} {D tm k x : Nat} (h : g.Inv b M d V Q rk (N ++ [x]) F D tm g.n k) : g.Inv b M d V Q rk N F D tm x 0 where
  b0 := h.b0
  ml := h.ml
  via := h.via
  tms := h.tms
  nn y hy := h.nn y (by simp [hy])
  ff := h.ff
  top := h.top
  low := h.low
  cur y hy e hn hx := h.cur y hy e (by simp [hn, hx]) (fun e2 => by have := h.ml y hy; omega)
  ex hx := by
    obtain ⟨h1, h2⟩ := h.nn x (by simp)
    exact ⟨h1, h2, fun _ i hi => absurd hi (Nat.not_lt_zero _)⟩

/-- All arcs done. -/
theorem Inv.done {b : Nat} {M : Nat → Prop} {d V : Nat → Nat} {Q : Nat → Int} {rk : Nat → Nat} {N F : List Nat} {D tm x k : Nat} (h : g.Inv b M d V Q rk N F D tm x (g.deg x)) : g.Inv b M d V Q rk N F D tm g.n k where
  b0 := h.b0
  ml := h.ml
  via := h.via
  tms := h.tms
  nn := h.nn
  ff := h.ff
  top := h.top
  low := h.low
  cur y hy e hn _ := by
    by_cases hx : y = x
    · subst hx
      exact (h.ex (h.ml y hy)).2.2 e
    · exact h.cur y hy e hn hx
  ex hx := absurd hx (Nat.lt_irrefl _)

/-- An arc that is left: it may not be taken, or it is no better. -/
theorem Inv.skip {b : Nat} {M : Nat → Prop} {d V : Nat → Nat} {Q : Nat → Int} {rk : Nat → Nat} {N F : List Nat} {D tm x k : Nat} (h : g.Inv b M d V Q rk N F D tm x k)
    (hs : ¬ g.O (g.T x k) ≤ g.up ∨ (M (g.T x k) ∧ d (g.T x k) ≤ d x + g.wt x k)) : g.Inv b M d V Q rk N F D tm x (k + 1) where
  b0 := h.b0
  ml := h.ml
  via := h.via
  tms := h.tms
  nn := h.nn
  ff := h.ff
  top := h.top
  low := h.low
  cur := h.cur
  ex hx := by
    obtain ⟨h1, h2, h3⟩ := h.ex hx
    refine ⟨h1, h2, fun e i hi ha => ?_⟩
    by_cases hk : i = k
    · subst hk
      rcases hs with hs | hs
      · exact absurd ha.2.2.2 hs
      · exact hs
    · exact h3 e i (by omega) ha

/-- d at y turned into v. -/
def upd {α : Type} (f : Nat → α) (y : Nat) (v : α) : Nat → α := fun z => if z = y then v else f z
theorem upd_same {α : Type} (f : Nat → α) (y : Nat) (v : α) : upd f y v y = v := if_pos rfl
theorem upd_other {α : Type} (f : Nat → α) {y z : Nat} (v : α) (h : z ≠ y) : upd f y v z = f z := if_neg h

/-- An arc that is taken: x stands at the distance in hand, y was further off (or not met). -/
theorem Inv.far {b : Nat} {M : Nat → Prop} {d V : Nat → Nat} {Q : Nat → Int} {rk : Nat → Nat} {N F : List Nat} {D tm x k : Nat} (h : g.Inv b M d V Q rk N F D tm x k) (ha : g.Arc x k)
    (hs : ¬ (M (g.T x k) ∧ d (g.T x k) ≤ d x + g.wt x k)) : d x = D ∧ g.T x k ≠ x ∧ g.T x k ≠ b ∧ (M (g.T x k) → D < d (g.T x k)) := by
  obtain ⟨h1, h2, h3⟩ := h.ex ha.1
  have e : d x = D := by
    by_cases e : d x = D
    · exact e
    · exact absurd (h.low x h1 (by omega) k ha.2.1 ha) hs
  refine ⟨e, fun e2 => hs ?_, fun e2 => hs ?_, fun hm => ?_⟩
  · rw [e2]; exact ⟨h1, by omega⟩
  · rw [e2]; exact ⟨h.b0.1, by rw [h.b0.2]; omega⟩
  · have : ¬ d (g.T x k) ≤ d x + g.wt x k := fun hl => hs ⟨hm, hl⟩
    omega

theorem Inv.take {b : Nat} {M : Nat → Prop} {d V : Nat → Nat} {Q : Nat → Int} {rk : Nat → Nat} {N F : List Nat} {D tm x k : Nat} (h : g.Inv b M d V Q rk N F D tm x k) (ha : g.Arc x k)
    (hs : ¬ (M (g.T x k) ∧ d (g.T x k) ≤ d x + g.wt x k)) (N' F' : List Nat) (hN : N' = if g.wt x k = 0 then N ++ [g.T x k] else N) (hF : F' = if g.wt x k = 0 then F else F ++ [g.T x k]) :
    g.Inv b (fun z => z = g.T x k ∨ M z) (upd d (g.T x k) (d x + g.wt x k)) (upd V (g.T x k) x) (upd Q (g.T x k) (g.L x k)) (upd rk (g.T x k) tm) N' F' D (tm + 1) x (k + 1) := by
  obtain ⟨ed, hyx, hyb, hfar⟩ := h.far g ha hs
  have hw := g.wt_le x k
  obtain ⟨hxM, hxD, hxE⟩ := h.ex ha.1
  generalize hy : g.T x k = y at *
  -- what stands at the distance in hand or below stays
  have keep : ∀ z, M z → d z ≤ D → z ≠ y := fun z hz hd e => by subst e; have := hfar hz; omega
  have low : ∀ z, M z → upd d y (d x + g.wt x k) z ≤ d z := fun z hz => by
    by_cases e : z = y
    · subst e; rw [upd_same]; have := hfar hz; omega
    · rw [upd_other _ _ e]; exact Nat.le_refl _
  have exp : ∀ z k', M z → d z ≤ D → g.Exp M d z k' → g.Exp (fun z => z = y ∨ M z) (upd d y (d x + g.wt x k)) z k' := fun z k' hz hd he i hi hA => by
    obtain ⟨h1, h2⟩ := he i hi hA
    refine ⟨.inr h1, ?_⟩
    rw [upd_other _ _ (keep z hz hd)]
    exact Nat.le_trans (low _ h1) h2
  have hNm : ∀ z, z ∈ N → z ∈ N' := fun z hz => by rw [hN]; split <;> simp [hz]
  have hFm : ∀ z, z ∈ F → z ∈ F' := fun z hz => by rw [hF]; split <;> simp [hz]
  refine ⟨⟨.inr h.b0.1, by rw [upd_other _ _ (Ne.symm hyb)]; exact h.b0.2⟩, ?_, ?_, ?_, ?_, ?_, ?_, ?_, ?_, ?_⟩
  · rintro z (rfl | hz)
    · exact hy ▸ ha.2.2.1
    · exact h.ml z hz
  · intro z hz hzb
    by_cases e : z = y
    · subst e
      simp only [upd_same]
      rw [upd_other _ _ (Ne.symm hyx), upd_other _ _ (Ne.symm hyx)]
      exact ⟨.inr hxM, ⟨k, ha, hy, rfl, rfl⟩, h.tms x hxM, by omega⟩
    · have hz' : M z := hz.resolve_left e
      obtain ⟨h1, ⟨i, h2, h3, h4, h5⟩, h6, h7⟩ := h.via z hz' hzb
      have hv : V z ≠ y := keep _ h1 h7
      rw [upd_other V _ e, upd_other rk _ e, upd_other rk _ hv, upd_other _ _ hv, upd_other Q _ e, upd_other _ _ e]
      exact ⟨.inr h1, ⟨i, h2, h3, h4, h5⟩, h6, h7⟩
  · rintro z hz
    by_cases e : z = y
    · subst e; rw [upd_same]; omega
    · rw [upd_other _ _ e]; have := h.tms z (hz.resolve_left e); omega
  · intro z hz
    rw [hN] at hz
    have old : z ∈ N → (z = y ∨ M z) ∧ upd d y (d x + g.wt x k) z ≤ D := fun hz => by
      obtain ⟨h1, h2⟩ := h.nn z hz
      exact ⟨.inr h1, Nat.le_trans (low z h1) h2⟩
    by_cases w0 : g.wt x k = 0
    · rw [if_pos w0] at hz
      rcases List.mem_append.1 hz with hz | hz
      · exact old hz
      · simp at hz; subst hz; rw [upd_same]; exact ⟨.inl rfl, by omega⟩
    · rw [if_neg w0] at hz; exact old hz
  · intro z hz
    rw [hF] at hz
    have old : z ∈ F → (z = y ∨ M z) ∧ upd d y (d x + g.wt x k) z ≤ D + 1 := fun hz => by
      obtain ⟨h1, h2⟩ := h.ff z hz
      exact ⟨.inr h1, Nat.le_trans (low z h1) h2⟩
    by_cases w0 : g.wt x k = 0
    · rw [if_pos w0] at hz; exact old hz
    · rw [if_neg w0] at hz
      rcases List.mem_append.1 hz with hz | hz
      · exact old hz
      · simp at hz; subst hz; rw [upd_same]; exact ⟨.inl rfl, by omega⟩
  · intro z hz
    by_cases e : z = y
    · subst e
      rw [upd_same]
      refine ⟨by omega, fun e2 => ?_⟩
      have w0 : ¬ g.wt x k = 0 := by omega
      rw [hF, if_neg w0]; simp
    · rw [upd_other _ _ e]
      obtain ⟨h1, h2⟩ := h.top z (hz.resolve_left e)
      exact ⟨h1, fun e2 => hFm z (h2 e2)⟩
  · intro z hz hl
    by_cases e : z = y
    · subst e; rw [upd_same] at hl; omega
    · rw [upd_other _ _ e] at hl
      have hz' := hz.resolve_left e
      exact exp z _ hz' (by omega) (h.low z hz' hl)
  · intro z hz e2 hn hx
    by_cases e : z = y
    · subst e
      rw [upd_same] at e2
      have w0 : g.wt x k = 0 := by omega
      exact absurd (by rw [hN, if_pos w0]; simp) hn
    · rw [upd_other _ _ e] at e2
      have hz' := hz.resolve_left e
      exact exp z _ hz' (by omega) (h.cur z hz' e2 (fun hm => hn (hNm z hm)) hx)
  · intro _
    refine ⟨.inr hxM, by rw [upd_other _ _ (Ne.symm hyx)]; exact hxD, fun _ i hi hA => ?_⟩
    by_cases hk : i = k
    · subst hk
      rw [hy, upd_same, upd_other _ _ (Ne.symm hyx)]
      exact ⟨.inl rfl, Nat.le_refl _⟩
    · exact exp x (k) hxM hxD (hxE ed) i (by omega) hA

/-! ### How far it is to the end -/
open Classical in
/-- What a vertex may still cost. -/
noncomputable def due (M : Nat → Prop) (d : Nat → Nat) (D y : Nat) : Nat := if M y then (if D < d y then 1 else 0) else 2
noncomputable def dueAll (M : Nat → Prop) (d : Nat → Nat) (D : Nat) (n : Nat) : Nat := match n with
  | 0 => 0
  | m + 1 => dueAll M d D m + due M d D m
noncomputable def total (M : Nat → Prop) (d : Nat → Nat) (N F : List Nat) (D n : Nat) : Nat := 2 * dueAll M d D n + N.length + F.length

theorem dueAll_le {M M' : Nat → Prop} {d d' : Nat → Nat} {D D' : Nat} (h : ∀ y, due M' d' D' y ≤ due M d D y) : ∀ n, dueAll M' d' D' n ≤ dueAll M d D n
  | 0 => Nat.le_refl _
  | n + 1 => by
    have h1 := dueAll_le h n
    have h2 := h n
    unfold dueAll
    omega
theorem dueAll_lt {M M' : Nat → Prop} {d d' : Nat → Nat} {D D' y : Nat} (h : ∀ y, due M' d' D' y ≤ due M d D y) (hy : due M' d' D' y < due M d D y) : ∀ n, y < n → dueAll M' d' D' n < dueAll M d D n
  | 0, hn => absurd hn (Nat.not_lt_zero _)
  | n + 1, hn => by
    have h2 := h n
    by_cases e : y = n
    · subst e
      have h1 := dueAll_le h y
      unfold dueAll
      omega
    · have h1 := dueAll_lt h hy n (by omega)
      unfold dueAll
      omega

theorem total_swap {M : Nat → Prop} {d : Nat → Nat} {F : List Nat} {D n : Nat} : total M d F [] (D + 1) n ≤ total M d [] F D n := by
  have := dueAll_le (M := M) (M' := M) (d := d) (d' := d) (D := D) (D' := D + 1) (fun y => by unfold due; split <;> (try split) <;> (try split) <;> omega) n
  unfold total
  simp
  omega
theorem total_pop {M : Nat → Prop} {d : Nat → Nat} {N F : List Nat} {D n x : Nat} : total M d N F D n + 1 = total M d (N ++ [x]) F D n := by
  unfold total
  simp
  omega
theorem total_take {M : Nat → Prop} {d : Nat → Nat} {N F N' F' : List Nat} {D n y v w : Nat} (hy : y < n) (hv : D ≤ v) (hv2 : v ≤ D + 1) (hfar : M y → v < d y) (hM : M y → D < d y) (htop : M y → d y ≤ D + 1)
    (hl : N'.length + F'.length = N.length + F.length + 1) (hw : w = v) : total (fun z => z = y ∨ M z) (upd d y w) N' F' D n < total M d N F D n := by
  subst hw
  have hy1 : due (fun z => z = y ∨ M z) (upd d y w) D y < due M d D y := by
    unfold due
    rw [if_pos (.inl rfl), upd_same]
    by_cases hm : M y
    · have h1 := hfar hm
      have h2 := hM hm
      rw [if_pos hm, if_pos h2]
      by_cases h3 : D < w
      · exfalso
        have := hfar hm
        have h4 := htop hm
        omega
      · rw [if_neg h3]; omega
    · rw [if_neg hm]; split <;> omega
  have hle : ∀ z, due (fun z => z = y ∨ M z) (upd d y w) D z ≤ due M d D z := fun z => by
    by_cases e : z = y
    · subst e; omega
    · unfold due
      rw [upd_other _ _ e]
      by_cases hm : M z
      · rw [if_pos hm, if_pos (.inr hm)]; exact Nat.le_refl _
      · rw [if_neg hm, if_neg (fun h => hm (h.resolve_left e))]; exact Nat.le_refl _
  have := dueAll_lt hle hy1 n hy
  unfold total
  omega

/-! ### The end of the search -/
/-- What the way back needs. -/
structure Fin (a b : Nat) (M : Nat → Prop) (d V : Nat → Nat) (Q : Nat → Int) (rk : Nat → Nat) : Prop where
  a0 : M a
  b0 : M b ∧ d b = 0
  ml : ∀ y, M y → y < g.n
  via : ∀ y, M y → y ≠ b → M (V y) ∧ (∃ i, g.Arc (V y) i ∧ g.T (V y) i = y ∧ g.L (V y) i = Q y ∧ d y = d (V y) + g.wt (V y) i) ∧ rk (V y) < rk y
  best : ∀ m c s, g.Wk b a m c s → d a ≤ c

theorem Inv.fin {a b : Nat} {M : Nat → Prop} {d V : Nat → Nat} {Q : Nat → Int} {rk : Nat → Nat} {N F : List Nat} {D tm k : Nat} (h : g.Inv b M d V Q rk N F D tm g.n k) (ha : a ∈ N) : g.Fin a b M d V Q rk := by
  obtain ⟨h1, h2⟩ := h.nn a ha
  refine ⟨h1, h.b0, h.ml, fun y hy hn => ⟨(h.via y hy hn).1, (h.via y hy hn).2.1, (h.via y hy hn).2.2.1⟩, fun m c s hw => ?_⟩
  have key : ∀ v m c s, g.Wk b v m c s → D ≤ c ∨ (M v ∧ d v ≤ c) := fun v m c s hw => by
    induction hw with
    | nil => exact .inr ⟨h.b0.1, by rw [h.b0.2]; omega⟩
    | @snoc x m c s i hw hA ih =>
      rcases ih with ih | ⟨i1, i2⟩
      · exact .inl (by omega)
      · by_cases hl : d x < D
        · obtain ⟨e1, e2⟩ := h.low _ i1 hl i hA.2.1 hA
          exact .inr ⟨e1, by omega⟩
        · exact .inl (by omega)
  rcases key a m c s hw with k1 | k1
  · omega
  · exact k1.2

theorem Inv.finEnd {a b : Nat} {M : Nat → Prop} {d V : Nat → Nat} {Q : Nat → Int} {rk : Nat → Nat} {D tm k : Nat} (h : g.Inv b M d V Q rk [] [] D tm g.n k) (ha : ∃ m c s, g.Wk b a m c s) : g.Fin a b M d V Q rk := by
  have all : ∀ y, M y → g.Exp M d y (g.deg y) := fun y hy => by
    obtain ⟨h1, h2⟩ := h.top y hy
    by_cases e : d y = D + 1
    · exact absurd (h2 e) (by simp)
    · by_cases e2 : d y = D
      · exact h.cur y hy e2 (by simp) (fun e3 => by have := h.ml y hy; omega)
      · exact h.low y hy (by omega)
  have key : ∀ v m c s, g.Wk b v m c s → M v ∧ d v ≤ c := fun v m c s hw => by
    induction hw with
    | nil => exact ⟨h.b0.1, by rw [h.b0.2]; omega⟩
    | snoc i hw hA ih =>
      obtain ⟨e1, e2⟩ := all _ ih.1 i hA.2.1 hA
      exact ⟨e1, by omega⟩
  obtain ⟨m, c, s, hw⟩ := ha
  exact ⟨(key a m c s hw).1, h.b0, h.ml, fun y hy hn => ⟨(h.via y hy hn).1, (h.via y hy hn).2.1, (h.via y hy hn).2.2.1⟩, fun m c s hw => (key a m c s hw).2⟩

/-- The way back: at x, acc the literals met, vs the vertices left behind. -/
structure Back (a b : Nat) (M : Nat → Prop) (d : Nat → Nat) (rk : Nat → Nat) (x : Nat) (acc : List Int) (vs : List Nat) : Prop where
  mx : M x
  walk : ∀ m c s, g.Wk b x m c s → ∃ c', g.Wk b a (m + vs.length) c' (s ++ acc.reverse) ∧ c' + d x = c + d a
  nod : vs.Nodup
  rks : ∀ v, v ∈ vs → M v ∧ rk x < rk v

theorem back_start {a b : Nat} {M : Nat → Prop} {d V : Nat → Nat} {Q : Nat → Int} {rk : Nat → Nat} (h : g.Fin a b M d V Q rk) : g.Back a b M d rk a [] [] :=
  ⟨h.a0, fun m c s hw => ⟨c, by simpa using hw, rfl⟩, List.nodup_nil, fun v hv => by simp at hv⟩
theorem Back.step {a b : Nat} {M : Nat → Prop} {d V : Nat → Nat} {Q : Nat → Int} {rk : Nat → Nat} {x : Nat} {acc acc' : List Int} {vs : List Nat} (h : g.Fin a b M d V Q rk) (k : g.Back a b M d rk x acc vs) (hx : x ≠ b)
    (hacc : acc' = acc ++ (if 0 ≤ Q x then [Q x] else [])) : g.Back a b M d rk (V x) acc' (x :: vs) := by
  obtain ⟨h1, ⟨i, h2, h3, h4, h5⟩, h6⟩ := h.via x k.mx hx
  refine ⟨h1, fun m c s hw => ?_, List.nodup_cons.2 ⟨fun hm => ?_, k.nod⟩, fun v hv => ?_⟩
  · have hw2 := Wk.snoc i hw h2
    rw [h3] at hw2
    obtain ⟨c', hc, he⟩ := k.walk _ _ _ hw2
    have e1 : s ++ g.lits (V x) i ++ acc.reverse = s ++ acc'.reverse := by
      rw [hacc]
      unfold lits
      rw [h4]
      by_cases hq : 0 ≤ Q x
      · simp [if_pos hq]
      · simp [if_neg hq]
    rw [e1] at hc
    refine ⟨c', ?_, by omega⟩
    have e2 : m + (x :: vs).length = m + 1 + vs.length := by simp; omega
    rw [e2]; exact hc
  · have := (k.rks x hm).2
    omega
  · rcases List.mem_cons.1 hv with e | hv
    · subst e; exact ⟨k.mx, h6⟩
    · obtain ⟨i1, i2⟩ := k.rks v hv
      exact ⟨i1, by omega⟩
/-- At b: a walk from b to a, as cheap as any, with fewer arcs than there are vertices. -/
theorem Back.fin {a b : Nat} {M : Nat → Prop} {d V : Nat → Nat} {Q : Nat → Int} {rk : Nat → Nat} {acc : List Int} {vs : List Nat} (h : g.Fin a b M d V Q rk) (k : g.Back a b M d rk b acc vs) :
    ∃ m c, g.Wk b a m c acc.reverse ∧ m + 1 ≤ g.n ∧ ∀ m' c' s', g.Wk b a m' c' s' → c ≤ c' := by
  obtain ⟨c', hw, he⟩ := k.walk 0 0 [] .nil
  rw [h.b0.2] at he
  have hn := nodup_le g.n (b :: vs) (List.nodup_cons.2 ⟨fun hm => by have := (k.rks b hm).2; omega, k.nod⟩) (fun v hv => by
    rcases List.mem_cons.1 hv with e | hv
    · subst e; exact h.ml v h.b0.1
    · exact h.ml v (k.rks v hv).1)
  refine ⟨0 + vs.length, c', by simpa using hw, by simp at hn; omega, fun m' c2 s' hw' => ?_⟩
  have := h.best m' c2 s' hw'
  omega
end Gr
end Go.Proofs.Qxb6603374a
