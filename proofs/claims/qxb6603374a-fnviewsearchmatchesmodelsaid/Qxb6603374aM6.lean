/- The plain part of FnViewSearchMatchesModel: what its own model counts up, and the two memories it builds. -/
import Derived.Test.Qxb6603374aGm
import Derived.Test.Qxb6603374aZvMem
import Derived.Test.Qxb6603374aNs
namespace Go.Proofs.Qxb6603374a
open Go.ChangeShapes Go.WideShapes Go.ChangeAt Go.RowKit

/-! ### The first operations -/
/-- z is the first place of t below n, 0 where there is none. -/
def FirstIs (op : Nat → Nat) (lo n t : Nat) (z : Int) : Prop := (∃ j : Nat, lo ≤ j ∧ j < n ∧ op j = t ∧ z = (j : Int) ∧ ∀ i, lo ≤ i → i < j → op i ≠ t) ∨ ((∀ j, lo ≤ j → j < n → op j ≠ t) ∧ z = 0)
theorem FirstIs.uniq {op : Nat → Nat} {lo n t : Nat} {z z' : Int} (h : FirstIs op lo n t z) (h' : FirstIs op lo n t z') : z = z' := by
  rcases h with ⟨j, h0, h1, h2, h3, h4⟩ | ⟨h1, h2⟩
  · rcases h' with ⟨j', g0, g1, g2, g3, g4⟩ | ⟨g1, g2⟩
    · rcases Nat.lt_trichotomy j j' with c | c | c
      · exact absurd h2 (g4 j h0 c)
      · rw [h3, g3, c]
      · exact absurd g2 (h4 j' g0 c)
    · exact absurd h2 (g1 j h0 h1)
  · rcases h' with ⟨j', g0, g1, g2, g3, g4⟩ | ⟨g1, g2⟩
    · exact absurd g2 (h1 j' g0 g1)
    · rw [h2, g2]
theorem stF_first (op : Nat → Nat) (pn t : Nat) : ∀ e, e ≤ pn → FirstIs op (pn - e) pn t (stF op pn e t)
  | 0, _ => .inr ⟨fun j h1 h2 => absurd h1 (by omega), rfl⟩
  | e + 1, he => by
    have ih := stF_first op pn t e (by omega)
    unfold stF
    rw [at'_eq]
    by_cases c : t = op (pn - 1 - e)
    · rw [if_pos c]
      exact .inl ⟨pn - 1 - e, by omega, by omega, c.symm, rfl, fun i h1 h2 => absurd h1 (by omega)⟩
    · rw [if_neg c]
      rcases ih with ⟨j, h0, h1, h2, h3, h4⟩ | ⟨h1, h2⟩
      · refine .inl ⟨j, by omega, h1, h2, h3, fun i g1 g2 => ?_⟩
        by_cases e2 : i = pn - 1 - e
        · rw [e2]; exact fun h => c h.symm
        · exact h4 i (by omega) g2
      · refine .inr ⟨fun j g1 g2 => ?_, h2⟩
        by_cases e2 : j = pn - 1 - e
        · rw [e2]; exact fun h => c h.symm
        · exact h1 j (by omega) g2
/-- What the model's loop has reached behind n operations. -/
structure StIv (op : Nat → Nat) (m n : Nat) (fs : Nat → Int) (fh : Nat → Bool) : Prop where
  first : ∀ t, t < m → FirstIs op 0 n t (fs t)
  has : ∀ t, t < m → (fh t = true ↔ ∃ j, j < n ∧ op j = t)
  bnd : ∀ t, t < m → 0 ≤ fs t ∧ fs t ≤ n
theorem StIv.start (op : Nat → Nat) (m : Nat) : StIv op m 0 (fun _ => 0) (fun _ => false) :=
  ⟨fun t _ => .inr ⟨fun j _ h => absurd h (Nat.not_lt_zero _), rfl⟩, fun t _ => ⟨fun h => (by cases h), fun ⟨j, h, _⟩ => absurd h (Nat.not_lt_zero _)⟩, fun t _ => ⟨Int.le_refl 0, Int.le_refl 0⟩⟩
theorem StIv.old {op : Nat → Nat} {m n : Nat} {fs : Nat → Int} {fh : Nat → Bool} (h : StIv op m n fs fh) (hp : op n < m) (hh : fh (op n) = true) : StIv op m (n + 1) fs fh := by
  refine ⟨fun t ht => ?_, fun t ht => ?_, fun t ht => ⟨(h.bnd t ht).1, by have := (h.bnd t ht).2; omega⟩⟩
  · rcases h.first t ht with ⟨j, h0, h1, h2, h3, h4⟩ | ⟨h1, h2⟩
    · exact .inl ⟨j, h0, by omega, h2, h3, h4⟩
    · refine .inr ⟨fun j g1 g2 => ?_, h2⟩
      by_cases e : j = n
      · subst e
        intro e2
        subst e2
        obtain ⟨i, hi, e3⟩ := (h.has _ ht).1 hh
        exact h1 i (Nat.zero_le _) hi e3
      · exact h1 j g1 (by omega)
  · rw [h.has t ht]
    constructor
    · rintro ⟨j, h1, h2⟩; exact ⟨j, by omega, h2⟩
    · rintro ⟨j, h1, h2⟩
      by_cases e : j = n
      · subst e; subst h2; exact (h.has _ ht).1 hh
      · exact ⟨j, by omega, h2⟩
theorem StIv.new {op : Nat → Nat} {m n p : Nat} {fs : Nat → Int} {fh : Nat → Bool} (h : StIv op m n fs fh) (hp : p < m) (e : op n = p) (hh : fh p = false) : StIv op m (n + 1) (fun t => if t = p then (n : Int) else fs t) (fun t => if t = p then true else fh t) := by
  subst e
  have hno : ∀ j, j < n → op j ≠ op n := fun j hj e => by
    have := (h.has _ hp).2 ⟨j, hj, e⟩
    rw [hh] at this
    cases this
  refine ⟨fun t ht => ?_, fun t ht => ?_, fun t ht => ?_⟩
  · by_cases c : t = op n
    · subst c
      simp only [if_true]
      exact .inl ⟨n, Nat.zero_le _, by omega, rfl, rfl, fun i _ hi => hno i hi⟩
    · simp only [c, if_false]
      rcases h.first t ht with ⟨j, h0, h1, h2, h3, h4⟩ | ⟨h1, h2⟩
      · exact .inl ⟨j, h0, by omega, h2, h3, h4⟩
      · refine .inr ⟨fun j g1 g2 => ?_, h2⟩
        by_cases e : j = n
        · subst e; exact fun e2 => c e2.symm
        · exact h1 j g1 (by omega)
  · by_cases c : t = op n
    · subst c
      simp only [if_true, true_iff]
      exact ⟨n, by omega, rfl⟩
    · simp only [c, if_false]
      rw [h.has t ht]
      constructor
      · rintro ⟨j, h1, h2⟩; exact ⟨j, by omega, h2⟩
      · rintro ⟨j, h1, h2⟩
        by_cases e : j = n
        · subst e; exact absurd h2.symm c
        · exact ⟨j, by omega, h2⟩
  · by_cases c : t = op n
    · subst c; simp only [if_true]; exact ⟨by omega, by omega⟩
    · simp only [c, if_false]; exact ⟨(h.bnd t ht).1, by have := (h.bnd t ht).2; omega⟩
theorem StIv.fin {op : Nat → Nat} {m n : Nat} {fs : Nat → Int} {fh : Nat → Bool} (h : StIv op m n fs fh) {t : Nat} (ht : t < m) : fs t = stF op n n t := by
  have h2 := stF_first op n t n (Nat.le_refl _)
  rw [Nat.sub_self] at h2
  exact (h.first t ht).uniq h2

/-! ### Which reads the model refuses -/
section
variable {ops txns : List Int} {ni : Nat} {IR : Nat → List Int} {rt ri rs : List Int} {bs : List Bool}
/-- The number of the transaction whose version read i sees, 0 for the initial one. -/
def srcId (IR : Nat → List Int) (ri rs : List Int) (i : Nat) : Int := if 0 ≤ rs.getD i 0 then (IR (ri.getD i 0).toNat).getD (rs.getD i 0).toNat 0 else 0
theorem map_pos_getD (l : List Int) (k : Nat) (h : k < l.length) : (l.map (posOf txns)).getD k 0 = posOf txns (l.getD k 0) := by
  simp [List.getD, List.getElem?_eq_getElem h]
theorem pos_inj {z z' : Int} (h : Has txns z) (h' : Has txns z') (e : posOf txns z = posOf txns z') : z = z' := by
  have h1 := (posOf_has h).2
  have h2 := (posOf_has h').2
  rw [e] at h1
  rw [← h1, h2]
theorem src_of (h : VDom ops txns ni IR rt ri rs) {i : Nat} (hi : i < rt.length) (h0 : 0 ≤ rs.getD i 0) : (vinOf txns ni IR rt ri rs bs).src i = some (posOf txns ((IR (ri.getD i 0).toNat).getD (rs.getD i 0).toNat 0)) := by
  have hs := h.seen i hi
  show (if 0 ≤ rs.getD i 0 then some (((IR (ri.getD i 0).toNat).map (posOf txns)).getD (rs.getD i 0).toNat 0) else none) = _
  rw [if_pos h0, map_pos_getD _ _ (by omega)]
theorem src_neg {i : Nat} (h0 : ¬ 0 ≤ rs.getD i 0) : (vinOf txns ni IR rt ri rs bs).src i = none := if_neg h0
theorem src_has (h : VDom ops txns ni IR rt ri rs) {i : Nat} (hi : i < rt.length) (h0 : 0 ≤ rs.getD i 0) : Has txns ((IR (ri.getD i 0).toNat).getD (rs.getD i 0).toNat 0) := by
  have hs := h.seen i hi
  have hit := h.item i hi
  exact h.inst _ (by omega) _ (by omega)
theorem has_pos (h : VDom ops txns ni IR rt ri rs) {z : Int} (hz : Has txns z) : 1 ≤ z := by
  obtain ⟨i, h1, h2⟩ := hz
  rw [← h2]
  exact h.pos i h1
theorem src_eq (h : VDom ops txns ni IR rt ri rs) {i : Nat} (hi : i < rt.length) : (vinOf txns ni IR rt ri rs bs).src i = some ((vinOf txns ni IR rt ri rs bs).rt i) ↔ srcId IR ri rs i = rt.getD i 0 := by
  have hr := h.rdr i hi
  unfold srcId
  by_cases h0 : 0 ≤ rs.getD i 0
  · rw [src_of h hi h0, if_pos h0]
    constructor
    · intro e
      exact pos_inj (src_has h hi h0) hr (Option.some.inj e)
    · intro e
      rw [e]
      rfl
  · rw [src_neg h0, if_neg h0]
    have := has_pos h hr
    constructor
    · intro e; cases e
    · intro e; omega
theorem src_zero (h : VDom ops txns ni IR rt ri rs) {i : Nat} (hi : i < rt.length) : srcId IR ri rs i ≠ 0 ↔ 0 ≤ rs.getD i 0 := by
  unfold srcId
  by_cases h0 : 0 ≤ rs.getD i 0
  · rw [if_pos h0]
    have := has_pos h (src_has h hi h0)
    exact ⟨fun _ => h0, fun _ => by omega⟩
  · rw [if_neg h0]
    exact ⟨fun e => absurd rfl e, fun e => absurd e h0⟩
/-- The model's two tests are the refusal. -/
theorem bad_iff (h : VDom ops txns ni IR rt ri rs) {i : Nat} (hi : i < rt.length) {z : Int} (hz : 0 ≤ rs.getD i 0 → NextOk (IR (ri.getD i 0).toNat) (rs.getD i 0).toNat z) :
    (vinOf txns ni IR rt ri rs bs).Bad i ↔ (bs.getD i false ≠ decide (srcId IR ri rs i = rt.getD i 0) ∨ (bs.getD i false = false ∧ 0 ≤ rs.getD i 0 ∧ z ≠ -1)) := by
  unfold VIn.Bad
  have e1 : decide ((vinOf txns ni IR rt ri rs bs).src i = some ((vinOf txns ni IR rt ri rs bs).rt i)) = decide (srcId IR ri rs i = rt.getD i 0) := by
    rw [decide_eq_decide]
    exact src_eq h hi
  rw [e1]
  refine or_congr Iff.rfl (and_congr Iff.rfl ?_)
  have hs := h.seen i hi
  have hit := h.item i hi
  by_cases h0 : 0 ≤ rs.getD i 0
  · have hn := (hz h0).2.2
    obtain ⟨l, hl⟩ : ∃ l, IR (ri.getD i 0).toNat = l := ⟨_, rfl⟩
    obtain ⟨k, hk⟩ : ∃ k, (rs.getD i 0).toNat = k := ⟨_, rfl⟩
    have hin : ∀ j, j < l.length → Has txns (l.getD j 0) := fun j hj => by rw [← hl] at hj ⊢; exact h.inst _ (by omega) j hj
    rw [hl, hk] at hn
    have hkl : k < l.length := by rw [← hl, ← hk]; omega
    rw [src_of h hi h0, hl, hk]
    have e2 : (vinOf txns ni IR rt ri rs bs).row ((vinOf txns ni IR rt ri rs bs).it i) = l.map (posOf txns) := by
      show (IR (ri.getD i 0).toNat).map (posOf txns) = _
      rw [hl]
    have e3 : ((vinOf txns ni IR rt ri rs bs).sn i).toNat = k := hk
    rw [e2, e3]
    have e4 : lastTo (l.map (posOf txns)) (posOf txns (l.getD k 0)) (l.map (posOf txns)).length = some k ↔ z = -1 := by
      rw [lastTo_some, hn, List.length_map]
      constructor
      · rintro ⟨-, -, h3⟩ j h4 h5 h6
        refine h3 j h4 h5 ?_
        rw [map_pos_getD _ _ h5, h6]
      · intro h3
        refine ⟨hkl, map_pos_getD _ _ hkl, fun j h4 h5 h6 => h3 j h4 h5 ?_⟩
        rw [map_pos_getD _ _ h5] at h6
        exact pos_inj (hin j h5) (hin k hkl) h6
    constructor
    · rintro ⟨s, h5, h6⟩
      cases h5
      exact ⟨h0, fun e => h6 (e4.2 e)⟩
    · rintro ⟨-, h6⟩
      exact ⟨_, rfl, fun e => h6 (e4.1 e)⟩
  · rw [src_neg h0]
    constructor
    · rintro ⟨s, h5, -⟩; cases h5
    · rintro ⟨h5, -⟩; exact absurd h5 h0
end

/-! ### The items' memory: final, wr, ws, stampW -/
def cC (B m ni : Nat) : GmC where
  B := B
  nb := 4
  ty := fun i => if i = 1 then 24 else if i = 2 then 24 else 3
  ln := fun i => if i = 0 then ni else if i = 1 then m else if i = 2 then ni else m
  N := m + ni
  eT := fun _ => 3
  cl := fun _ y => .int .i64 (y : Int)
  ix := fun i t => if i = 1 then some t else if i = 2 then some (m + t) else none
theorem cC_ok (B m ni : Nat) : (cC B m ni).Ok := by
  refine ⟨fun i t j hi ht hx => ?_, fun i t i' t' j hi ht hi' ht' hx hx' => ?_⟩
  · simp only [cC] at *
    by_cases e1 : i = 1
    · subst e1; simp at hx ht; omega
    · by_cases e2 : i = 2
      · subst e2; simp at hx ht; omega
      · simp [e1, e2] at hx
  · simp only [cC] at *
    by_cases e1 : i = 1
    · subst e1
      simp at hx ht
      by_cases e1' : i' = 1
      · subst e1'; simp at hx' ht'; exact ⟨rfl, by omega⟩
      · by_cases e2' : i' = 2
        · subst e2'; simp at hx' ht'; omega
        · simp [e1', e2'] at hx'
    · by_cases e2 : i = 2
      · subst e2
        simp at hx ht
        by_cases e1' : i' = 1
        · subst e1'; simp at hx' ht'; omega
        · by_cases e2' : i' = 2
          · subst e2'; simp at hx' ht'; exact ⟨rfl, by omega⟩
          · simp [e1', e2'] at hx'
      · simp [e1, e2] at hx
structure Cc (V : VIn) (x s fx : Nat) (L : Nat → List Nat) (ct : Nat → Nat → Value) : Prop where
  lw : ∀ t, t < V.m → L t = V.wTo t x s
  lx : ∀ y, y < V.ni → L (V.m + y) = V.xTo y x s
  c0 : ∀ y, y < fx → y < V.ni → ct 0 y = .int .i64 (V.final y)
  st : ∃ f : Nat → Int, ∀ t, t < V.m → ct 3 t = .int .i64 (f t) ∧ 0 ≤ f t ∧ f t ≤ (x : Int) + 1 ∧ (f t = (x : Int) + 1 ↔ lastTo (V.row x) t s ≠ none)
section
variable {V : VIn} {x s fx : Nat} {L : Nat → List Nat} {ct : Nat → Nat → Value}
theorem Cc.start (h : ∀ t, t < V.m → ct 3 t = .int .i64 0) : Cc V 0 0 0 (fun _ => []) ct := by
  refine ⟨fun t _ => ?_, fun y _ => ?_, fun y hy => absurd hy (Nat.not_lt_zero _), fun _ => 0, fun t ht => ⟨h t ht, Int.le_refl 0, by show (0 : Int) ≤ ((0 : Nat) : Int) + 1; omega, fun e => absurd (show (0 : Int) = ((0 : Nat) : Int) + 1 from e) (by omega), fun e => absurd rfl e⟩⟩
  · show [] = V.writes t 0 ++ (if lastTo (V.row 0) t 0 = none then [] else [0])
    rfl
  · show [] = V.xTo y 0 0
    unfold VIn.xTo
    by_cases c : y = 0
    · subst c; rfl
    · rw [if_neg (by omega), if_neg c]
theorem Cc.setF (h : Cc V x s fx L ct) {k : Nat} (hk : fx ≤ k) (u : Value) : Cc V x s fx L (at' ct 0 (at' (ct 0) k u)) := by
  refine ⟨h.lw, h.lx, fun y hy hn => ?_, ?_⟩
  · rw [at'_same, at'_other _ _ (by omega)]; exact h.c0 y hy hn
  · rw [at'_other _ _ (by omega)]; exact h.st
theorem Cc.fin (h : Cc V x s fx L ct) (hf : ct 0 fx = .int .i64 (V.final fx)) : Cc V x s (fx + 1) L ct := by
  refine ⟨h.lw, h.lx, fun y hy hn => ?_, h.st⟩
  by_cases e : y = fx
  · rw [e]; exact hf
  · exact h.c0 y (by omega) hn
theorem Cc.old (h : Cc V x s fx L ct) {T : Nat} (hs : s < (V.row x).length) (hT : (V.row x).getD s 0 = T) (ho : lastTo (V.row x) T s ≠ none) : Cc V x (s + 1) fx L ct := by
  refine ⟨fun t ht => ?_, fun y hy => ?_, h.c0, ?_⟩
  · rw [h.lw t ht, wTo_next hT]
    by_cases e : t = T
    · subst e
      unfold VIn.wTo
      rw [if_neg ho, if_pos rfl]
    · rw [if_neg e]
  · rw [h.lx y hy, xTo_next hs hT, if_neg ho]
    simp
  · obtain ⟨f, hf⟩ := h.st
    refine ⟨f, fun t ht => ?_⟩
    obtain ⟨h1, h2, h3, h4⟩ := hf t ht
    refine ⟨h1, h2, h3, ?_⟩
    rw [h4, lastTo_succ, hT]
    by_cases e : T = t
    · subst e; rw [if_pos rfl]; exact ⟨fun _ h => (by cases h), fun _ => ho⟩
    · rw [if_neg e]
theorem Cc.new (h : Cc V x s fx L ct) {T : Nat} (hx : x < V.ni) (hTm : T < V.m) (hs : s < (V.row x).length) (hT : (V.row x).getD s 0 = T) (ho : lastTo (V.row x) T s = none) (u1 u2 : Value) :
    Cc V x (s + 1) fx (at' (at' L (V.m + x) (L (V.m + x) ++ [T])) T (at' L (V.m + x) (L (V.m + x) ++ [T]) T ++ [x])) (at' (at' (at' ct 3 (at' (ct 3) T (.int .i64 ((x : Int) + 1)))) 2 (at' (at' ct 3 (at' (ct 3) T (.int .i64 ((x : Int) + 1))) 2) x u1)) 1 (at' (at' (at' ct 3 (at' (ct 3) T (.int .i64 ((x : Int) + 1)))) 2 (at' (at' ct 3 (at' (ct 3) T (.int .i64 ((x : Int) + 1))) 2) x u1) 1) T u2)) := by
  refine ⟨fun t ht => ?_, fun y hy => ?_, fun y hy hn => ?_, ?_⟩
  · rw [at'_eq, wTo_next hT]
    by_cases e : t = T
    · subst e
      rw [if_pos rfl, if_pos rfl, at'_other _ _ (by omega), h.lw t ht]
      unfold VIn.wTo
      rw [if_pos ho, List.append_nil]
    · rw [if_neg e, if_neg e, at'_other _ _ (by omega), h.lw t ht]
  · rw [at'_other _ _ (by omega), at'_eq, xTo_next hs hT, if_pos ho]
    by_cases e : y = x
    · subst e
      rw [if_pos rfl, if_pos rfl, h.lx y hy]
    · rw [if_neg (by omega), if_neg e, h.lx y hy]
  · rw [at'_other _ _ (by omega), at'_other _ _ (by omega), at'_other _ _ (by omega)]; exact h.c0 y hy hn
  · obtain ⟨f, hf⟩ := h.st
    refine ⟨fun t => if t = T then (x : Int) + 1 else f t, fun t ht => ?_⟩
    obtain ⟨h1, h2, h3, h4⟩ := hf t ht
    rw [at'_other _ _ (by omega), at'_other _ _ (by omega), at'_same, at'_eq, lastTo_succ, hT]
    by_cases e : t = T
    · subst e
      simp only [if_true]
      exact ⟨trivial, by omega, by omega, fun _ h => (by cases h), fun _ => trivial⟩
    · simp only [e, if_false, Ne.symm e]
      exact ⟨h1, h2, h3, h4⟩
theorem Cc.item (h : Cc V x (V.row x).length fx L ct) : Cc V (x + 1) 0 fx L ct := by
  refine ⟨fun t ht => ?_, fun y hy => ?_, h.c0, ?_⟩
  · rw [h.lw t ht]
    unfold VIn.wTo
    rw [V.writes_succ]
    have : lastTo (V.row (x + 1)) t 0 = none := rfl
    rw [if_pos this, List.append_nil]
    by_cases c : t ∈ V.row x
    · rw [if_pos c, if_neg (mem_row.1 c)]
    · rw [if_neg c, if_pos]
      exact Classical.byContradiction (fun e => c (mem_row.2 e))
  · rw [h.lx y hy]
    unfold VIn.xTo
    by_cases c : y < x
    · rw [if_pos c, if_pos (by omega)]
    · rw [if_neg c]
      by_cases e : y = x
      · subst e
        rw [if_pos rfl, if_pos (by omega), List.take_length]
        rfl
      · rw [if_neg e, if_neg (by omega)]
        by_cases e2 : y = x + 1
        · rw [if_pos e2]; rfl
        · rw [if_neg e2]
  · obtain ⟨f, hf⟩ := h.st
    refine ⟨f, fun t ht => ?_⟩
    obtain ⟨h1, h2, h3, -⟩ := hf t ht
    exact ⟨h1, h2, by omega, fun e => absurd e (by omega), fun e => absurd rfl e⟩
/-- At the end of the items. -/
theorem Cc.ends (h : Cc V V.ni 0 V.ni L ct) : (∀ t, t < V.m → L t = V.writes t V.ni) ∧ (∀ y, y < V.ni → L (V.m + y) = V.writers y) := by
  refine ⟨fun t ht => ?_, fun y hy => ?_⟩
  · rw [h.lw t ht]
    unfold VIn.wTo
    have e0 : lastTo (V.row V.ni) t 0 = none := rfl
    rw [if_pos e0, List.append_nil]
  · rw [h.lx y hy]
    unfold VIn.xTo
    rw [if_pos hy]
end
end Go.Proofs.Qxb6603374a
