/- The reads' memory of FnViewSearchMatchesModel: eight rows of rows, pending, armed. -/
import Derived.Test.Qxb6603374aM6
import Derived.Test.Qxb6603374aEqBools
namespace Go.Proofs.Qxb6603374a
open Go.ChangeShapes Go.WideShapes Go.ChangeAt Go.RowKit

def cellF (V : VIn) : Nat → Nat → Value
  | 0, i => .int .i64 (V.rt i : Int)
  | 1, i => .int .i64 (V.it i : Int)
  | 2, i => .int .i64 (V.srcZ i)
  | _, i => .bool (V.wr i)
def cD (V : VIn) (B m ni : Nat) : GmC where
  B := B
  nb := 10
  ty := fun i => if i < 8 then (if i % 4 = 3 then 28 else 24) else 3
  ln := fun i => if i = 9 then ni else m
  N := 8 * m
  eT := fun j => if (j / m) % 4 = 3 then 4 else 3
  cl := fun j => cellF V ((j / m) % 4)
  ix := fun i t => if i < 8 then some (i * m + t) else none
theorem div_row {f m t : Nat} (ht : t < m) : (f * m + t) / m = f := by
  rw [Nat.mul_comm, Nat.mul_add_div (by omega), Nat.div_eq_of_lt ht, Nat.add_zero]
theorem row_inj {m f f' t t' : Nat} (ht : t < m) (ht' : t' < m) (e : f * m + t = f' * m + t') : f = f' ∧ t = t' := by
  have h1 := div_row (f := f) ht
  have h2 := div_row (f := f') ht'
  rw [e, h2] at h1
  subst h1
  exact ⟨rfl, by omega⟩
theorem row_lt {m f t n : Nat} (hf : f < n) (ht : t < m) : f * m + t < n * m := by
  have : (f + 1) * m ≤ n * m := Nat.mul_le_mul_right m hf
  rw [Nat.add_mul, Nat.one_mul] at this
  omega
theorem cD_ok (V : VIn) (B m ni : Nat) : (cD V B m ni).Ok := by
  refine ⟨fun i t j hi ht hx => ?_, fun i t i' t' j hi ht hi' ht' hx hx' => ?_⟩
  · simp only [cD] at *
    by_cases e1 : i < 8
    · rw [if_pos e1] at hx
      rw [if_neg (by omega)] at ht
      cases hx
      exact row_lt e1 ht
    · rw [if_neg e1] at hx; cases hx
  · simp only [cD] at *
    by_cases e1 : i < 8
    · by_cases e1' : i' < 8
      · rw [if_pos e1] at hx
        rw [if_pos e1'] at hx'
        rw [if_neg (by omega)] at ht ht'
        cases hx
        exact row_inj ht ht' (Option.some.inj hx').symm
      · rw [if_neg e1'] at hx'; cases hx'
    · rw [if_neg e1] at hx; cases hx
structure Dd (V : VIn) (j e pe ae : Nat) (L : Nat → List Nat) (ct : Nat → Nat → Value) : Prop where
  lr : ∀ f t, f < 4 → t < V.m → L (f * V.m + t) = V.reads t (if f < e then j + 1 else j)
  ls : ∀ f t, f < 4 → t < V.m → L ((4 + f) * V.m + t) = V.seenBy t (if 4 + f < e then j + 1 else j)
  c8 : ∀ t, t < V.m → ct 8 t = .int .i64 (V.pending t (j + pe) : Int)
  c9 : ∀ y, y < V.ni → ct 9 y = .int .i64 (V.armed y (j + ae) : Int)
section
variable {V : VIn} {j e pe ae : Nat} {L : Nat → List Nat} {ct : Nat → Nat → Value}
theorem Dd.start (h8 : ∀ t, t < V.m → ct 8 t = .int .i64 0) (h9 : ∀ t, t < V.ni → ct 9 t = .int .i64 0) : Dd V 0 0 0 0 (fun _ => []) ct :=
  ⟨fun f t _ _ => rfl, fun f t _ _ => by rw [if_neg (by omega)]; rfl, fun t ht => by rw [h8 t ht]; rfl, fun t ht => by rw [h9 t ht]; rfl⟩
theorem Dd.own (h : Dd V j 0 0 0 L ct) (ho : V.own j = true) : Dd V (j + 1) 0 0 0 L ct := by
  have no : ¬ V.own j = false := by rw [ho]; simp
  refine ⟨fun f t hf ht => ?_, fun f t hf ht => ?_, fun t ht => ?_, fun t ht => ?_⟩
  · rw [h.lr f t hf ht, if_neg (by omega), if_neg (by omega), V.reads_succ, if_neg (fun c => no c.1), List.append_nil]
  · rw [h.ls f t hf ht, if_neg (by omega), if_neg (by omega), V.seenBy_succ, if_neg (fun c => no c.1), List.append_nil]
  · rw [h.c8 t ht, Nat.add_zero, Nat.add_zero, V.pending_succ, if_neg (fun c => no c.1), Nat.add_zero]
  · rw [h.c9 t ht, Nat.add_zero, Nat.add_zero, V.armed_succ, if_neg (fun c => no c.1), Nat.add_zero]
theorem Dd.rd (h : Dd V j e 0 0 L ct) (ho : V.own j = false) (he : e < 4) {t0 : Nat} (ht0 : t0 < V.m) (hr : V.rt j = t0) (g : Nat → Value) : Dd V j (e + 1) 0 0 (at' L (e * V.m + t0) (L (e * V.m + t0) ++ [j])) (at' ct e g) := by
  refine ⟨fun f t hf ht => ?_, fun f t hf ht => ?_, fun t ht => ?_, fun t ht => ?_⟩
  · rw [at'_eq]
    by_cases c : f * V.m + t = e * V.m + t0
    · obtain ⟨c1, c2⟩ := row_inj ht ht0 c
      subst c1; subst c2
      rw [if_pos rfl, h.lr f t hf ht, if_neg (by omega), if_pos (by omega), V.reads_succ, if_pos ⟨ho, hr⟩]
    · rw [if_neg c, h.lr f t hf ht]
      by_cases c1 : f = e
      · subst c1
        rw [if_neg (by omega), if_pos (by omega), V.reads_succ, if_neg (fun c2 => c (by rw [← hr, c2.2])), List.append_nil]
      · by_cases c2 : f < e
        · rw [if_pos c2, if_pos (by omega)]
        · rw [if_neg c2, if_neg (by omega)]
  · rw [at'_other _ _ (fun c => by have := (row_inj ht ht0 c).1; omega), h.ls f t hf ht, if_neg (by omega), if_neg (by omega)]
  · rw [at'_other _ _ (by omega)]; exact h.c8 t ht
  · rw [at'_other _ _ (by omega)]; exact h.c9 t ht
theorem Dd.init (h : Dd V j 4 0 0 L ct) (ho : V.own j = false) (hs : V.src j = none) {x : Nat} (hx : V.it j = x) {A : Nat} (hA : V.armed x j = A) : Dd V (j + 1) 0 0 0 L (at' ct 9 (at' (ct 9) x (.int .i64 ((A : Int) + 1)))) := by
  refine ⟨fun f t hf ht => ?_, fun f t hf ht => ?_, fun t ht => ?_, fun t ht => ?_⟩
  · rw [h.lr f t hf ht, if_pos (by omega), if_neg (by omega)]
  · rw [h.ls f t hf ht, if_neg (by omega), if_neg (by omega), V.seenBy_succ, if_neg (fun c => by rw [hs] at c; cases c.2), List.append_nil]
  · rw [at'_other _ _ (by omega), h.c8 t ht, Nat.add_zero, Nat.add_zero, V.pending_succ, if_neg (fun c => by rw [hs] at c; cases c.2.2), Nat.add_zero]
  · rw [at'_same, at'_eq, Nat.add_zero, V.armed_succ]
    by_cases c : t = x
    · subst c
      rw [if_pos rfl, if_pos ⟨ho, hx, by rw [hs]; rfl⟩, hA]
      rfl
    · rw [if_neg c, if_neg (fun c2 => c (by rw [← hx, c2.2.1])), h.c9 t ht, Nat.add_zero, Nat.add_zero]
theorem Dd.pend (h : Dd V j 4 0 0 L ct) (ho : V.own j = false) {s t0 : Nat} (hs : V.src j = some s) (hr : V.rt j = t0) {P : Nat} (hP : V.pending t0 j = P) : Dd V j 4 1 0 L (at' ct 8 (at' (ct 8) t0 (.int .i64 ((P : Int) + 1)))) := by
  refine ⟨h.lr, h.ls, fun t ht => ?_, fun t ht => ?_⟩
  · rw [at'_same, at'_eq, V.pending_succ]
    by_cases c : t = t0
    · subst c
      rw [if_pos rfl, if_pos ⟨ho, hr, by rw [hs]; rfl⟩, hP]
      rfl
    · rw [if_neg c, if_neg (fun c2 => c (by rw [← hr, c2.2.1])), h.c8 t ht, Nat.add_zero, Nat.add_zero]
  · rw [at'_other _ _ (by omega)]; exact h.c9 t ht
theorem Dd.sn (h : Dd V j (4 + e) 1 0 L ct) (ho : V.own j = false) (he : e < 4) {s : Nat} (hsm : s < V.m) (hs : V.src j = some s) (g : Nat → Value) : Dd V j (4 + (e + 1)) 1 0 (at' L ((4 + e) * V.m + s) (L ((4 + e) * V.m + s) ++ [j])) (at' ct (4 + e) g) := by
  refine ⟨fun f t hf ht => ?_, fun f t hf ht => ?_, fun t ht => ?_, fun t ht => ?_⟩
  · rw [at'_other _ _ (fun c => by have := (row_inj ht hsm c).1; omega), h.lr f t hf ht, if_pos (by omega), if_pos (by omega)]
  · rw [at'_eq]
    by_cases c : (4 + f) * V.m + t = (4 + e) * V.m + s
    · obtain ⟨c1, c2⟩ := row_inj ht hsm c
      have c1 : f = e := by omega
      subst c1; subst c2
      rw [if_pos rfl, h.ls f t hf ht, if_neg (by omega), if_pos (by omega), V.seenBy_succ, if_pos ⟨ho, hs⟩]
    · rw [if_neg c, h.ls f t hf ht]
      by_cases c1 : f = e
      · subst c1
        rw [if_neg (by omega), if_pos (by omega), V.seenBy_succ, if_neg (fun c2 => c (by rw [hs] at c2; have := Option.some.inj c2.2; rw [this])), List.append_nil]
      · by_cases c2 : f < e
        · rw [if_pos (by omega), if_pos (by omega)]
        · rw [if_neg (by omega), if_neg (by omega)]
  · rw [at'_other _ _ (by omega)]; exact h.c8 t ht
  · rw [at'_other _ _ (by omega)]; exact h.c9 t ht
theorem Dd.fin (h : Dd V j 8 1 0 L ct) {s : Nat} (hs : V.src j = some s) : Dd V (j + 1) 0 0 0 L ct := by
  refine ⟨fun f t hf ht => ?_, fun f t hf ht => ?_, fun t ht => ?_, fun t ht => ?_⟩
  · rw [h.lr f t hf ht, if_pos (by omega), if_neg (by omega)]
  · rw [h.ls f t hf ht, if_pos (by omega), if_neg (by omega)]
  · rw [h.c8 t ht, Nat.add_zero]
  · rw [h.c9 t ht, Nat.add_zero, Nat.add_zero, V.armed_succ, if_neg (fun c => by rw [hs] at c; cases c.2.2), Nat.add_zero]
end

/-! ### The rows read off the memory -/
theorem own_map {w : World} {base : Nat} {u : Value} {l : List Nat} {g : Nat → Int} (h : w.ownsRow base 3 1 u l.length (l.map (fun y => .int .i64 (g y)))) (hb : ∀ y ∈ l, I64 (g y)) : u = .slice (addrOf u) (l.map g).length (capOf u) ∧ Row w (addrOf u) (l.map g) := by
  refine ⟨by rw [List.length_map]; exact own_form h, fun k hk => ?_⟩
  rw [List.length_map] at hk
  obtain ⟨q, ha, hc⟩ := own_cell h (by omega)
  have e : (l.map g).getD k 0 = g (l.getD k 0) := by simp [List.getD, List.getElem?_eq_getElem hk]
  rw [e]
  refine ⟨q, 0, ha, ?_, hb _ (by simp [List.getD, List.getElem?_eq_getElem hk])⟩
  rw [Nat.zero_add]
  refine hc k _ ?_
  simp [List.getD, List.getElem?_eq_getElem hk]
theorem own_mapB {w : World} {base : Nat} {u : Value} {l : List Nat} {g : Nat → Bool} (h : w.ownsRow base 4 1 u l.length (l.map (fun y => .bool (g y)))) : u = .slice (addrOf u) (l.map g).length (capOf u) ∧ BRow w (addrOf u) (l.map g) := by
  refine ⟨by rw [List.length_map]; exact own_form h, fun k hk => ?_⟩
  rw [List.length_map] at hk
  obtain ⟨q, ha, hc⟩ := own_cell h (by omega)
  have e : (l.map g).getD k false = g (l.getD k 0) := by simp [List.getD, List.getElem?_eq_getElem hk]
  rw [e]
  refine ⟨q, 0, ha, ?_⟩
  rw [Nat.zero_add]
  refine hc k _ ?_
  simp [List.getD, List.getElem?_eq_getElem hk]
/-- A block of heads and its rows of numbers. -/
theorem Gm.rows {C : GmC} {w0 w : World} {ct : Nat → Nat → Value} {v : Nat → Value} {L : Nat → List Nat} (hC : C.Ok) (h : Gm C w0 ct v L w) {i n : Nat} (hi : i < C.nb) (hn : C.ln i = n) (J : Nat → Nat) (hJ : ∀ t, t < n → C.ix i t = some (J t)) (he : ∀ t, t < n → C.eT (J t) = 3) (g : Nat → Int) (hg : ∀ t, t < n → C.cl (J t) = fun y => .int .i64 (g y)) (M : Nat → List Nat) (hM : ∀ t, t < n → L (J t) = M t) (hb : ∀ t, t < n → ∀ y ∈ M t, I64 (g y)) (hl : ∀ t, t < n → (M t).length ≤ 1048576) :
    RowsAt w (some ⟨C.B + i, 0, none⟩) n (fun t => addrOf (v (J t))) (fun t => capOf (v (J t))) (fun t => (M t).map g) := fun t ht => by
  subst hn
  have ho := h.fam.own (J t) (hC.lt i t _ hi ht (hJ t ht))
  simp only [he t ht, hg t ht, hM t ht] at ho
  obtain ⟨h1, h2⟩ := own_map ho (hb t ht)
  refine ⟨C.B + i, 0, rfl, ?_, h2, by rw [List.length_map]; have := hl t ht; omega⟩
  rw [Nat.zero_add, (h.fix i hi).cell ht, h.hl i t _ hi ht (hJ t ht)]
  exact congrArg some h1
theorem Gm.rowsB {C : GmC} {w0 w : World} {ct : Nat → Nat → Value} {v : Nat → Value} {L : Nat → List Nat} (hC : C.Ok) (h : Gm C w0 ct v L w) {i n : Nat} (hi : i < C.nb) (hn : C.ln i = n) (J : Nat → Nat) (hJ : ∀ t, t < n → C.ix i t = some (J t)) (he : ∀ t, t < n → C.eT (J t) = 4) (g : Nat → Bool) (hg : ∀ t, t < n → C.cl (J t) = fun y => .bool (g y)) (M : Nat → List Nat) (hM : ∀ t, t < n → L (J t) = M t) (hl : ∀ t, t < n → (M t).length ≤ 1048576) :
    BRowsAt w (some ⟨C.B + i, 0, none⟩) n (fun t => addrOf (v (J t))) (fun t => capOf (v (J t))) (fun t => (M t).map g) := fun t ht => by
  subst hn
  have ho := h.fam.own (J t) (hC.lt i t _ hi ht (hJ t ht))
  simp only [he t ht, hg t ht, hM t ht] at ho
  obtain ⟨h1, h2⟩ := own_mapB ho
  refine ⟨C.B + i, 0, rfl, ?_, h2, by rw [List.length_map]; have := hl t ht; omega⟩
  rw [Nat.zero_add, (h.fix i hi).cell ht, h.hl i t _ hi ht (hJ t ht)]
  exact congrArg some h1
end Go.Proofs.Qxb6603374a
