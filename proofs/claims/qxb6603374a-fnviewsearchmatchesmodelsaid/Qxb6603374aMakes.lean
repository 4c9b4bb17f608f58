/- Many makes in one region that draws its order: whatever the order, each slice lies in a new block of its own. -/
import Derived.Orders
import Derived.OrdersHeld
import Derived.Below
import Derived.Laws.AppendOwn
import Derived.WalkKit
namespace Go.Proofs.Qxb6603374a
open Go.RowKit

/-- One make of the region: its number, its slot, its length, the block that it lays. -/
structure Mk where
  i : Nat
  s : Nat
  n : Nat
  o : Obj
/-- The slice over block b. -/
def Mk.val (m : Mk) (b : Nat) : Value := .slice (some ⟨b, 0, none⟩) m.n m.n
/-- The frame: the makes that are done (f tells the block of each) in their slots. -/
def putMk (f : Nat → Option Nat) : List Mk → Act → Act
  | [], a => a
  | m :: r, a => putMk f r (match f m.i with | some b => a.put (some m.s) (m.val b) | none => a)
/-- The marks. -/
def lstMk (f : Nat → Option Nat) : List Mk → Array Bool → Array Bool
  | [], l => l
  | m :: r, l => lstMk f r (match f m.i with | some _ => l.setIfInBounds m.i true | none => l)
def updMk (f : Nat → Option Nat) (i b : Nat) : Nat → Option Nat := fun j => if j = i then some b else f j

theorem putMk_put {f : Nat → Option Nat} {s : Nat} {v : Value} : ∀ (r : List Mk) (a : Act), (∀ m ∈ r, m.s ≠ s) → putMk f r (a.put (some s) v) = (putMk f r a).put (some s) v
  | [], _, _ => rfl
  | m :: r, a, h => by
    have h1 : m.s ≠ s := h m (by simp)
    unfold putMk
    cases hf : f m.i with
    | none => exact putMk_put r a (fun m' hm => h m' (by simp [hm]))
    | some b =>
      simp only
      rw [Act.put_comm a v (m.val b) (fun d hd hd2 => h1 (by cases hd; cases hd2; rfl))]
      exact putMk_put r _ (fun m' hm => h m' (by simp [hm]))
theorem putMk_congr {f g : Nat → Option Nat} : ∀ (r : List Mk) (a : Act), (∀ m ∈ r, f m.i = g m.i) → putMk f r a = putMk g r a
  | [], _, _ => rfl
  | m :: r, a, h => by
    unfold putMk
    rw [h m (by simp)]
    exact putMk_congr r _ (fun m' hm => h m' (by simp [hm]))
theorem putMk_add {f : Nat → Option Nat} {b : Nat} {m : Mk} : ∀ (Ms : List Mk) (a : Act), m ∈ Ms → (Ms.map (·.i)).Nodup → (Ms.map (·.s)).Nodup → f m.i = none → putMk (updMk f m.i b) Ms a = (putMk f Ms a).put (some m.s) (m.val b)
  | [], _, h, _, _, _ => by simp at h
  | h :: r, a, hm, hi, hs, hf => by
    simp only [List.map_cons, List.nodup_cons] at hi hs
    by_cases e : h = m
    · subst e
      have e1 : updMk f h.i b h.i = some b := by simp [updMk]
      have e2 : ∀ m' ∈ r, updMk f h.i b m'.i = f m'.i := fun m' hm' => by
        have : m'.i ≠ h.i := fun e => hi.1 (by rw [← e]; exact List.mem_map_of_mem hm')
        simp [updMk, this]
      unfold putMk
      rw [e1, hf]
      simp only
      rw [putMk_congr r _ e2]
      exact putMk_put r a (fun m' hm' e => hs.1 (by rw [← e]; exact List.mem_map_of_mem hm'))
    · have hm' : m ∈ r := by
        rcases List.mem_cons.1 hm with h1 | h1
        · exact absurd h1.symm e
        · exact h1
      have hne : h.i ≠ m.i := fun e2 => hi.1 (by rw [e2]; exact List.mem_map_of_mem hm')
      have e1 : updMk f m.i b h.i = f h.i := by simp [updMk, hne]
      unfold putMk
      rw [e1]
      exact putMk_add r _ hm' hi.2 hs.2 hf
theorem lstMk_set {f : Nat → Option Nat} {i : Nat} : ∀ (r : List Mk) (l : Array Bool), lstMk f r (l.setIfInBounds i true) = (lstMk f r l).setIfInBounds i true
  | [], _ => rfl
  | m :: r, l => by
    unfold lstMk
    cases hf : f m.i with
    | none => exact lstMk_set r l
    | some b =>
      simp only
      by_cases e : m.i = i
      · subst e
        have h1 : (l.setIfInBounds m.i true).setIfInBounds m.i true = l.setIfInBounds m.i true := by simp
        rw [h1, lstMk_set r l]
        simp
      · rw [Array.setIfInBounds_comm _ _ (Ne.symm e)]
        exact lstMk_set r _
theorem lstMk_congr {f g : Nat → Option Nat} : ∀ (r : List Mk) (l : Array Bool), (∀ m ∈ r, f m.i = g m.i) → lstMk f r l = lstMk g r l
  | [], _, _ => rfl
  | m :: r, l, h => by
    unfold lstMk
    rw [h m (by simp)]
    exact lstMk_congr r _ (fun m' hm => h m' (by simp [hm]))
theorem lstMk_add {f : Nat → Option Nat} {b : Nat} {m : Mk} : ∀ (Ms : List Mk) (l : Array Bool), m ∈ Ms → (Ms.map (·.i)).Nodup → f m.i = none → lstMk (updMk f m.i b) Ms l = (lstMk f Ms l).setIfInBounds m.i true
  | [], _, h, _, _ => by simp at h
  | h :: r, l, hm, hi, hf => by
    simp only [List.map_cons, List.nodup_cons] at hi
    by_cases e : h = m
    · subst e
      have e1 : updMk f h.i b h.i = some b := by simp [updMk]
      have e2 : ∀ m' ∈ r, updMk f h.i b m'.i = f m'.i := fun m' hm' => by
        have : m'.i ≠ h.i := fun e => hi.1 (by rw [← e]; exact List.mem_map_of_mem hm')
        simp [updMk, this]
      unfold lstMk
      rw [e1, hf]
      simp only
      rw [lstMk_congr r _ e2]
      exact lstMk_set r l
    · have hm' : m ∈ r := by
        rcases List.mem_cons.1 hm with h1 | h1
        · exact absurd h1.symm e
        · exact h1
      have hne : h.i ≠ m.i := fun e2 => hi.1 (by rw [e2]; exact List.mem_map_of_mem hm')
      have e1 : updMk f m.i b h.i = f h.i := by simp [updMk, hne]
      unfold lstMk
      rw [e1]
      exact lstMk_add r _ hm' hi.2 hf
/-- A mark that no make of the list sets. -/
theorem lstMk_other {f : Nat → Option Nat} {j : Nat} {d : Bool} : ∀ (r : List Mk) (l : Array Bool), (∀ m ∈ r, m.i = j → f m.i = none) → (lstMk f r l).getD j d = l.getD j d
  | [], _, _ => rfl
  | m :: r, l, h => by
    unfold lstMk
    rw [lstMk_other r _ (fun m' hm => h m' (by simp [hm]))]
    cases hf : f m.i with
    | none => rfl
    | some b =>
      simp only
      exact getD_set_ne d (fun e => by have := h m (by simp) e; rw [hf] at this; cases this)
theorem lstMk_old {f : Nat → Option Nat} {j : Nat} : ∀ (r : List Mk) (l : Array Bool), l.getD j false = true → (lstMk f r l).getD j false = true
  | [], _, h => h
  | m :: r, l, h => by
    unfold lstMk
    refine lstMk_old r _ ?_
    cases hf : f m.i with
    | none => exact h
    | some b => exact getD_set_true h

/-- What is known of the world while the makes come up. -/
structure MkInv (Ms : List Mk) (w0 : World) (f : Nat → Option Nat) (w : World) : Prop where
  row : ∀ m ∈ Ms, ∀ b, f m.i = some b → w0.heap.size ≤ b ∧ w.heap[b]? = some m.o
  inj : ∀ m ∈ Ms, ∀ m' ∈ Ms, ∀ b, f m.i = some b → f m'.i = some b → m.i = m'.i
  bel : Below w0.heap.size w0 w
theorem MkInv.start (Ms : List Mk) (w0 : World) : MkInv Ms w0 (fun _ => none) w0 := ⟨fun _ _ _ h => (by cases h), fun _ _ _ _ _ h => (by cases h), Below.refl _ _⟩
theorem MkInv.next {Ms : List Mk} {w0 w : World} {f : Nat → Option Nat} {m : Mk} (h : MkInv Ms w0 f w) (hm : m ∈ Ms) (hn : (Ms.map (·.i)).Nodup) : MkInv Ms w0 (updMk f m.i w.heap.size) (w.alloc m.o) := by
  have hlt : ∀ m' ∈ Ms, ∀ b, f m'.i = some b → b < w.heap.size := fun m' hm' b hb => (Array.getElem?_eq_some_iff.1 (h.row m' hm' b hb).2).1
  have same : ∀ m' ∈ Ms, m'.i = m.i → m' = m := fun m' hm' e => by
    clear hlt h
    induction Ms with
    | nil => simp at hm
    | cons a r ih =>
      simp only [List.map_cons, List.nodup_cons] at hn
      rcases List.mem_cons.1 hm with h1 | h1 <;> rcases List.mem_cons.1 hm' with h2 | h2
      · rw [h1, h2]
      · subst h1; exact absurd (by rw [← e]; exact List.mem_map_of_mem h2) hn.1
      · subst h2; exact absurd (by rw [e]; exact List.mem_map_of_mem h1) hn.1
      · exact ih h1 hn.2 h2
  refine ⟨fun m' hm' b hb => ?_, fun m1 h1 m2 h2 b hb1 hb2 => ?_, h.bel.alloc h.bel.size _⟩
  · unfold updMk at hb
    by_cases e : m'.i = m.i
    · rw [if_pos e] at hb
      cases hb
      have := same m' hm' e
      subst this
      exact ⟨h.bel.size, heap_alloc_new _ _⟩
    · rw [if_neg e] at hb
      obtain ⟨h3, h4⟩ := h.row m' hm' b hb
      exact ⟨h3, by rw [Below.heap_alloc _ _ _ (hlt m' hm' b hb)]; exact h4⟩
  · unfold updMk at hb1 hb2
    by_cases e1 : m1.i = m.i <;> by_cases e2 : m2.i = m.i
    · rw [e1, e2]
    · rw [if_pos e1] at hb1
      rw [if_neg e2] at hb2
      cases hb1
      have := hlt m2 h2 _ hb2
      omega
    · rw [if_neg e1] at hb1
      rw [if_pos e2] at hb2
      cases hb2
      have := hlt m1 h1 _ hb1
      omega
    · rw [if_neg e1] at hb1
      rw [if_neg e2] at hb2
      exact h.inj m1 h1 m2 h2 b hb1 hb2

/-- How many makes are still to come. -/
def leftMk (f : Nat → Option Nat) : List Mk → Nat
  | [] => 0
  | m :: r => (if (f m.i).isSome then 0 else 1) + leftMk f r
theorem leftMk_zero {f : Nat → Option Nat} : ∀ {r : List Mk}, leftMk f r = 0 → ∀ m ∈ r, ∃ b, f m.i = some b
  | [], _, m, hm => by simp at hm
  | a :: r, h, m, hm => by
    unfold leftMk at h
    rcases List.mem_cons.1 hm with h1 | h1
    · subst h1
      cases hf : f m.i with
      | none => rw [hf] at h; simp at h
      | some b => exact ⟨b, rfl⟩
    · exact leftMk_zero (by omega) m h1
theorem leftMk_pos {f : Nat → Option Nat} : ∀ {r : List Mk}, leftMk f r ≠ 0 → ∃ m ∈ r, f m.i = none
  | [], h => by simp [leftMk] at h
  | a :: r, h => by
    cases hf : f a.i with
    | none => exact ⟨a, by simp, hf⟩
    | some b =>
      unfold leftMk at h
      rw [hf] at h
      simp at h
      obtain ⟨m, hm, h1⟩ := leftMk_pos h
      exact ⟨m, by simp [hm], h1⟩
theorem leftMk_congr {f g : Nat → Option Nat} : ∀ {r : List Mk}, (∀ m ∈ r, f m.i = g m.i) → leftMk f r = leftMk g r
  | [], _ => rfl
  | m :: r, h => by unfold leftMk; rw [h m (by simp), leftMk_congr (fun m' hm => h m' (by simp [hm]))]
theorem leftMk_add {f : Nat → Option Nat} {b : Nat} {m : Mk} : ∀ {Ms : List Mk}, m ∈ Ms → (Ms.map (·.i)).Nodup → f m.i = none → leftMk f Ms = leftMk (updMk f m.i b) Ms + 1
  | [], h, _, _ => by simp at h
  | a :: r, hm, hi, hf => by
    simp only [List.map_cons, List.nodup_cons] at hi
    by_cases e : a = m
    · subst e
      have e2 : ∀ m' ∈ r, f m'.i = updMk f a.i b m'.i := fun m' hm' => by
        have : m'.i ≠ a.i := fun e => hi.1 (by rw [← e]; exact List.mem_map_of_mem hm')
        simp [updMk, this]
      unfold leftMk
      rw [leftMk_congr e2, hf]
      simp [updMk]
      omega
    · have hm' : m ∈ r := by
        rcases List.mem_cons.1 hm with h1 | h1
        · exact absurd h1.symm e
        · exact h1
      have hne : a.i ≠ m.i := fun e2 => hi.1 (by rw [e2]; exact List.mem_map_of_mem hm')
      have h1 := leftMk_add (b := b) hm' hi.2 hf
      have h2 : updMk f m.i b a.i = f a.i := by simp [updMk, hne]
      unfold leftMk
      rw [h2]
      omega

section
variable {P : Program} {ops : Array Oper} {Q : Exit → Act → World → Prop} {md : Region.Mode}
/-- WHATEVER THE ORDER OF THE MAKES. -/
theorem wpAny_makes (Ms : List Mk) (rest : List Nat) (L : Array Bool) (a0 : Act) (w0 : World) (fuel : Nat)
    (hi : (Ms.map (·.i)).Nodup) (hs : (Ms.map (·.s)).Nodup) (hL0 : ∀ m ∈ Ms, L.getD m.i true = false) (hLall : ∀ j, L.getD j true = false → j ∈ Ms.map (·.i) ∨ j ∈ rest)
    (hLr : ∀ j ∈ rest, L.getD j false = false ∧ j ∉ Ms.map (·.i))
    (hwait : ∀ j ∈ rest, ∀ o, ops[j]? = some o → (∃ e ∈ o.after, Region.binds md e = true ∧ e.on ∈ rest) ∨ ∀ m ∈ Ms, ∃ e ∈ o.after, Region.binds md e = true ∧ e.on = m.i)
    (hop : ∀ m ∈ Ms, ∃ o, ops[m.i]? = some o ∧ o.dst = some m.s ∧ o.guard = none ∧ (∀ e ∈ o.after, Region.binds md e = true → L.getD e.on false = true) ∧
      ∀ f w, (execOp (putMk f Ms a0).eval o).run P w = .ok (.value (m.val w.heap.size)) (w.alloc m.o))
    (hdone : ∀ f w, (∀ m ∈ Ms, ∃ b, f m.i = some b) → MkInv Ms w0 f w → wpAny P md ops Q fuel (lstMk f Ms L) (putMk f Ms a0) w) :
    ∀ k f w, leftMk f Ms = k → MkInv Ms w0 f w → wpAny P md ops Q (k + fuel) (lstMk f Ms L) (putMk f Ms a0) w := by
  intro k
  induction k with
  | zero =>
    intro f w hk hI
    rw [Nat.zero_add]
    exact hdone f w (leftMk_zero hk) hI
  | succ k ih =>
    intro f w hk hI
    rw [Nat.succ_add]
    obtain ⟨m0, hm0, hf0⟩ := leftMk_pos (f := f) (r := Ms) (by omega)
    have unl : ∀ m ∈ Ms, f m.i = none → ∀ d, (lstMk f Ms L).getD m.i d = L.getD m.i d := fun m hm hf d => lstMk_other Ms L (fun m' _ e => by rw [e]; exact hf)
    refine ⟨fun hr => ?_, fun j hj => ?_⟩
    · exfalso
      obtain ⟨o, ho, -, -, hed, -⟩ := hop m0 hm0
      have : m0.i ∈ Region.ready md ops (lstMk f Ms L) := mem_ready.2 ⟨by rw [unl m0 hm0 hf0]; exact hL0 m0 hm0, o, ho, fun e he hb => lstMk_old Ms L (hed e he hb)⟩
      rw [hr] at this
      cases this
    · obtain ⟨hun, o, ho, hall⟩ := mem_ready.1 hj
      have hLj : L.getD j true = false := by
        by_cases hc : L.getD j true = true
        · have h1 : j < L.size → (lstMk f Ms L).getD j true = true := fun hlt => by
            have h2 : L.getD j false = true := by simp [Array.getD, hlt] at hc ⊢; exact hc
            have h3 := lstMk_old (f := f) Ms L h2
            by_cases hlt2 : j < (lstMk f Ms L).size
            · simp [Array.getD, hlt2] at h3 ⊢; exact h3
            · simp [Array.getD, hlt2]
          by_cases hlt : j < L.size
          · rw [h1 hlt] at hun; cases hun
          · exfalso
            have hsz : ∀ (r : List Mk) (l : Array Bool), (lstMk f r l).size = l.size := fun r => by
              induction r with
              | nil => intro l; rfl
              | cons m r ih2 =>
                intro l
                unfold lstMk
                rw [ih2]
                cases f m.i <;> simp
            have h5 : ¬ j < (lstMk f Ms L).size := by rw [hsz]; exact hlt
            simp [Array.getD, h5] at hun
        · simpa using hc
      rcases hLall j hLj with h1 | h1
      · obtain ⟨m, hm, rfl⟩ := List.mem_map.1 h1
        have hfm : f m.i = none := by
          cases hf : f m.i with
          | none => rfl
          | some b =>
            exfalso
            have hset : (lstMk f Ms L) = lstMk f Ms (L.setIfInBounds m.i true) := by
              have : ∀ (r : List Mk) (l : Array Bool), m ∈ r → lstMk f r (l.setIfInBounds m.i true) = lstMk f r l := fun r => by
                induction r with
                | nil => intro l h; simp at h
                | cons a r ih2 =>
                  intro l h
                  rcases List.mem_cons.1 h with e | e
                  · subst e
                    unfold lstMk
                    rw [hf]
                    simp
                  · unfold lstMk
                    cases hfa : f a.i with
                    | none => exact ih2 l e
                    | some b' =>
                      simp only
                      by_cases e3 : a.i = m.i
                      · rw [e3]; simp
                      · rw [← Array.setIfInBounds_comm _ _ e3]
                        exact ih2 _ e
              exact (this Ms L hm).symm
            have hlt : m.i < L.size := by
              by_cases hlt : m.i < L.size
              · exact hlt
              · have := hL0 m hm; simp [Array.getD, hlt] at this
            have h2 : (L.setIfInBounds m.i true).getD m.i false = true := by simp [Array.getD, hlt]
            have h3 := lstMk_old (f := f) Ms _ h2
            rw [← hset] at h3
            by_cases hlt2 : m.i < (lstMk f Ms L).size
            · simp [Array.getD, hlt2] at h3 hun; rw [h3] at hun; cases hun
            · simp [Array.getD, hlt2] at h3
        obtain ⟨o', ho', hdst, hg, -, hrun⟩ := hop m hm
        have eo : o' = o := by rw [ho'] at ho; cases ho; rfl
        have hw : Region.wanted o' (yielded ops (putMk f Ms a0).tmps) = true := by simp [Region.wanted, hg]
        unfold wpOp
        simp only [ho', hw, if_true]
        refine .inl ?_
        simp only [Oper.wp, hrun f w, Oper.upon]
        have hl := leftMk_add (b := w.heap.size) hm hi hfm
        have := ih (updMk f m.i w.heap.size) (w.alloc m.o) (by omega) (hI.next hm hi)
        rw [putMk_add Ms a0 hm hi hs hfm, lstMk_add Ms L hm hi hfm] at this
        rw [hdst]
        exact this
      · exfalso
        rcases hwait j h1 o ho with ⟨e, he, hb, hr⟩ | h2
        · have h3 := hall e he hb
          obtain ⟨h4, h5⟩ := hLr e.on hr
          rw [lstMk_other Ms L (fun m hm e2 => absurd (by rw [← e2]; exact List.mem_map_of_mem hm) h5), h4] at h3
          cases h3
        · obtain ⟨e, he, hb, hon⟩ := h2 m0 hm0
          have h3 := hall e he hb
          rw [hon, unl m0 hm0 hf0] at h3
          have h4 := hL0 m0 hm0
          by_cases hlt : m0.i < L.size
          · simp [Array.getD, hlt] at h3 h4; rw [h3] at h4; cases h4
          · simp [Array.getD, hlt] at h3
/-- The same where a condition on the world is held. -/
theorem wpAnyH_makes (S : World → Prop) (hSa : ∀ w (m : Mk), S w → S (w.alloc m.o)) (Ms : List Mk) (rest : List Nat) (L : Array Bool) (a0 : Act) (w0 : World) (fuel : Nat)
    (hi : (Ms.map (·.i)).Nodup) (hs : (Ms.map (·.s)).Nodup) (hL0 : ∀ m ∈ Ms, L.getD m.i true = false) (hLall : ∀ j, L.getD j true = false → j ∈ Ms.map (·.i) ∨ j ∈ rest)
    (hLr : ∀ j ∈ rest, L.getD j false = false ∧ j ∉ Ms.map (·.i))
    (hwait : ∀ j ∈ rest, ∀ o, ops[j]? = some o → (∃ e ∈ o.after, Region.binds md e = true ∧ e.on ∈ rest) ∨ ∀ m ∈ Ms, ∃ e ∈ o.after, Region.binds md e = true ∧ e.on = m.i)
    (hop : ∀ m ∈ Ms, ∃ o, ops[m.i]? = some o ∧ o.dst = some m.s ∧ o.guard = none ∧ (∀ e ∈ o.after, Region.binds md e = true → L.getD e.on false = true) ∧
      ∀ f w, (execOp (putMk f Ms a0).eval o).run P w = .ok (.value (m.val w.heap.size)) (w.alloc m.o))
    (hdone : ∀ f w, (∀ m ∈ Ms, ∃ b, f m.i = some b) → MkInv Ms w0 f w → S w → wpAnyH P md ops Q S fuel (lstMk f Ms L) (putMk f Ms a0) w) :
    ∀ k f w, leftMk f Ms = k → MkInv Ms w0 f w → S w → wpAnyH P md ops Q S (k + fuel) (lstMk f Ms L) (putMk f Ms a0) w := by
  intro k
  induction k with
  | zero =>
    intro f w hk hI hSw
    rw [Nat.zero_add]
    exact hdone f w (leftMk_zero hk) hI hSw
  | succ k ih =>
    intro f w hk hI hSw
    rw [Nat.succ_add]
    obtain ⟨m0, hm0, hf0⟩ := leftMk_pos (f := f) (r := Ms) (by omega)
    have unl : ∀ m ∈ Ms, f m.i = none → ∀ d, (lstMk f Ms L).getD m.i d = L.getD m.i d := fun m hm hf d => lstMk_other Ms L (fun m' _ e => by rw [e]; exact hf)
    refine ⟨fun hr => ?_, fun j hj => ?_⟩
    · exfalso
      obtain ⟨o, ho, -, -, hed, -⟩ := hop m0 hm0
      have : m0.i ∈ Region.ready md ops (lstMk f Ms L) := mem_ready.2 ⟨by rw [unl m0 hm0 hf0]; exact hL0 m0 hm0, o, ho, fun e he hb => lstMk_old Ms L (hed e he hb)⟩
      rw [hr] at this
      cases this
    · obtain ⟨hun, o, ho, hall⟩ := mem_ready.1 hj
      have hLj : L.getD j true = false := by
        by_cases hc : L.getD j true = true
        · have h1 : j < L.size → (lstMk f Ms L).getD j true = true := fun hlt => by
            have h2 : L.getD j false = true := by simp [Array.getD, hlt] at hc ⊢; exact hc
            have h3 := lstMk_old (f := f) Ms L h2
            by_cases hlt2 : j < (lstMk f Ms L).size
            · simp [Array.getD, hlt2] at h3 ⊢; exact h3
            · simp [Array.getD, hlt2]
          by_cases hlt : j < L.size
          · rw [h1 hlt] at hun; cases hun
          · exfalso
            have hsz : ∀ (r : List Mk) (l : Array Bool), (lstMk f r l).size = l.size := fun r => by
              induction r with
              | nil => intro l; rfl
              | cons m r ih2 =>
                intro l
                unfold lstMk
                rw [ih2]
                cases f m.i <;> simp
            have h5 : ¬ j < (lstMk f Ms L).size := by rw [hsz]; exact hlt
            simp [Array.getD, h5] at hun
        · simpa using hc
      rcases hLall j hLj with h1 | h1
      · obtain ⟨m, hm, rfl⟩ := List.mem_map.1 h1
        have hfm : f m.i = none := by
          cases hf : f m.i with
          | none => rfl
          | some b =>
            exfalso
            have hset : (lstMk f Ms L) = lstMk f Ms (L.setIfInBounds m.i true) := by
              have : ∀ (r : List Mk) (l : Array Bool), m ∈ r → lstMk f r (l.setIfInBounds m.i true) = lstMk f r l := fun r => by
                induction r with
                | nil => intro l h; simp at h
                | cons a r ih2 =>
                  intro l h
                  rcases List.mem_cons.1 h with e | e
                  · subst e
                    unfold lstMk
                    rw [hf]
                    simp
                  · unfold lstMk
                    cases hfa : f a.i with
                    | none => exact ih2 l e
                    | some b' =>
                      simp only
                      by_cases e3 : a.i = m.i
                      · rw [e3]; simp
                      · rw [← Array.setIfInBounds_comm _ _ e3]
                        exact ih2 _ e
              exact (this Ms L hm).symm
            have hlt : m.i < L.size := by
              by_cases hlt : m.i < L.size
              · exact hlt
              · have := hL0 m hm; simp [Array.getD, hlt] at this
            have h2 : (L.setIfInBounds m.i true).getD m.i false = true := by simp [Array.getD, hlt]
            have h3 := lstMk_old (f := f) Ms _ h2
            rw [← hset] at h3
            by_cases hlt2 : m.i < (lstMk f Ms L).size
            · simp [Array.getD, hlt2] at h3 hun; rw [h3] at hun; cases hun
            · simp [Array.getD, hlt2] at h3
        obtain ⟨o', ho', hdst, hg, -, hrun⟩ := hop m hm
        have eo : o' = o := by rw [ho'] at ho; cases ho; rfl
        have hw : Region.wanted o' (yielded ops (putMk f Ms a0).tmps) = true := by simp [Region.wanted, hg]
        unfold wpOp
        simp only [ho', hw, if_true]
        refine .inl ?_
        simp only [Oper.wp, hrun f w, Oper.upon]
        have hl := leftMk_add (b := w.heap.size) hm hi hfm
        have := ih (updMk f m.i w.heap.size) (w.alloc m.o) (by omega) (hI.next hm hi) (hSa w m hSw)
        rw [putMk_add Ms a0 hm hi hs hfm, lstMk_add Ms L hm hi hfm] at this
        rw [hdst]
        exact ⟨hSa w m hSw, this⟩
      · exfalso
        rcases hwait j h1 o ho with ⟨e, he, hb, hr⟩ | h2
        · have h3 := hall e he hb
          obtain ⟨h4, h5⟩ := hLr e.on hr
          rw [lstMk_other Ms L (fun m hm e2 => absurd (by rw [← e2]; exact List.mem_map_of_mem hm) h5), h4] at h3
          cases h3
        · obtain ⟨e, he, hb, hon⟩ := h2 m0 hm0
          have h3 := hall e he hb
          rw [hon, unl m0 hm0 hf0] at h3
          have h4 := hL0 m0 hm0
          by_cases hlt : m0.i < L.size
          · simp [Array.getD, hlt] at h3 h4; rw [h3] at h4; cases h4
          · simp [Array.getD, hlt] at h3

theorem putMk_eval {f : Nat → Option Nat} {x : Nat} : ∀ (Ms : List Mk) (a : Act), (∀ m ∈ Ms, m.s ≠ x) → (putMk f Ms a).eval (.tmp x) = a.eval (.tmp x)
  | [], _, _ => rfl
  | m :: r, a, h => by
    unfold putMk
    rw [putMk_eval r _ (fun m' hm => h m' (by simp [hm]))]
    cases f m.i with
    | none => rfl
    | some b => exact Act.eval_put (fun d hd e => h m (by simp) (by cases hd; cases e; rfl))
/-- One of the makes, whatever of the others is done. -/
theorem make_op {Ms : List Mk} {a0 : Act} {m : Mk} {o : Oper} {T : TypeId} {x : Nat} (ho : o.op = .makeSlice T (.tmp x) (.tmp x)) (hx : ∀ m ∈ Ms, m.s ≠ x) (he : a0.eval (.tmp x) = .int .i64 (m.n : Int))
    (hr : ∀ w, (Instr.makeSlice T (.int .i64 (m.n : Int)) (.int .i64 (m.n : Int))).run P w = .ok (.slice (some ⟨w.heap.size, 0, none⟩) m.n m.n) (w.alloc m.o)) :
    ∀ f w, (execOp (putMk f Ms a0).eval o).run P w = .ok (.value (m.val w.heap.size)) (w.alloc m.o) := fun f w => by
  have h1 := putMk_eval (f := f) Ms a0 hx
  rw [he] at h1
  simp [execOp, ho, h1, hr, Result.andThen, Mk.val]

/-! ### The side conditions, as closed Booleans -/
theorem lall_of {L : Array Bool} {idx rest : List Nat} (n : Nat) (hsz : L.size = n) (hall : (List.range n).all (fun j => L.getD j true || idx.contains j || rest.contains j) = true) : ∀ j, L.getD j true = false → j ∈ idx ∨ j ∈ rest := fun j hj => by
  by_cases h : j < n
  · have h1 := List.all_eq_true.1 hall j (List.mem_range.2 h)
    rw [hj] at h1
    simp at h1
    exact h1
  · rw [← hsz] at h
    simp [Array.getD, h] at hj
theorem wait_all {j : Nat} {o : Oper} {idx : List Nat} (h : ((ops[j]?).map fun o => idx.all fun i => o.after.any fun e => Region.binds md e && e.on == i) = some true) (ho : ops[j]? = some o) : ∀ i ∈ idx, ∃ e ∈ o.after, Region.binds md e = true ∧ e.on = i := fun i hi => by
  rw [ho] at h
  simp only [Option.map_some, Option.some.injEq] at h
  have h1 := List.all_eq_true.1 h i hi
  obtain ⟨e, he, h2⟩ := Array.any_eq_true'.1 h1
  simp at h2
  exact ⟨e, he, h2⟩
theorem wait_one {j : Nat} {o : Oper} {rest : List Nat} (h : ((ops[j]?).map fun o => o.after.any fun e => Region.binds md e && rest.contains e.on) = some true) (ho : ops[j]? = some o) : ∃ e ∈ o.after, Region.binds md e = true ∧ e.on ∈ rest := by
  rw [ho] at h
  simp only [Option.map_some, Option.some.injEq] at h
  obtain ⟨e, he, h2⟩ := Array.any_eq_true'.1 h
  simp at h2
  exact ⟨e, he, h2⟩
theorem edges_of {o : Oper} {L : Array Bool} (h : o.after.all (fun e => !Region.binds md e || L.getD e.on false) = true) : ∀ e ∈ o.after, Region.binds md e = true → L.getD e.on false = true := fun e he hb => by
  have h1 := Array.all_eq_true'.1 h e he
  rw [hb] at h1
  simpa using h1
end
end Go.Proofs.Qxb6603374a
