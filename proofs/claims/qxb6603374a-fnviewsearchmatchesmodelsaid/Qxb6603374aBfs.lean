/- The plain law of FnCycleIsCheapestPath, third part: the search of zzB1WalkReads finds every walk. -/
import Derived.Test.Qxb6603374aGraph
namespace Go.Proofs.Qxb6603374a
namespace Gr
variable (g : Gr)

/-- The state that arc i leads to from state (x, j), w = the number of literals and one. -/
def nxt (seq : List Int) (x j i : Nat) : Option Nat :=
  if 0 ≤ g.L x i then (if j < seq.length ∧ seq.getD j 0 = g.L x i then some (g.T x i * (seq.length + 1) + (j + 1)) else none) else some (g.T x i * (seq.length + 1) + j)

/-- The first k arcs of state s lead into q. -/
def Shut (seq : List Int) (q : List Nat) (s k : Nat) : Prop := ∀ i, i < k → g.Arc (s / (seq.length + 1)) i → ∀ t, g.nxt seq (s / (seq.length + 1)) (s % (seq.length + 1)) i = some t → t ∈ q

/-- The search in hand: q the states met in order, the first h of them shut. -/
structure Bfs (b : Nat) (seq : List Int) (q : List Nat) (h : Nat) : Prop where
  nod : q.Nodup
  lt : ∀ s, s ∈ q → s < g.n * (seq.length + 1)
  b0 : b * (seq.length + 1) ∈ q
  shut : ∀ i s, i < h → q[i]? = some s → g.Shut seq q s (g.deg (s / (seq.length + 1)))

theorem Shut.mono {seq : List Int} {q : List Nat} {s k : Nat} (h : g.Shut seq q s k) (r : List Nat) : g.Shut seq (q ++ r) s k := fun i hi ha t ht => List.mem_append.2 (.inl (h i hi ha t ht))

theorem bfs_start {b : Nat} {seq : List Int} (hb : b < g.n) : g.Bfs b seq [b * (seq.length + 1)] 0 := by
  refine ⟨by simp, fun s hs => ?_, by simp, fun i s hi => absurd hi (Nat.not_lt_zero _)⟩
  simp at hs
  subst hs
  exact Nat.mul_lt_mul_of_pos_right hb (by omega)
theorem Bfs.len {b : Nat} {seq : List Int} {q : List Nat} {h : Nat} (k : g.Bfs b seq q h) : q.length ≤ g.n * (seq.length + 1) := nodup_le _ q k.nod k.lt
theorem Bfs.next {b : Nat} {seq : List Int} {q : List Nat} {h s : Nat} (k : g.Bfs b seq q h) (hs : q[h]? = some s) (hd : g.Shut seq q s (g.deg (s / (seq.length + 1)))) : g.Bfs b seq q (h + 1) :=
  ⟨k.nod, k.lt, k.b0, fun i t hi ht => by
    by_cases e : i = h
    · subst e
      rw [hs] at ht
      cases ht
      exact hd
    · exact k.shut i t (by omega) ht⟩
/-- One state more. -/
theorem Bfs.push {b : Nat} {seq : List Int} {q : List Nat} {h t : Nat} (k : g.Bfs b seq q h) (hh : h ≤ q.length) (ht : t < g.n * (seq.length + 1)) (hn : t ∉ q) : g.Bfs b seq (q ++ [t]) h := by
  refine ⟨?_, fun s hs => ?_, by simp [k.b0], fun i s hi hs => ?_⟩
  · rw [List.nodup_append]
    refine ⟨k.nod, by simp, fun x hx y hy e => ?_⟩
    simp at hy
    subst hy; subst e
    exact hn hx
  · rcases List.mem_append.1 hs with h1 | h1
    · exact k.lt s h1
    · simp at h1; subst h1; exact ht
  · rw [List.getElem?_append_left (by omega)] at hs
    exact (k.shut i s hi hs).mono g _
theorem nxt_lt {seq : List Int} {x j i t : Nat} (ha : g.Arc x i) (hj : j < seq.length + 1) (h : g.nxt seq x j i = some t) : t < g.n * (seq.length + 1) := by
  have key : ∀ j', j' < seq.length + 1 → g.T x i * (seq.length + 1) + j' < g.n * (seq.length + 1) := fun j' hj' => by
    have h1 : (g.T x i + 1) * (seq.length + 1) ≤ g.n * (seq.length + 1) := Nat.mul_le_mul_right _ ha.2.2.1
    rw [Nat.add_mul] at h1
    omega
  unfold nxt at h
  by_cases hl : 0 ≤ g.L x i
  · rw [if_pos hl] at h
    by_cases c : j < seq.length ∧ seq.getD j 0 = g.L x i
    · rw [if_pos c] at h; cases h; exact key (j + 1) (by omega)
    · rw [if_neg c] at h; cases h
  · rw [if_neg hl] at h; cases h; exact key j hj

/-- Every walk whose literals begin the row is met. -/
theorem Bfs.all {b : Nat} {seq : List Int} {q : List Nat} (k : g.Bfs b seq q q.length) : ∀ x m c s, g.Wk b x m c s → ∀ r, s ++ r = seq → x * (seq.length + 1) + s.length ∈ q := fun x m c s hw => by
  induction hw with
  | nil => intro r _; simpa using k.b0
  | @snoc x m c s i hw ha ih =>
    intro r hr
    have h1 := ih (g.lits x i ++ r) (by rw [← hr, List.append_assoc])
    obtain ⟨p, hp⟩ := List.getElem?_of_mem h1
    have hp2 := (List.getElem?_eq_some_iff.1 hp).1
    have h2 := k.shut p _ hp2 hp
    have hs : s.length < seq.length + 1 := by rw [← hr]; simp; omega
    have e1 : (x * (seq.length + 1) + s.length) / (seq.length + 1) = x := by
      rw [Nat.mul_comm, Nat.mul_add_div (by omega), Nat.div_eq_of_lt hs]; omega
    have e2 : (x * (seq.length + 1) + s.length) % (seq.length + 1) = s.length := by
      rw [Nat.mul_comm, Nat.mul_add_mod, Nat.mod_eq_of_lt hs]
    unfold Shut at h2
    rw [e1, e2] at h2
    refine h2 i ha.2.1 ha _ ?_
    unfold nxt lits
    by_cases hl : 0 ≤ g.L x i
    · rw [if_pos hl]
      have hq : seq.getD s.length 0 = g.L x i := by
        rw [← hr]
        unfold lits
        rw [if_pos hl]
        simp [List.getD]
      have hlen : s.length < seq.length := by
        rw [← hr]
        unfold lits
        rw [if_pos hl]
        simp
      rw [if_pos ⟨hlen, hq⟩]
      simp [if_pos hl]
    · rw [if_neg hl]; simp [if_neg hl]
theorem Bfs.found {a b m c : Nat} {seq : List Int} {q : List Nat} (k : g.Bfs b seq q q.length) (h : g.Wk b a m c seq) : a * (seq.length + 1) + seq.length ∈ q := k.all g a m c seq h [] (by simp)
end Gr
end Go.Proofs.Qxb6603374a
