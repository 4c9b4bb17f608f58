/- The contract of encode. -/
import Derived.Test.Qxb6603826aRows
import Derived.Test.Qxb6603826aPlain
import Derived.Test.Qxb6603826aLaws
import Derived.WalkKit
import Derived.ProofKit
import Derived.OpenShut
import Derived.WalkSpells
import Derived.Deep.OwnRows
import Derived.ArgAppend
import Derived.Deep.QuietTactic
import Derived.BigQuiet
import Derived.Deep.RegionHeldLaw
import Derived.Deep.RegionHeld2
import Derived.Deep.RegionHeld3
namespace Go.Proofs.Qxb6603826a
open Go.ChangeShapes Go.WideShapes Go.ChangeAt Go.RowKit

def U32 (l : List Nat) : List Value := l.map fun (n : Nat) => Value.int .u32 (n : Int)

/-- The row of block b reads as the numbers l. -/
def Reads (w : World) (b : Nat) (l : List Nat) : Prop := ∀ i, i < l.length → w.cell? ⟨b, i, none⟩ = some (.int .u32 (l.getD i 0 : Nat))

theorem Try.info24 : (Try.prog.info? 24).map (fun i => (i.zero, i.size, i.bytes)) = some (some (.int .u32 0), 1, 4) := by kernel_rfl

theorem hidden {p : Prop} (h : p) : Hid p := h

/-- A slice's length. -/
def slen : Value → Nat
  | .slice _ n _ => n
  | _ => 0

/-- Two slices of the call's own lie apart. -/
def Apart (v u : Value) : Prop := ∀ k, v.ownBlock = some k → u.ownBlock ≠ some k

/-- A row of bytes in memory, its first n cells the bytes l, the rest room. -/
structure Out (w : World) (OB cap n : Nat) (l : List Nat) : Prop where
  len : l.length = n
  lt : OB < w.heap.size
  cells : ∀ i, i < n → w.cell? ⟨OB, i, none⟩ = some (.int .u8 (l.getD i 0 : Nat))
  room : ∀ i, i < cap → (w.cell? ⟨OB, i, none⟩).isSome = true ∧ w.frozen? ⟨OB, i, none⟩ = false

theorem Out.kept {w w' : World} {OB cap n : Nat} {l : List Nat} {row : Option Nat} (h : Out w OB cap n l) (hg : w.grownBy w' row) (hne : some OB ≠ row) : Out w' OB cap n l := by
  have e := hg.block OB h.lt hne
  refine ⟨h.len, Nat.lt_of_lt_of_le h.lt hg.size, fun i hi => ?_, fun i hi => ?_⟩
  · rw [World.cell?_of_block (a := ⟨OB, i, none⟩) e]; exact h.cells i hi
  · rw [World.cell?_of_block (a := ⟨OB, i, none⟩) e, World.frozen?_of_block (a := ⟨OB, i, none⟩) e]; exact h.room i hi

theorem Out.alloc {w : World} {OB cap n : Nat} {l : List Nat} (h : Out w OB cap n l) (o : Obj) : Out (w.alloc o) OB cap n l := h.kept (World.grownBy_alloc w o none) (by simp)
theorem Out.drew {w : World} {OB cap n : Nat} {l : List Nat} (h : Out w OB cap n l) : Out w.drew OB cap n l := ⟨h.len, h.lt, h.cells, h.room⟩
theorem Out.drewN {w : World} {OB cap n : Nat} {l : List Nat} (h : Out w OB cap n l) (m : Nat) : Out (w.drewN m) OB cap n l := ⟨h.len, h.lt, h.cells, h.room⟩

/-- One byte more. -/
theorem Out.put {w : World} {OB cap n : Nat} {l : List Nat} (h : Out w OB cap n l) (hn : n + 1 ≤ cap) (k : Nat) : Out (w.setCells OB (0 + n * 1) [.int .u8 (k : Int)]) OB cap (n + 1) (l ++ [k]) := by
  simp only [World.setCells, Nat.zero_add, Nat.mul_one]
  have hr := (h.room n (by omega)).1
  refine ⟨by simp [h.len], by simpa using h.lt, fun i hi => ?_, fun i hi => ?_⟩
  · by_cases e : i = n
    · subst e
      rw [World.cell?_setCell_same' _ _ _ hr]
      simp [List.getD, h.len.symm]
    · rw [World.cell?_setCell_other _ _ _ _ (fun e2 => e (congrArg Addr.off e2).symm), h.cells i (by omega)]
      have hl := h.len
      simp [List.getD, List.getElem?_append_left (show i < l.length by omega)]
  · rw [World.frozen?_setCell]
    refine ⟨?_, (h.room i hi).2⟩
    by_cases e : i = n
    · subst e; rw [World.cell?_setCell_same' _ _ _ hr]; rfl
    · rw [World.cell?_setCell_other _ _ _ _ (fun e2 => e (congrArg Addr.off e2).symm)]; exact (h.room i hi).1

/-- What the rounds keep: the bytes written so far and what the two lists still give make the whole encoding. -/
def EncInv (w : World) (OB cap : Nat) (whole : List Nat) (o v u : Value) (wr : World) : Prop :=
  ∃ (f n vb vc mb mc : Nat) (bs ms vs : List Nat), o = .slice (some ⟨OB, 0, none⟩) n cap ∧ v = .slice (some ⟨vb, 0, none⟩) ms.length vc ∧ u = .slice (some ⟨mb, 0, none⟩) ms.length mc ∧
    Out wr OB cap n bs ∧ bs.length = n ∧ bs ++ enc f ms vs = whole ∧ Sound ms ∧ Under ms vs ∧ 1 ≤ ms.length ∧ ms.length ≤ 100000 ∧ ms.length ≤ 2 ^ f ∧
    Reads wr vb vs ∧ Reads wr mb ms ∧ vb ≠ OB ∧ mb ≠ OB ∧ vb < wr.heap.size ∧ mb < wr.heap.size ∧ w.grownBy wr (some OB)

/-- What the loop over the pairs keeps. -/
def PairInv (wr : World) (OB cap n : Nat) (bs ms vs : List Nat) (o nx nm i : Value) (wi : World) : Prop :=
  ∃ j : Nat, i = .int .i64 (2 * (j : Int)) ∧ 2 * j ≤ ms.length ∧ o = .slice (some ⟨OB, 0, none⟩) (n + lowLen ms j) cap ∧
    Out wi OB cap (n + lowLen ms j) (bs ++ lowTo ms vs j) ∧
    wi.ownsRow wr.heap.size 24 1 nx j (U32 (nextV ms vs j)) ∧ wi.ownsRow wr.heap.size 24 1 nm j (U32 (nextM ms j)) ∧ Apart nx nm ∧ wr.grownBy wi (some OB)

/-- A row of numbers reads behind writes elsewhere as it did. -/
theorem Reads.kept {w w' : World} {b : Nat} {l : List Nat} {row : Option Nat} (h : Reads w b l) (hg : w.grownBy w' row) (hb : b < w.heap.size) (hne : some b ≠ row) : Reads w' b l :=
  fun i hi => (World.cell?_of_block (a := ⟨b, i, none⟩) (hg.block b hb hne)).trans (h i hi)

theorem U32_snoc (l : List Nat) (k : Nat) : U32 (l ++ [k]) = U32 l ++ [.int .u32 (k : Int)] := by simp [U32]

theorem Try.info5 : (Try.prog.info? 5).map (fun i => (i.zero, i.size, i.bytes)) = some (some (.int .u8 0), 1, 1) := by kernel_rfl

theorem info_at {t : TypeId} {z : Value} {n b : Nat} (h : (Try.prog.info? t).map (fun i => (i.zero, i.size, i.bytes)) = some (some z, n, b)) : ∃ i, Try.prog.info? t = some i ∧ i.zero = some z ∧ i.size = n ∧ i.bytes = b := by
  obtain ⟨i, hi, e⟩ := Option.map_eq_some_iff.1 h
  simp only [Prod.mk.injEq] at e
  exact ⟨i, hi, e.1, e.2.1, e.2.2⟩

theorem news_one (w : World) (x : Value) (t : TypeId) : ∀ j u, [x][j]? = some u → (w.alloc (.cells #[x] t)).cell? ((⟨w.heap.size, 0, none⟩ : Addr).add j) = some u := by
  intro j u h
  match j, h with
  | 0, h =>
    simp at h; subst h
    show (w.alloc (.cells #[x] t)).cell? ⟨w.heap.size, 0, none⟩ = _
    rw [World.cell?_alloc_new]; rfl
  | j + 1, h => simp at h

/-- 'append(xs, y)' onto a slice of words of the call's own, behind the new word's own block. -/
theorem app_u32 (w : World) {ops : Array Oper} {rest : List Oper} {o : Oper} {a : Act} {Q : Exit → Act → World → Prop} (hgd : o.guard = none) (s x : Operand)
    (ho : o.op = .call { callee := .builtin .append, args := #[s, x], argTypes := #[23, 23] }) (base : Nat) (hbase : base ≤ w.heap.size) (v : Value) (n : Nat) (l : List Nat) (hs : a.eval s = v)
    (hown : w.ownsRow base 24 1 v n (U32 l)) (y : Int) (k : Nat) (hy : y = (k : Int)) (hx : a.eval x = .slice (some ⟨w.heap.size, 0, none⟩) 1 1) (hn : n ≤ 1000000)
    (h : ∀ v' w', w'.ownsRow base 24 1 v' (n + 1) (U32 (l ++ [k])) → w.grownBy w' v.ownBlock → Hid (v'.ownBlock = v.ownBlock ∨ v'.ownBlock = some (w.heap.size + 1)) → wpList Try.prog ops Q rest (a.put o.dst v') w') :
    wpList Try.prog ops Q (o :: rest) a (w.alloc (.cells #[.int .u32 y] 24)) := by
  subst hy
  obtain ⟨i, hi, hz, hsz, hb⟩ := info_at Try.info24
  refine wpList_append_at _ hgd s x 23 ho base 24 i (.int .u32 0) 1 4 Try.underlying23 hi hz hsz hb rfl (by decide) v n (U32 l) hs (hown.alloc _) ⟨w.heap.size, 0, none⟩ 1 1 [.int .u32 (k : Int)] hx rfl (news_one w _ 24) (by simp [Value.oneCell']) (by simp only [maxLen]; omega) (by omega) (by simp; omega) ?_
  intro v' w' h1 h2 h3
  refine h v' w' (by rw [U32_snoc]; exact h1) ⟨h2.os, h2.tape, h2.output, Nat.le_trans (by simp) h2.size, fun j hj hr => ?_⟩ (by rw [World.size_alloc] at h3; exact h3)
  rw [h2.block j (by simp; omega) hr]
  exact Below.heap_alloc w _ j hj

/-- 'append(out, y)' onto a row of bytes that has room. -/
theorem app_u8 (w : World) {ops : Array Oper} {rest : List Oper} {o : Oper} {a : Act} {Q : Exit → Act → World → Prop} (hgd : o.guard = none) (s x : Operand)
    (ho : o.op = .call { callee := .builtin .append, args := #[s, x], argTypes := #[22, 22] }) (g n cap : Nat) (l : List Nat) (hs : a.eval s = .slice (some ⟨g, 0, none⟩) n cap)
    (hown : Out w g cap n l) (y : Int) (k : Nat) (hy : y = (k : Int)) (hx : a.eval x = .slice (some ⟨w.heap.size, 0, none⟩) 1 1) (hn : n + 1 ≤ cap)
    (h : ∀ w', Out w' g cap (n + 1) (l ++ [k]) → w.grownBy w' (some g) → wpList Try.prog ops Q rest (a.put o.dst (.slice (some ⟨g, 0, none⟩) (n + 1) cap)) w') :
    wpList Try.prog ops Q (o :: rest) a (w.alloc (.cells #[.int .u8 y] 5)) := by
  subst hy
  obtain ⟨i, hi, _, hsz, _⟩ := info_at Try.info5
  refine wpList_plain hgd fun K hK => ?_
  have hrm := hown.room n (by omega)
  have hne : g ≠ w.heap.size := Nat.ne_of_lt hown.lt
  have hrun := run_append_room_cells (P := Try.prog) (w.alloc (.cells #[.int .u8 (k : Int)] 5)) 22 o.type 5 i Try.underlying22 hi g 0 n cap ⟨w.heap.size, 0, none⟩ 1 1 [.int .u8 (k : Int)] (by rw [hsz]; rfl) (news_one w _ 5) (by simp [Value.oneCell']) hn
    (fun j hj => by
      have : j = 0 := by simpa using hj
      subst this
      rw [hsz, World.cell?_alloc_lt _ _ _ hown.lt]; simpa using hrm.1)
    (fun j hj => by
      have : j = 0 := by simpa using hj
      subst this
      rw [hsz, World.frozen?_alloc_old _ _ _ hne]; simpa using hrm.2)
  unfold Oper.wp
  simp [execOp, ho, resolve, invoke, builtin, hs, hx, hrun, Result.andThen]
  refine hK _ _ (h _ ?_ ?_)
  · have h8 := (hown.alloc (.cells #[.int .u8 (k : Int)] 5)).put hn k
    simp only [Nat.zero_add, Nat.mul_one] at h8
    simp only [hsz, Nat.mul_one]
    exact h8
  · refine ⟨rfl, rfl, rfl, by simp [World.setCells], fun j hj hr => ?_⟩
    simp only [World.setCells]
    rw [Below.heap_setCell _ _ _ _ (fun e => hr (by simp at e; rw [e])), Below.heap_alloc w _ j hj]

theorem grown_trans {w a b : World} {OB : Nat} {row : Option Nat} (h : w.grownBy a (some OB)) (k : a.grownBy b row) (hr : ∀ x, row = some x → x = OB ∨ w.heap.size ≤ x) : w.grownBy b (some OB) :=
  ⟨k.os.trans h.os, k.tape.trans h.tape, k.output.trans h.output, Nat.le_trans h.size k.size, fun j hj hne => by
    rw [k.block j (Nat.lt_of_lt_of_le hj h.size) (fun e => by
      rcases hr j e.symm with h1 | h1
      · exact hne (by rw [h1])
      · omega)]
    exact h.block j hj hne⟩

theorem grown_drewN (w : World) (n : Nat) (row : Option Nat) : w.grownBy (w.drewN n) row := ⟨rfl, rfl, rfl, Nat.le_refl _, fun _ _ _ => rfl⟩

/-- A slice of the call's own stays, whatever is written below its base. -/
theorem own_kept {w w' : World} {H OB : Nat} {v : Value} {n : Nat} {xs : List Value} (h : w.ownsRow H 24 1 v n xs) (hg : w.grownBy w' (some OB)) (hlt : OB < H) : w'.ownsRow H 24 1 v n xs := by
  refine h.kept hg ?_
  cases e : v.ownBlock with
  | none => exact .inl rfl
  | some k =>
    right
    intro e2
    have := (h.lt k e).1
    simp at e2
    omega

theorem room {f n j cap : Nat} {bs ms vs whole : List Nat} (hbs : bs.length = n) (hw : bs ++ enc f ms vs = whole) (hc : whole.length ≤ cap) (h1 : 1 < ms.length) (h2 : ms.length ≤ 2 ^ f) (hj : j < ms.length / 2) :
    n + lowLen ms (j + 1) ≤ cap := by
  have e : (bs ++ enc f ms vs).length = n + encLen f ms := by rw [List.length_append, hbs, enc_length]
  rw [hw] at e
  cases f with
  | zero => simp at h2; omega
  | succ f =>
    unfold encLen at e
    rw [if_neg (by omega)] at e
    have := lowLen_mono ms (j + 1) (ms.length / 2) (by omega)
    omega

theorem apart_kept {w w' : World} {H : Nat} {v u : Value} {n : Nat} {xs : List Value} (h : w.ownsRow H 24 1 u n xs) (hg : w.grownBy w' v.ownBlock) (ha : Apart v u) : w'.ownsRow H 24 1 u n xs := by
  refine h.kept hg ?_
  cases e : u.ownBlock with
  | none => exact .inl rfl
  | some k => exact .inr fun e2 => ha k e2.symm e

theorem apart_new {w : World} {H : Nat} {v v' u : Value} {n : Nat} {xs : List Value} (h : w.ownsRow H 24 1 u n xs) (hb : v'.ownBlock = v.ownBlock ∨ v'.ownBlock = some (w.heap.size + 1)) (ha : Apart v u) : Apart v' u := by
  intro k hk hu
  rcases hb with hb | hb
  · exact ha k (hb ▸ hk) hu
  · rw [hb] at hk
    have := (h.lt k hu).2
    simp at hk
    omega

theorem apart_new' {w : World} {H : Nat} {v v' u : Value} {n : Nat} {xs : List Value} (h : w.ownsRow H 24 1 u n xs) (hb : v'.ownBlock = v.ownBlock ∨ v'.ownBlock = some w.heap.size) (ha : Apart v u) : Apart v' u := by
  intro k hk hu
  rcases hb with hb | hb
  · exact ha k (hb ▸ hk) hu
  · rw [hb] at hk
    have := (h.lt k hu).2
    simp at hk
    omega

theorem ne_own {w : World} {H n k : Nat} {v : Value} {xs : List Value} (h : w.ownsRow H 24 1 v n xs) (hk : w.heap.size ≤ k) : some k ≠ v.ownBlock := fun e => by
  have := (h.lt k e.symm).2
  omega

theorem Apart.symm {v u : Value} (h : Apart v u) : Apart u v := fun k hu hv => h k hv hu

/-- Writing to a slice of the call's own keeps what lies below its base. -/
theorem grown_own {w a b : World} {OB n : Nat} {v : Value} {xs : List Value} (h : w.grownBy a (some OB)) (ho : a.ownsRow w.heap.size 24 1 v n xs) (k : a.grownBy b v.ownBlock) : w.grownBy b (some OB) :=
  grown_trans h k fun x hx => .inr (ho.lt x hx).1

/-- A byte row of the caller's stays when a slice of the call's own is written. -/
theorem bytes_kept {a b : World} {H OB n m cap : Nat} {v : Value} {xs : List Value} {ys : List Nat} (h : Out a OB cap m ys) (ho : a.ownsRow H 24 1 v n xs) (k : a.grownBy b v.ownBlock) (hlt : OB < H) :
    Out b OB cap m ys := by
  refine h.kept k ?_
  intro e
  have := (ho.lt OB e.symm).1
  omega

theorem U32_length (l : List Nat) : (U32 l).length = l.length := by simp [U32]
theorem nextV_succ (ms vs : List Nat) (j : Nat) : nextV ms vs (j + 1) = nextV ms vs j ++ [pV ms vs j / 256 ^ kk (pN ms j)] := by simp [nextV, List.range_succ]
theorem nextM_succ (ms : List Nat) (j : Nat) : nextM ms (j + 1) = nextM ms j ++ [left (pN ms j)] := by simp [nextM, List.range_succ]

/-- The pair's two words, as the walk reckons them: letters, and what they are. -/
theorem pair_words {ms vs : List Nat} (hs : Sound ms) (hu : Under ms vs) {j : Nat} (h : 2 * j + 1 < ms.length) :
    ∃ A0 A1 M0 M1 X Y Z : Int, ((vs.getD (2 * j) 0 : Nat) : Int) = A0 ∧ ((vs.getD (2 * j + 1) 0 : Nat) : Int) = A1 ∧ ((ms.getD (2 * j) 0 : Nat) : Int) = M0 ∧ ((ms.getD (2 * j + 1) 0 : Nat) : Int) = M1 ∧
      M0 * A1 % 4294967296 = X ∧ (A0 + X) % 4294967296 = Y ∧ M0 * M1 % 4294967296 = Z ∧ Hid (Y = (pV ms vs j : Int) ∧ Z = (pN ms j : Int)) := by
  have h1 := pV_lt hu h
  have h2 := pN_bd hs h
  have e1 : (pV ms vs j : Int) = ((vs.getD (2 * j) 0 : Nat) : Int) + ((ms.getD (2 * j) 0 : Nat) : Int) * ((vs.getD (2 * j + 1) 0 : Nat) : Int) := by
    unfold pV; rw [Int.natCast_add, Int.natCast_mul]
  have e2 : (pN ms j : Int) = ((ms.getD (2 * j) 0 : Nat) : Int) * ((ms.getD (2 * j + 1) 0 : Nat) : Int) := by
    unfold pN; rw [Int.natCast_mul]
  refine ⟨_, _, _, _, _, _, _, rfl, rfl, rfl, rfl, rfl, rfl, rfl, ?_, ?_⟩
  · rw [e1]
    have h0 : 0 ≤ ((ms.getD (2 * j) 0 : Nat) : Int) * ((vs.getD (2 * j + 1) 0 : Nat) : Int) := Int.mul_nonneg (by omega) (by omega)
    generalize ((ms.getD (2 * j) 0 : Nat) : Int) * ((vs.getD (2 * j + 1) 0 : Nat) : Int) = x at *
    omega
  · rw [e2]
    generalize ((ms.getD (2 * j) 0 : Nat) : Int) * ((ms.getD (2 * j + 1) 0 : Nat) : Int) = x at *
    omega

/-- 'append(xs, y)' as one step of a region that draws, the new word in whatever cell. -/
theorem step_u32 (w : World) {ops : Array Oper} {o : Oper} {a : Act} {K : Act → World → Prop} {Q : Exit → Act → World → Prop} {E : Prop} (hgd : o.guard = none) (s x : Operand)
    (ho : o.op = .call { callee := .builtin .append, args := #[s, x], argTypes := #[23, 23] }) (base : Nat) (hbase : base ≤ w.heap.size) (v : Value) (n : Nat) (l : List Nat) (hs : a.eval s = v)
    (hown : w.ownsRow base 24 1 v n (U32 l)) (nb : Nat) (y : Int) (k : Nat) (hy : y = (k : Int)) (hx : a.eval x = .slice (some ⟨nb, 0, none⟩) 1 1) (hc : w.cell? ⟨nb, 0, none⟩ = some (.int .u32 y)) (hn : n ≤ 1000000)
    (h : ∀ v' w', w'.ownsRow base 24 1 v' (n + 1) (U32 (l ++ [k])) → w.grownBy w' v.ownBlock → Hid (v'.ownBlock = v.ownBlock ∨ v'.ownBlock = some w.heap.size) → K (a.put o.dst v') w') :
    if Region.wanted o (yielded ops a.tmps) = true then Oper.wp Try.prog o a w K Q else E := by
  subst hy
  obtain ⟨i, hi, hz, hsz, hb⟩ := info_at Try.info24
  refine step_append_at w hgd s x 23 ho base 24 i (.int .u32 0) 1 4 Try.underlying23 hi hz hsz hb rfl (by decide) v n (U32 l) hs hown ⟨nb, 0, none⟩ 1 1 [.int .u32 (k : Int)] hx rfl ?_ (by simp [Value.oneCell']) (by simp only [maxLen]; omega) (by omega) hbase ?_
  · intro j u hu
    match j, hu with
    | 0, hu => simp at hu; subst hu; exact hc
    | j + 1, hu => simp at hu
  · intro v' w' h1 h2 h3
    exact h v' w' (by rw [U32_snoc]; exact h1) h2 h3

/-- What stands all through the statement that takes the odd value over. -/
def OddS (G w : World) (OB vb mb i : Nat) (x y : Int) (w' : World) : Prop :=
  G.grownBy w' (some OB) ∧ w.heap.size ≤ w'.heap.size ∧ w'.cell? ⟨vb, i, none⟩ = some (.int .u32 x) ∧ w'.cell? ⟨mb, i, none⟩ = some (.int .u32 y)

theorem OddS.alloc {G w w' : World} {OB vb mb i : Nat} {x y : Int} (h : OddS G w OB vb mb i x y w') (o : Obj) : OddS G w OB vb mb i x y (w'.alloc o) :=
  ⟨grown_trans h.1 (World.grownBy_alloc w' o none) (fun _ e => by cases e), Nat.le_trans h.2.1 (by simp), by rw [World.cell?_alloc_lt _ _ _ (World.block_lt_of_cell? _ _ h.2.2.1)]; exact h.2.2.1,
    by rw [World.cell?_alloc_lt _ _ _ (World.block_lt_of_cell? _ _ h.2.2.2)]; exact h.2.2.2⟩

theorem OddS.drew {G w w' : World} {OB vb mb i : Nat} {x y : Int} (h : OddS G w OB vb mb i x y w') : OddS G w OB vb mb i x y w'.drew :=
  ⟨⟨h.1.os, h.1.tape, h.1.output, h.1.size, h.1.block⟩, h.2.1, h.2.2.1, h.2.2.2⟩

theorem OddS.app {G w w' w'' : World} {OB vb mb i n : Nat} {x y : Int} {v : Value} {xs : List Value} (h : OddS G w OB vb mb i x y w') (ho : w'.ownsRow G.heap.size 24 1 v n xs) (hg : w'.grownBy w'' v.ownBlock) (hv : vb < G.heap.size) (hm : mb < G.heap.size) :
    OddS G w OB vb mb i x y w'' := by
  have far : ∀ b, b < G.heap.size → some b ≠ v.ownBlock := fun b hb e => by have := (ho.lt b e.symm).1; omega
  exact ⟨grown_own h.1 ho hg, Nat.le_trans h.2.1 hg.size, hg.cell h.2.2.1 (far _ hv), hg.cell h.2.2.2 (far _ hm)⟩

/-- What the loop over one pair's bytes keeps. -/
def ByteInv (wi : World) (OB cap n : Nat) (bs : List Nat) (V N : Nat) (o v u : Value) (wk : World) : Prop :=
  ∃ (q : Nat) (y z : Int), q ≤ kk N ∧ v = .int .u32 y ∧ u = .int .u32 z ∧ Hid (y = ((V / 256 ^ q : Nat) : Int) ∧ z = (downs q N : Int)) ∧ 0 ≤ y ∧ y ≤ 268435456 ∧ 1 ≤ z ∧ z ≤ 268435456 ∧
    o = .slice (some ⟨OB, 0, none⟩) (n + q) cap ∧ Out wk OB cap (n + q) (bs ++ bytesOf V q) ∧ wi.grownBy wk (some OB)

/-- A slice of words of the call's own that is not empty, read. -/
theorem own_reads {w : World} {H n : Nat} {v : Value} {l : List Nat} (h : w.ownsRow H 24 1 v n (U32 l)) (h1 : 1 ≤ n) :
    ∃ g c, v = .slice (some ⟨g, 0, none⟩) n c ∧ H ≤ g ∧ g < w.heap.size ∧ Reads w g l := by
  rcases h.2 with ⟨_, h0⟩ | ⟨g, c, cur, rfl, hb, hg, _, _, _, _⟩
  · omega
  · refine ⟨g, c, rfl, hb, (Array.getElem?_eq_some_iff.1 hg).1, fun i hi => ?_⟩
    have := h.cells (g := g) rfl i (.int .u32 (l.getD i 0 : Nat)) (by simp [U32, List.getD, hi])
    rwa [Go.WideShapes.add_plain, Nat.zero_add] at this

/-- The round's end: the next two lists. -/
theorem enc_next {w G W : World} {OB cap n f : Nat} {bs ms vs whole : List Nat} {v u : Value} (hgr : w.grownBy G (some OB)) (hOB : OB < G.heap.size) (hbs : bs.length = n) (hw : bs ++ enc f ms vs = whole)
    (hs : Sound ms) (hu : Under ms vs) (h1 : 1 < ms.length) (h3 : ms.length ≤ 100000) (h2 : ms.length ≤ 2 ^ f)
    (hown : Out W OB cap (n + lowLen ms (ms.length / 2)) (bs ++ lowTo ms vs (ms.length / 2)))
    (hnx : W.ownsRow G.heap.size 24 1 v ((ms.length + 1) / 2) (U32 (upV ms vs))) (hnm : W.ownsRow G.heap.size 24 1 u ((ms.length + 1) / 2) (U32 (upM ms))) (hg : G.grownBy W (some OB)) :
    EncInv w OB cap whole (.slice (some ⟨OB, 0, none⟩) (n + lowLen ms (ms.length / 2)) cap) v u W ∧ slen v < ms.length := by
  obtain ⟨g1, c1, rfl, hb1, hl1, hr1⟩ := own_reads hnx (by omega)
  obtain ⟨g2, c2, rfl, hb2, hl2, hr2⟩ := own_reads hnm (by omega)
  refine ⟨?_, by simp only [slen]; omega⟩
  cases f with
  | zero => simp at h2; omega
  | succ f =>
    refine ⟨f, _, g1, c1, g2, c2, bs ++ lowTo ms vs (ms.length / 2), upM ms, upV ms vs, rfl, by rw [upM_length], by rw [upM_length], hown, by rw [List.length_append, hbs, lowTo_length], ?_, upM_sound hs, upV_under hu,
      by rw [upM_length]; omega, by rw [upM_length]; omega, by rw [upM_length]; rw [Nat.pow_succ] at h2; omega, hr1, hr2, by omega, by omega, hl1, hl2, grown_trans hgr hg (fun x hx => by simp at hx; exact .inl hx.symm)⟩
    rw [← hw, enc, if_neg (by omega), List.append_assoc]

/-- The rounds' start. -/
theorem enc_start {w wr : World} {OB cap vb vc m : Nat} {vs : List Nat} (hO : Out w OB cap 0 []) (hne : vb ≠ OB) (hV : Reads w vb vs) (hvb : vb < w.heap.size)
    (h1 : 1 ≤ vs.length) (hL : vs.length ≤ 100000) (hm1 : 1 ≤ m) (hm2 : m < 16384) (hvm : ∀ i, i < vs.length → vs.getD i 0 < m)
    (hrow : wr.rowIs w.heap.size 24 vs.length (fun j => .int .u32 (if j < vs.length then (m : Int) else 0))) (hbel : Below w.heap.size w wr) (hz : wr.heap.size = w.heap.size + 1) :
    EncInv w OB cap (enc 20 (List.replicate vs.length m) vs) (.slice (some ⟨OB, 0, none⟩) 0 cap) (.slice (some ⟨vb, 0, none⟩) vs.length vc) (.slice (some ⟨w.heap.size, 0, none⟩) vs.length vs.length) wr := by
  have hOB : OB < w.heap.size := hO.lt
  have hgr : w.grownBy wr (some OB) := ⟨hbel.os, hbel.tape, hbel.output, hbel.size, fun k hk _ => hbel.block k hk⟩
  have hgr0 : w.grownBy wr none := ⟨hbel.os, hbel.tape, hbel.output, hbel.size, fun k hk _ => hbel.block k hk⟩
  have hrep : ∀ i, i < vs.length → (List.replicate vs.length m).getD i 0 = m := fun i hi => by simp [List.getD, hi]
  refine ⟨20, 0, vb, vc, w.heap.size, vs.length, [], List.replicate vs.length m, vs, rfl, by simp, by simp, hO.kept hgr0 (by simp), rfl, by simp, ?_, ⟨by simp, ?_⟩, by simpa using h1, by simpa using hL,
    by simp; omega, hV.kept hgr hvb (by simpa using hne), ?_, hne, by omega, by omega, by omega, hgr⟩
  · intro i hi
    rw [List.length_replicate] at hi
    rw [hrep i hi]; exact ⟨hm1, hm2⟩
  · intro i hi
    rw [List.length_replicate] at hi
    rw [hrep i hi]; exact hvm i hi
  · intro i hi
    rw [List.length_replicate] at hi
    rw [hrow.cell hi, hrep i hi, if_pos hi]

theorem pair_start {G : World} {OB cap n : Nat} {bs ms vs : List Nat} (hown : Out G OB cap n bs) :
    PairInv G OB cap n bs ms vs (.slice (some ⟨OB, 0, none⟩) n cap) (.slice none 0 0) (.slice none 0 0) (.int .i64 0) G :=
  ⟨0, rfl, by omega, rfl, by simpa [lowTo, lowLen] using hown, World.ownsRow_nil _ _ _ _, World.ownsRow_nil _ _ _ _, fun k h => by simp [Value.ownBlock] at h, World.grownBy.refl _ _⟩

theorem byte_start {wi : World} {OB cap n nq : Nat} {bs : List Nat} {V N : Nat} {Y Z : Int} (hown : Out wi OB cap n bs) (HP : Hid (Y = (V : Int) ∧ Z = (N : Int))) (h1 : 1 ≤ N ∧ N < 268435456) (h2 : V < N) :
    ByteInv wi OB cap n bs V N (.slice (some ⟨OB, 0, none⟩) n cap) (.int .u32 Y) (.int .u32 Z) (wi.drewN nq) := by
  have hp := HP.out
  refine ⟨0, Y, Z, Nat.zero_le _, rfl, rfl, ⟨by simpa using hp.1, hp.2⟩, by omega, by omega, by omega, by omega, rfl, ?_, grown_drewN _ _ _⟩
  rw [Nat.add_zero]
  simp only [bytesOf, List.append_nil]
  exact hown.drewN _

/-- What the last loop keeps. -/
def LastInv (w : World) (OB cap n : Nat) (bs : List Nat) (V N : Nat) (o v u : Value) (wk : World) : Prop :=
  ∃ (q : Nat) (y z : Int), q ≤ k1 N ∧ v = .int .u32 y ∧ u = .int .u32 z ∧ Hid (y = ((V / 256 ^ q : Nat) : Int) ∧ z = (downs q N : Int)) ∧ 0 ≤ y ∧ y ≤ 268435456 ∧ 1 ≤ z ∧ z ≤ 268435456 ∧
    o = .slice (some ⟨OB, 0, none⟩) (n + q) cap ∧ Out wk OB cap (n + q) (bs ++ bytesOf V q) ∧ w.grownBy wk (some OB)

theorem last_start {wi w : World} {OB cap n nq : Nat} {bs : List Nat} {V N : Nat} {Y Z : Int} (hown : Out wi OB cap n bs) (HP : Hid (Y = (V : Int) ∧ Z = (N : Int))) (h1 : 1 ≤ N ∧ N < 16384) (h2 : V < N) (hg : w.grownBy wi (some OB)) :
    LastInv w OB cap n bs V N (.slice (some ⟨OB, 0, none⟩) n cap) (.int .u32 Y) (.int .u32 Z) (wi.drewN nq) := by
  have hp := HP.out
  refine ⟨0, Y, Z, Nat.zero_le _, rfl, rfl, ⟨by simpa using hp.1, hp.2⟩, by omega, by omega, by omega, by omega, rfl, ?_, grown_trans hg (grown_drewN _ _ none) (fun _ e => by cases e)⟩
  rw [Nat.add_zero]
  simp only [bytesOf, List.append_nil]
  exact hown.drewN _

theorem enc_one (f : Nat) (ms vs : List Nat) (h : ms.length ≤ 1) : enc f ms vs = bytesOf (vs.getD 0 0) (k1 (ms.getD 0 0)) := by
  cases f with
  | zero => rfl
  | succ f => unfold enc; rw [if_pos h]

/-- What encode hands back: the bytes lie in the row that it was handed. -/
def EncEnd (w : World) (OB cap : Nat) (whole : List Nat) (e : Ending) (w' : World) : Prop :=
  e = .returned (.slice (some ⟨OB, 0, none⟩) whole.length cap) ∧ Out w' OB cap whole.length whole ∧ w.grownBy w' (some OB)

set_option maxRecDepth 100000 in
set_option maxHeartbeats 1000000 in
theorem encode_any (OB cap vb vc m : Nat) (vs : List Nat) (w : World) (hO : Out w OB cap 0 [])
    (hne : vb ≠ OB) (hV : Reads w vb vs) (hvb : vb < w.heap.size) (h1 : 1 ≤ vs.length) (hL : vs.length ≤ 100000) (hm1 : 1 ≤ m) (hm2 : m < 16384)
    (hvm : ∀ i, i < vs.length → vs.getD i 0 < m) (hfit : encLen 20 (List.replicate vs.length m) ≤ cap) :
    Calls Try.prog 20 #[.slice (some ⟨OB, 0, none⟩) 0 cap, .slice (some ⟨vb, 0, none⟩) vs.length vc, .int .u32 (m : Int)] w fun e w' =>
      EncEnd w OB cap (enc 20 (List.replicate vs.length m) vs) e w' := by
  have hmk := run_make_row' (P := Try.prog) 23 24 (.int .u32 0) 4 Try.underlying23 Try.info24 rfl .i64 .i64 vs.length (by omega) (by omega)
  go_enter Try.func20, Try.ntmps20
  go_wp2
  clear hmk
  go_loopw [8, 21] (fun _ i wr => ∃ k : Nat, k ≤ vs.length ∧ i = .int .i64 k ∧ wr.rowIs w.heap.size 24 vs.length (fun j => .int .u32 (if j < k then (m : Int) else 0)) ∧ Below w.heap.size w wr ∧ wr.heap.size = w.heap.size + 1) (fun _ i _ => vs.length - (intOf i).toNat)
  case atStart => exact ⟨0, by omega, rfl, (World.rowIs_made _ _ _ _).congr (fun i _ => by simp), (Below.refl _ _).alloc (Nat.le_refl _) _, by simp⟩
  case round =>
    obtain ⟨k, hk, rfl, hrow, hbel, hz⟩ := hrel
    by_cases hlt : (k : Int) < vs.length
    · have hc := hrow.cell (i := k) (by omega)
      have hf := hrow.frozen k
      go_wp2
      go_roundw
      case rel =>
        refine ⟨k + 1, by omega, by go_num, (hrow.set k _).congr (fun j _ => ?_), hbel.setCell (Nat.le_refl _) _, by simpa using hz⟩
        by_cases e : j = k
        · subst e; simp
        · simp only [e, if_false]
          by_cases h : j < k
          · rw [if_pos h, if_pos (by omega)]
          · rw [if_neg h, if_neg (by omega)]
      case measure => simp [intOf]; omega
    · have e : k = vs.length := by omega
      subst e
      go_wp2
      go_loopw [0, 1, 7] (fun o v u wr => EncInv w OB cap (enc 20 (List.replicate vs.length m) vs) o v u wr) (fun _ v _ _ => slen v)
      case atStart => exact enc_start hO hne hV hvb h1 hL hm1 hm2 hvm hrow hbel hz
      case round =>
        clear hrow hbel hz hO hV hne hvb
        obtain ⟨f, n, vb, vc, mb, mc, bs, ms, vs', rfl, rfl, rfl, hown, hbs, hwhole, hsound, hunder, hl1, hl3, hl2, hrv, hrm, hne1, hne2, hlt1, hlt2, hgr⟩ := hrel
        rename World => G
        have hOB : OB < G.heap.size := hown.lt
        by_cases hbig : 1 < (ms.length : Int)
        · go_wp2
          go_loopw [0, 9, 10, 11] (fun o nx nm i wi => PairInv G OB cap n bs ms vs' o nx nm i wi) (fun _ _ _ i _ => ms.length - (intOf i).toNat)
          case atStart => exact pair_start hown
          case round =>
            obtain ⟨j, rfl, hj, rfl, hown2, hnx, hnm, hap, hgr2⟩ := hrel
            rename World => wi
            by_cases hin : 2 * (j : Int) + 1 < ms.length
            · have hv2 := hrv.kept hgr2 hlt1 (by simpa using hne1)
              have hm2 := hrm.kept hgr2 hlt2 (by simpa using hne2)
              have c1 := hv2 (2 * j) (by rw [hunder.1]; omega)
              have c2 := hv2 (2 * j + 1) (by rw [hunder.1]; omega)
              have c3 := hm2 (2 * j) (by omega)
              have c4 := hm2 (2 * j + 1) (by omega)
              have hpn := pN_bd hsound (j := j) (by omega)
              obtain ⟨A0, A1, M0, M1, X, Y, Z, hA0, hA1, hM0, hM1, hX, hY, hZ, HP⟩ := pair_words hsound hunder (j := j) (by omega)
              rw [hA0] at c1
              rw [hA1] at c2
              rw [hM0] at c3
              rw [hM1] at c4
              clear hA0 hA1 hM0 hM1 hv2 hm2
              have hroom := room (j := j) hbs hwhole (by rw [enc_length]; exact hfit) (by omega) hl2 (by omega)
              have hpv := pV_lt hunder (j := j) (by omega)
              go_wp2
              go_quiet (fail)
              go_wp2
              have HYZ : Hid ((A0 + X) % 4294967296 = (pV ms vs' j : Int) ∧ M0 * M1 % 4294967296 = (pN ms j : Int)) := by rw [hY, hZ]; exact HP
              clear hX hY hZ c1 c2 c3 c4
              go_loopw [0, 12, 13] (fun o v u wk => ByteInv wi OB cap (n + lowLen ms j) (bs ++ lowTo ms vs' j) (pV ms vs' j) (pN ms j) o v u wk) (fun _ _ u _ => (intOf u).toNat)
              case atStart => exact byte_start hown2 HYZ hpn hpv
              case round =>
                obtain ⟨q, y, z, hq, rfl, rfl, HV, hy0, hy1, hz0, hz1, rfl, hown3, hgr3⟩ := hrel
                by_cases hqk : q < kk (pN ms j)
                · have hz2 : 16384 ≤ z := by have := HV.out; have := downs_big q _ hqk; omega
                  have hk1 : y % 256 = ((pV ms vs' j / 256 ^ q % 256 : Nat) : Int) := by have := HV.out; omega
                  have HK : Hid (y % 256 = ((pV ms vs' j / 256 ^ q % 256 : Nat) : Int)) := hk1
                  clear hk1
                  go_wp2_with (at_builtin; go_must (refine app_u8 _ rfl _ _ rfl OB _ cap _ rfl hown3 _ _ HK.out rfl (by have := hroom; simp only [lowLen] at this; omega) ?_; intro w3 hown4 hgr4))
                  go_roundw
                  case rel =>
                    have hv := HV.out
                    have hd := div_step (pV ms vs' j) q
                    unfold ByteInv
                    refine ⟨q + 1, _, _, by omega, rfl, rfl, ⟨?_, ?_⟩, by omega, by omega, by omega, by omega, rfl, ?_, ?_⟩
                    · omega
                    · simp only [downs]; unfold down; omega
                    · rw [bytesOf_snoc, ← List.append_assoc]; exact hown4
                    · exact grown_trans hgr3 hgr4 (fun x hx => by simp at hx; exact .inl hx.symm)
                  case measure => simp [intOf]; omega
                · have eq : q = kk (pN ms j) := by omega
                  subst eq
                  have hv := HV.out
                  rw [downs_kk] at hv
                  have hz2 : ¬ 16384 ≤ z := by have := left_small _ hpn.2; omega
                  have HY : Hid (y = ((pV ms vs' j / 256 ^ kk (pN ms j) : Nat) : Int)) := hv.1
                  have HZ : Hid (z = (left (pN ms j) : Int)) := hv.2
                  have hnx3 := own_kept hnx hgr3 hOB
                  have hnm3 := own_kept hnm hgr3 hOB
                  have hgr4 := grown_trans hgr2 hgr3 (fun x hx => by simp at hx; exact .inl hx.symm)
                  have hsz := hgr4.size
                  rename World => wk
                  clear HV hv
                  go_wp2_with (first
                    | (at_builtin; refine app_u32 _ rfl (.tmp 76) (.tmp 78) rfl _ hsz u9 j _ rfl hnx3 _ _ HY.out rfl (by omega) ?_; intro nx1 w4 hnx4 hg4 hb4)
                    | (at_builtin; refine app_u32 _ rfl (.tmp 80) (.tmp 82) rfl _ (Nat.le_trans hsz hg4.size) u10 j _ rfl (apart_kept hnm3 hg4 hap) _ _ HZ.out rfl (by omega) ?_; intro nm1 w5 hnm5 hg5 hb5))
                  go_roundw
                  case rel =>
                    have hnx5 := apart_kept hnx4 hg5 ((apart_new hnm3 hb4.out hap).symm)
                    have hap5 : Apart nx1 nm1 := (apart_new hnx4 hb5.out (apart_new hnm3 hb4.out hap).symm).symm
                    have hgr5 := grown_own (grown_own hgr4 hnx3 hg4) (apart_kept hnm3 hg4 hap) hg5
                    have hown5 := bytes_kept (bytes_kept hown3 hnx3 hg4 hOB) (apart_kept hnm3 hg4 hap) hg5 hOB
                    unfold PairInv
                    refine ⟨j + 1, by go_num, by omega, ?_, ?_, ?_, ?_, hap5, hgr5⟩
                    · simp only [lowLen]; rw [Nat.add_assoc]
                    · simp only [lowLen, lowTo]; rw [← Nat.add_assoc, ← List.append_assoc]; exact hown5
                    · rw [nextV_succ]; exact hnx5
                    · rw [nextM_succ]; exact hnm5
                  case measure => simp [intOf]; omega
            · have ej : j = ms.length / 2 := by omega
              subst ej
              have hv2 := hrv.kept hgr2 hlt1 (by simpa using hne1)
              have hm2 := hrm.kept hgr2 hlt2 (by simpa using hne2)
              by_cases hodd : ms.length % 2 = 1
              · have hodd' : ((ms.length : Int) % 2 == 1) = true := by simp; omega
                have c1 := hv2 (ms.length - 1) (by rw [hunder.1]; omega)
                have c2 := hm2 (ms.length - 1) (by omega)
                obtain ⟨A0, hA0⟩ : ∃ A0 : Int, A0 = ((vs'.getD (ms.length - 1) 0 : Nat) : Int) := ⟨_, rfl⟩
                obtain ⟨M0, hM0⟩ : ∃ M0 : Int, M0 = ((ms.getD (ms.length - 1) 0 : Nat) : Int) := ⟨_, rfl⟩
                rw [← hA0] at c1
                rw [← hM0] at c2
                have HA : Hid (A0 = ((vs'.getD (ms.length - 1) 0 : Nat) : Int)) := hA0
                have HM : Hid (M0 = ((ms.getD (ms.length - 1) 0 : Nat) : Int)) := hM0
                have hS : OddS G wi OB vb mb (ms.length - 1) A0 M0 wi := ⟨hgr2, Nat.le_refl _, c1, c2⟩
                have HS : Hid (OddS G wi OB vb mb (ms.length - 1) A0 M0 wi) := hS
                clear hA0 hM0 hv2 hm2 hS
                have hw1 : IntKind.i64.wrap ((ms.length : Int) - 1) = ((ms.length - 1 : Nat) : Int) := by rw [IntKind.wrap_i64]; omega
                have hw2 : (0 : Int) ≤ ((ms.length - 1 : Nat) : Int) := by omega
                have hw3 : ((ms.length - 1 : Nat) : Int) < (ms.length : Int) := by omega
                have hw4 : ms.length - 1 < ms.length := by omega
                go_wp2
                have hsz := hgr2.size
                go_region_held3 (fun w' => w'.cell? ⟨vb, ms.length - 1, none⟩ = some (.int .u32 A0) ∧ w'.cell? ⟨mb, ms.length - 1, none⟩ = some (.int .u32 M0)) (first | go_keep | exact ⟨c1', c2'⟩ | exact ⟨c1'', c2''⟩)
                  (first
                    | (refine step_u32 _ rfl (.tmp 88) (.tmp 95) rfl G.heap.size ?_ u9 (ms.length / 2) (nextV ms vs' (ms.length / 2)) rfl ?_ wi.heap.size A0 (vs'.getD (ms.length - 1) 0) HA.out rfl ?_ ?_ ?_; (simp; omega); exact (hnx.alloc _).drew; simp; omega; intro nx1 w4 hnx4 hg4 hb4; have oddS := ((HS.out.alloc _).drew).app ((hnx.alloc _).drew) hg4 hlt1 hlt2; have hout4 := bytes_kept ((hown2.alloc _).drew) ((hnx.alloc _).drew) hg4 hOB; have hnm4 := apart_kept ((hnm.alloc _).drew) hg4 hap; have hap4 := hidden (apart_new' ((hnm.alloc _).drew) hb4.out hap); have c1' := oddS.2.2.1; have c2' := oddS.2.2.2; have HO := hidden oddS; clear oddS)
                    | (refine step_u32 _ rfl (.tmp 88) (.tmp 95) rfl G.heap.size ?_ u9 (ms.length / 2) (nextV ms vs' (ms.length / 2)) rfl ?_ wi.heap.size A0 (vs'.getD (ms.length - 1) 0) HA.out rfl ?_ ?_ ?_; (simp; omega); exact ((hnx.alloc _).alloc _).drew; simp; omega; intro nx1 w4 hnx4 hg4 hb4; have oddS := (((HS.out.alloc _).alloc _).drew).app (((hnx.alloc _).alloc _).drew) hg4 hlt1 hlt2; have hout4 := bytes_kept (((hown2.alloc _).alloc _).drew) (((hnx.alloc _).alloc _).drew) hg4 hOB; have hnm4 := apart_kept (((hnm.alloc _).alloc _).drew) hg4 hap; have hap4 := hidden (apart_new' (((hnm.alloc _).alloc _).drew) hb4.out hap); have c1' := oddS.2.2.1; have c2' := oddS.2.2.2; have cB := hg4.cell (a := ⟨(wi.heap.size + 1), 0, none⟩) (v := .int .u32 M0) (by simp) (ne_own (k := wi.heap.size + 1) hnx (Nat.le_succ _)); have HO := hidden oddS; clear oddS)
                    | (refine step_u32 _ rfl (.tmp 88) (.tmp 95) rfl G.heap.size ?_ u9 (ms.length / 2) (nextV ms vs' (ms.length / 2)) rfl ?_ (wi.heap.size + 1) A0 (vs'.getD (ms.length - 1) 0) HA.out rfl ?_ ?_ ?_; (simp; omega); exact ((hnx.alloc _).alloc _).drew; simp; omega; intro nx1 w4 hnx4 hg4 hb4; have oddS := (((HS.out.alloc _).alloc _).drew).app (((hnx.alloc _).alloc _).drew) hg4 hlt1 hlt2; have hout4 := bytes_kept (((hown2.alloc _).alloc _).drew) (((hnx.alloc _).alloc _).drew) hg4 hOB; have hnm4 := apart_kept (((hnm.alloc _).alloc _).drew) hg4 hap; have hap4 := hidden (apart_new' (((hnm.alloc _).alloc _).drew) hb4.out hap); have c1' := oddS.2.2.1; have c2' := oddS.2.2.2; have cB := hg4.cell (a := ⟨wi.heap.size, 0, none⟩) (v := .int .u32 M0) (by simp) (ne_own (k := wi.heap.size) hnx (Nat.le_refl _)); have HO := hidden oddS; clear oddS)
                    | (refine step_u32 _ rfl (.tmp 97) (.tmp 104) rfl G.heap.size ?_ u10 (ms.length / 2) (nextM ms (ms.length / 2)) rfl ?_ w4.heap.size M0 (ms.getD (ms.length - 1) 0) HM.out rfl ?_ ?_ ?_; (have := HO.out.2.1; simp; omega); exact hnm4.alloc _; simp; omega; intro nm1 w5 hnm5 hg5 hb5; have oddS := (HO.out.alloc _).app (hnm4.alloc _) hg5 hlt1 hlt2; have hout5 := bytes_kept (hout4.alloc _) (hnm4.alloc _) hg5 hOB; have hnx5 := apart_kept (hnx4.alloc _) hg5 hap4.out.symm; have c1'' := oddS.2.2.1; have c2'' := oddS.2.2.2; have HO5 := hidden oddS; clear oddS)
                    | (refine step_u32 _ rfl (.tmp 97) (.tmp 104) rfl G.heap.size ?_ u10 (ms.length / 2) (nextM ms (ms.length / 2)) rfl ?_ wi.heap.size M0 (ms.getD (ms.length - 1) 0) HM.out rfl ?_ ?_ ?_; (have := HO.out.2.1; simp; omega); exact hnm4; exact cB; omega; intro nm1 w5 hnm5 hg5 hb5; have oddS := (HO.out).app (hnm4) hg5 hlt1 hlt2; have hout5 := bytes_kept (hout4) (hnm4) hg5 hOB; have hnx5 := apart_kept (hnx4) hg5 hap4.out.symm; have c1'' := oddS.2.2.1; have c2'' := oddS.2.2.2; have HO5 := hidden oddS; clear oddS)
                    | (refine step_u32 _ rfl (.tmp 97) (.tmp 104) rfl G.heap.size ?_ u10 (ms.length / 2) (nextM ms (ms.length / 2)) rfl ?_ (wi.heap.size + 1) M0 (ms.getD (ms.length - 1) 0) HM.out rfl ?_ ?_ ?_; (have := HO.out.2.1; simp; omega); exact hnm4; exact cB; omega; intro nm1 w5 hnm5 hg5 hb5; have oddS := (HO.out).app (hnm4) hg5 hlt1 hlt2; have hout5 := bytes_kept (hout4) (hnm4) hg5 hOB; have hnx5 := apart_kept (hnx4) hg5 hap4.out.symm; have c1'' := oddS.2.2.1; have c2'' := oddS.2.2.2; have HO5 := hidden oddS; clear oddS))
                all_goals
                  go_wp2
                  have fin := enc_next hgr hOB hbs hwhole hsound hunder (by omega) hl3 hl2 hout5 (v := nx1) (u := nm1) (by rw [show (ms.length + 1) / 2 = ms.length / 2 + 1 from by omega, upV, if_pos hodd]; exact hnx5) (by rw [show (ms.length + 1) / 2 = ms.length / 2 + 1 from by omega, upM, if_pos hodd]; exact hnm5) HO5.out.1
                  go_roundw
                  case rel => exact fin.1
                  case measure => exact fin.2
              · have hodd' : ((ms.length : Int) % 2 == 1) = false := by simp; omega
                clear hv2 hm2
                have fin := enc_next hgr hOB hbs hwhole hsound hunder (by omega) hl3 hl2 hown2 (v := u9) (u := u10) (by rw [show (ms.length + 1) / 2 = ms.length / 2 from by omega, upV, if_neg hodd, List.append_nil]; exact hnx) (by rw [show (ms.length + 1) / 2 = ms.length / 2 from by omega, upM, if_neg hodd, List.append_nil]; exact hnm) hgr2
                have FIN := hidden fin
                clear fin
                go_wp2
                go_roundw
                case rel => exact FIN.out.1
                case measure => exact FIN.out.2
        · have hone : ms.length = 1 := by omega
          have c1 := hrv 0 (by rw [hunder.1]; omega)
          have c2 := hrm 0 (by omega)
          obtain ⟨A0, hA0⟩ : ∃ A0 : Int, A0 = ((vs'.getD 0 0 : Nat) : Int) := ⟨_, rfl⟩
          obtain ⟨M0, hM0⟩ : ∃ M0 : Int, M0 = ((ms.getD 0 0 : Nat) : Int) := ⟨_, rfl⟩
          rw [← hA0] at c1
          rw [← hM0] at c2
          have HP : Hid (A0 = ((vs'.getD 0 0 : Nat) : Int) ∧ M0 = ((ms.getD 0 0 : Nat) : Int)) := ⟨hA0, hM0⟩
          have hsd := hsound 0 (by omega)
          have hud := hunder.2 0 (by omega)
          have htot : n + k1 (ms.getD 0 0) ≤ cap := by
            have e : (bs ++ enc f ms vs').length = n + k1 (ms.getD 0 0) := by rw [List.length_append, hbs, enc_one f ms vs' (by omega), bytesOf_length]
            rw [hwhole, enc_length] at e
            omega
          have hl5 : (0 : Int) < (ms.length : Int) := by omega
          have HONE : Hid (ms.length = 1) := hone
          clear hA0 hM0 hone
          go_wp2
          go_quiet (fail)
          go_wp2
          clear c1 c2
          go_loopw [0, 14, 15] (fun o v u wk => LastInv w OB cap n bs (vs'.getD 0 0) (ms.getD 0 0) o v u wk) (fun _ _ u _ => (intOf u).toNat)
          case atStart => exact last_start hown HP hsd hud hgr
          case round =>
            obtain ⟨q, y, z, hq, rfl, rfl, HV, hy0, hy1, hz0, hz1, rfl, hown3, hgr3⟩ := hrel
            by_cases hqk : q < k1 (ms.getD 0 0)
            · have hz2 : 1 < z := by have := HV.out; have := downs_big1 q _ hqk; omega
              have HK : Hid (y % 256 = ((vs'.getD 0 0 / 256 ^ q % 256 : Nat) : Int)) := by have := HV.out; show _ = _; omega
              go_wp2_with (at_builtin; refine app_u8 _ rfl _ _ rfl OB _ cap _ rfl hown3 _ _ HK.out rfl (by omega) ?_; intro w3 hown4 hgr4)
              go_roundw
              case rel =>
                have hv := HV.out
                have hd := div_step (vs'.getD 0 0) q
                unfold LastInv
                refine ⟨q + 1, _, _, by omega, rfl, rfl, ⟨?_, ?_⟩, by omega, by omega, by omega, by omega, rfl, ?_, ?_⟩
                · omega
                · simp only [downs]; unfold down; omega
                · rw [bytesOf_snoc, ← List.append_assoc]; exact hown4
                · exact grown_trans hgr3 hgr4 (fun x hx => by simp at hx; exact .inl hx.symm)
              case measure => simp [intOf]; omega
            · have eq : q = k1 (ms.getD 0 0) := by omega
              subst eq
              have hz2 : ¬ 1 < z := by have := HV.out; have := downs_k1 _ hsd.2; omega
              have htl : (enc 20 (List.replicate vs.length m) vs).length = n + k1 (ms.getD 0 0) := by
                rw [← hwhole, List.length_append, hbs, enc_one f ms vs' (by have := HONE.out; omega), bytesOf_length]
              have HT := hidden htl
              have hbb : bs ++ bytesOf (vs'.getD 0 0) (k1 (ms.getD 0 0)) = enc 20 (List.replicate vs.length m) vs := by
                rw [← hwhole, enc_one f ms vs' (by have := HONE.out; omega)]
              have HBB := hidden hbb
              clear htl hbb
              go_wp2
              go_ret
              unfold EncEnd
              rw [HT.out, ← HBB.out]
              exact ⟨rfl, hown3, hgr3⟩
end Go.Proofs.Qxb6603826a
