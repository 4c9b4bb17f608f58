/- The contract of decodeList at more than one modulus. -/
import Derived.Test.Qxb6603826aRows
import Derived.Test.Qxb6603826aDecOne
import Derived.WalkKit
import Derived.ProofKit
import Derived.OpenShut
import Derived.WalkSpells
import Derived.OwnWalk
import Derived.Deep.OwnRows
import Derived.Deep.QuietTactic
import Derived.BigQuiet
import Derived.BigRegion
import Derived.Deep.RegionHeld3
namespace Go.Proofs.Qxb6603826a
open Go.ChangeShapes Go.WideShapes Go.ChangeAt Go.RowKit

theorem Try.info46 : (Try.prog.info? 46).map (fun i => (i.zero, i.size, i.bytes)) = some (some (.agg #[.int .u32 0, .int .u32 0]), 2, 8) := by kernel_rfl

/-- The cells of the first j pairs: the lower part and its scale. -/
def pairCells (ms vs : List Nat) : Nat → List Value
  | 0 => []
  | j + 1 => pairCells ms vs j ++ [.int .u32 ((pV ms vs j % 256 ^ kk (pN ms j) : Nat) : Int), .int .u32 ((256 ^ kk (pN ms j) : Nat) : Int)]

/-- What the loop over the pairs keeps. -/
def ReadInv (w : World) (G N p : Nat) (ms vs : List Nat) (b ps um i : Value) (wr : World) : Prop :=
  ∃ j o l : Nat, b = .slice (some ⟨G, o, none⟩) l l ∧ Hid (o = min (p + lowLen ms j) (N - 1) ∧ l = N - (p + lowLen ms j)) ∧ i = .int .i64 (2 * (j : Int)) ∧ 2 * j ≤ ms.length ∧
    ps = .slice (some ⟨w.heap.size, 0, none⟩) j (ms.length / 2) ∧ wr.ownsRow w.heap.size 46 2 (.slice (some ⟨w.heap.size, 0, none⟩) j (ms.length / 2)) j (pairCells ms vs j) ∧
    wr.ownsRow (w.heap.size + 1) 24 1 um j (U32 (nextM ms j)) ∧ Below w.heap.size w wr ∧ w.heap.size + 1 ≤ wr.heap.size

theorem lowTo_split (ms vs : List Nat) (j k : Nat) (h : j < k) : ∃ r, lowTo ms vs k = lowTo ms vs j ++ (bytesOf (pV ms vs j) (kk (pN ms j)) ++ r) := by
  induction k with
  | zero => omega
  | succ k ih =>
    by_cases e : j = k
    · subst e; exact ⟨[], by simp [lowTo]⟩
    · obtain ⟨r, hr⟩ := ih (by omega)
      exact ⟨r ++ bytesOf (pV ms vs k) (kk (pN ms k)), by simp [lowTo, hr]⟩

/-- The bytes of pair j lie where its reading begins. -/
theorem low_byte {BS tail ms vs : List Nat} {p j q n : Nat} (hd : BS.drop p = lowTo ms vs n ++ tail) (hj : j < n) (hq : q < kk (pN ms j)) :
    p + lowLen ms j + q < BS.length ∧ BS.getD (p + lowLen ms j + q) 0 = pV ms vs j / 256 ^ q % 256 := by
  obtain ⟨r, hr⟩ := lowTo_split ms vs j n hj
  have hd2 : BS.drop (p + lowLen ms j) = bytesOf (pV ms vs j) (kk (pN ms j)) ++ (r ++ tail) := by
    rw [← List.drop_drop, hd, hr, List.append_assoc, List.drop_left' (lowTo_length ms vs j), List.append_assoc]
  have := get_at hd2 (q := q) (by rw [bytesOf_length]; exact hq)
  rw [bytesOf_get _ _ _ hq] at this
  exact this

/-- The struct 'lower' in its block. -/
def lowRow (y sc : Int) : Nat → Value := fun i => if i = 0 then .int .u32 y else .int .u32 sc

/-- What the loop over one pair's bytes keeps. -/
def LowInv (wi : World) (G N p V M : Nat) (b u : Value) (wk : World) : Prop :=
  ∃ (q o l : Nat) (y sc z : Int), q ≤ kk M ∧ b = .slice (some ⟨G, o, none⟩) l l ∧ u = .int .u32 z ∧
    Hid (z = (downs q M : Int) ∧ o = min (p + q) (N - 1) ∧ l = N - (p + q) ∧ y = ((V % 256 ^ q : Nat) : Int) ∧ sc = ((256 ^ q : Nat) : Int)) ∧ 1 ≤ z ∧ z ≤ 268435456 ∧
    wk.rowIs wi.heap.size 46 2 (lowRow y sc) ∧ Below wi.heap.size wi wk ∧ wk.heap.size = wi.heap.size + 1

theorem low_start {wi : World} {G N p o l nq V M : Nat} {Z : Int} (HO : Hid (o = min p (N - 1) ∧ l = N - p)) (HZ : Hid (Z = (M : Int))) (h1 : 1 ≤ M ∧ M < 268435456) :
    LowInv wi G N p V M (.slice (some ⟨G, o, none⟩) l l) (.int .u32 Z) ((wi.alloc (.cells #[.int .u32 0, .int .u32 1] 46)).drewN nq) := by
  have ho := HO.out
  have hz := HZ.out
  refine ⟨0, o, l, 0, 1, Z, Nat.zero_le _, rfl, rfl, ⟨hz, ho.1, ho.2, by simp [Nat.mod_one], rfl⟩, by omega, by omega, ?_, ?_, by simp⟩
  · refine World.rowIs_alloc wi _ 46 (lowRow 0 1) (fun i hi => ?_)
    match i, hi with
    | 0, _ => rfl
    | 1, _ => rfl
  · have h := (Below.refl wi.heap.size wi).alloc (Nat.le_refl _) (.cells #[.int .u32 0, .int .u32 1] 46)
    exact ⟨h.os, h.tape, h.output, h.size, h.block⟩

theorem news_two (w : World) (x y : Value) (t : TypeId) : ∀ j u, [x, y][j]? = some u → (w.alloc (.cells #[x, y] t)).cell? ((⟨w.heap.size, 0, none⟩ : Addr).add j) = some u := by
  intro j u h
  match j, h with
  | 0, h =>
    simp at h; subst h
    show (w.alloc (.cells #[x, y] t)).cell? ⟨w.heap.size, 0, none⟩ = _
    rw [World.cell?_alloc_new]; rfl
  | 1, h =>
    simp at h; subst h
    show (w.alloc (.cells #[x, y] t)).cell? ⟨w.heap.size, 1, none⟩ = _
    rw [World.cell?_alloc_new]; rfl
  | j + 2, h => simp at h

/-- 'append(pairs, l)' within the capacity. -/
theorem app_pair (w : World) {ops : Array Oper} {rest : List Oper} {o : Oper} {a : Act} {Q : Exit → Act → World → Prop} (hgd : o.guard = none) (s x : Operand)
    (ho : o.op = .call { callee := .builtin .append, args := #[s, x], argTypes := #[44, 44] }) (base g n cap : Nat) (xs : List Value) (hs : a.eval s = .slice (some ⟨g, 0, none⟩) n cap)
    (hown : w.ownsRow base 46 2 (.slice (some ⟨g, 0, none⟩) n cap) n xs) (y sc : Int) (hx : a.eval x = .slice (some ⟨w.heap.size, 0, none⟩) 1 1) (hn : n + 1 ≤ cap)
    (h : ∀ w', w'.ownsRow base 46 2 (.slice (some ⟨g, 0, none⟩) (n + 1) cap) (n + 1) (xs ++ [.int .u32 y, .int .u32 sc]) → w.grownBy w' (some g) → wpList Try.prog ops Q rest (a.put o.dst (.slice (some ⟨g, 0, none⟩) (n + 1) cap)) w') :
    wpList Try.prog ops Q (o :: rest) a (w.alloc (.cells #[.int .u32 y, .int .u32 sc] 46)) := by
  obtain ⟨i, hi, _, hsz, _⟩ := info_at Try.info46
  refine wpList_append_fits _ hgd s x 44 ho base 46 i 2 Try.underlying44 hi hsz g n cap xs hs (hown.alloc _) ⟨w.heap.size, 0, none⟩ 1 1 [.int .u32 y, .int .u32 sc] hx rfl (news_two w _ _ 46) (by simp [Value.oneCell']) hn ?_
  intro w' h1 h2
  refine h w' h1 ⟨h2.os, h2.tape, h2.output, Nat.le_trans (by simp) h2.size, fun j hj hr => ?_⟩
  rw [h2.block j (by simp; omega) hr]
  exact Below.heap_alloc w _ j hj

/-- A row of pairs stays, whatever is written elsewhere. -/
theorem pairs_kept {w w' : World} {B g n cap : Nat} {xs : List Value} {row : Option Nat} (h : w.ownsRow B 46 2 (.slice (some ⟨g, 0, none⟩) n cap) n xs) (hg : w.grownBy w' row) (hne : some g ≠ row) : w'.ownsRow B 46 2 (.slice (some ⟨g, 0, none⟩) n cap) n xs :=
  h.kept hg (.inr hne)

theorem below_grown {B : Nat} {w a b : World} {row : Option Nat} (h : Below B w a) (hg : a.grownBy b row) (hr : ∀ k, row = some k → B ≤ k) (hB : B ≤ a.heap.size) : Below B w b := h.grown hg hB hr

theorem bytes_below {w w' : World} {G : Nat} {BS : List Nat} (h : BytesAt w G BS) (hb : Below w.heap.size w w') (hG : G < w.heap.size) : BytesAt w' G BS := fun i hi => (hb.cell (p := ⟨G, i, none⟩) hG).trans (h i hi)

theorem reads_below {w w' : World} {G : Nat} {l : List Nat} {B : Nat} (h : Reads w G l) (hb : Below B w w') (hG : G < B) : Reads w' G l := fun i hi => (hb.cell (p := ⟨G, i, none⟩) hG).trans (h i hi)

/-- What stands behind the call of itself: the pairs, the moduli, all older memory. -/
structure Tail (w w2 : World) (mb : Nat) (ms vs : List Nat) : Prop where
  below : Below w.heap.size w w2
  size : w.heap.size + 1 ≤ w2.heap.size
  pairs : w2.ownsRow w.heap.size 46 2 (.slice (some ⟨w.heap.size, 0, none⟩) (ms.length / 2) (ms.length / 2)) (ms.length / 2) (pairCells ms vs (ms.length / 2))
  mods : Reads w2 mb ms
  lt : mb < w2.heap.size

theorem tail_facts {w w5 w2 : World} {mb : Nat} {ms vs : List Nat} (h5 : Below w.heap.size w w5) (h6 : Below w5.heap.size w5 w2) (hs : w.heap.size + 1 ≤ w5.heap.size)
    (hp : w5.ownsRow w.heap.size 46 2 (.slice (some ⟨w.heap.size, 0, none⟩) (ms.length / 2) (ms.length / 2)) (ms.length / 2) (pairCells ms vs (ms.length / 2))) (hR : Reads w mb ms) (hmb : mb < w.heap.size) : Tail w w2 mb ms vs := by
  have hb := h5.trans (h6.mono h5.size)
  refine ⟨hb, Nat.le_trans hs h6.size, ?_, reads_below hR hb hmb, Nat.lt_of_lt_of_le hmb hb.size⟩
  refine pairs_kept hp (row := none) ⟨h6.os, h6.tape, h6.output, h6.size, fun k hk _ => h6.block k hk⟩ (by simp)

theorem pairCells_length (ms vs : List Nat) (j : Nat) : (pairCells ms vs j).length = j * 2 := by
  induction j with
  | zero => rfl
  | succ j ih => simp only [pairCells, List.length_append, ih, List.length_cons, List.length_nil]; omega

theorem pairCells_get (ms vs : List Nat) (n j : Nat) (h : j < n) :
    (pairCells ms vs n)[2 * j]? = some (.int .u32 ((pV ms vs j % 256 ^ kk (pN ms j) : Nat) : Int)) ∧ (pairCells ms vs n)[2 * j + 1]? = some (.int .u32 ((256 ^ kk (pN ms j) : Nat) : Int)) := by
  induction n with
  | zero => omega
  | succ n ih =>
    have hl := pairCells_length ms vs n
    by_cases e : j = n
    · subst e
      simp only [pairCells]
      constructor
      · rw [List.getElem?_append_right (by omega), hl, show 2 * j - j * 2 = 0 from by omega]; rfl
      · rw [List.getElem?_append_right (by omega), hl, show 2 * j + 1 - j * 2 = 1 from by omega]; rfl
    · have h2 := ih (by omega)
      simp only [pairCells]
      rw [List.getElem?_append_left (by omega), List.getElem?_append_left (by omega)]
      exact h2

theorem pair_cell {w : World} {B n cap i : Nat} {xs : List Value} {u : Value} (h : w.ownsRow B 46 2 (.slice (some ⟨B, 0, none⟩) n cap) n xs) (hu : xs[i]? = some u) : w.cell? ⟨B, i, none⟩ = some u := by
  have := h.cells (g := B) rfl i u hu
  rwa [Go.WideShapes.add_plain, Nat.zero_add] at this

/-- The words of one pair read back, as the walk reckons them. -/
theorem back_words {ms vs : List Nat} (hs : Sound ms) (hu : Under ms vs) {k : Nat} (h : 2 * k + 1 < ms.length) :
    ∃ P0 S0 U0 M0 M1 X Y : Int, ((pV ms vs k % 256 ^ kk (pN ms k) : Nat) : Int) = P0 ∧ ((256 ^ kk (pN ms k) : Nat) : Int) = S0 ∧ (((upV ms vs).getD k 0 : Nat) : Int) = U0 ∧ ((ms.getD (2 * k) 0 : Nat) : Int) = M0 ∧ ((ms.getD (2 * k + 1) 0 : Nat) : Int) = M1 ∧
      S0 * U0 % 4294967296 = X ∧ (P0 + X) % 4294967296 = Y ∧ 1 ≤ M0 ∧ 1 ≤ M1 ∧ M0 ≤ 16384 ∧ M1 ≤ 16384 ∧ 0 ≤ Y ∧ Y ≤ 268435456 ∧ Hid (Y % M0 = ((vs.getD (2 * k) 0 : Nat) : Int) ∧ Y / M0 % M1 = ((vs.getD (2 * k + 1) 0 : Nat) : Int)) := by
  have h1 := pV_lt hu h
  have h2 := pN_bd hs h
  have a := hs (2 * k) (by omega)
  have b := hs (2 * k + 1) h
  have ua := hu.2 (2 * k) (by omega)
  have ub := hu.2 (2 * k + 1) h
  have e0 : (upV ms vs).getD k 0 = pV ms vs k / 256 ^ kk (pN ms k) := upV_get ms vs k (by omega)
  have e1 : pV ms vs k % 256 ^ kk (pN ms k) + 256 ^ kk (pN ms k) * (pV ms vs k / 256 ^ kk (pN ms k)) = pV ms vs k := Nat.mod_add_div _ _
  have eY : (((pV ms vs k % 256 ^ kk (pN ms k) : Nat) : Int) + ((256 ^ kk (pN ms k) : Nat) : Int) * (((upV ms vs).getD k 0 : Nat) : Int) % 4294967296) % 4294967296 = (pV ms vs k : Int) := by
    rw [e0, ← Int.natCast_mul]
    generalize hx : 256 ^ kk (pN ms k) * (pV ms vs k / 256 ^ kk (pN ms k)) = x at *
    omega
  refine ⟨_, _, _, _, _, _, _, rfl, rfl, rfl, rfl, rfl, rfl, rfl, by omega, by omega, by omega, by omega, by rw [eY]; omega, by rw [eY]; omega, ?_, ?_⟩
  · rw [eY, ← Int.natCast_emod, pV, pair_fst _ _ _ ua]
  · rw [eY, ← Int.natCast_ediv, ← Int.natCast_emod, pV, pair_snd _ _ _ _ ua ub]

/-- 'append(values, x, y)' within the capacity, as one step of a region that draws. -/
theorem step_two (w : World) {ops : Array Oper} {o : Oper} {a : Act} {K : Act → World → Prop} {Q : Exit → Act → World → Prop} {E : Prop} (hgd : o.guard = none) (s x : Operand)
    (ho : o.op = .call { callee := .builtin .append, args := #[s, x], argTypes := #[23, 23] }) (base g n cap : Nat) (l : List Nat) (hs : a.eval s = .slice (some ⟨g, 0, none⟩) n cap)
    (hown : w.ownsRow base 24 1 (.slice (some ⟨g, 0, none⟩) n cap) n (U32 l)) (nb : Nat) (y0 y1 : Int) (k0 k1 : Nat) (hy0 : y0 = (k0 : Int)) (hy1 : y1 = (k1 : Int)) (hx : a.eval x = .slice (some ⟨nb, 0, none⟩) 2 2)
    (hc0 : w.cell? ⟨nb, 0, none⟩ = some (.int .u32 y0)) (hc1 : w.cell? ⟨nb, 1, none⟩ = some (.int .u32 y1)) (hn : n + 2 ≤ cap)
    (h : ∀ w', w'.ownsRow base 24 1 (.slice (some ⟨g, 0, none⟩) (n + 2) cap) (n + 2) (U32 (l ++ [k0, k1])) → w.grownBy w' (some g) → K (a.put o.dst (.slice (some ⟨g, 0, none⟩) (n + 2) cap)) w') :
    if Region.wanted o (yielded ops a.tmps) = true then Oper.wp Try.prog o a w K Q else E := by
  subst hy0 hy1
  have hw : Region.wanted o (yielded ops a.tmps) = true := by simp [Region.wanted, hgd]
  rw [if_pos hw]
  obtain ⟨i, hi, _, hsz, _⟩ := info_at Try.info24
  obtain ⟨w', hr, h2, h3⟩ := run_append_fits (P := Try.prog) w base 23 o.type 24 i 1 Try.underlying23 hi hsz g n cap (U32 l) hown ⟨nb, 0, none⟩ 2 2 [.int .u32 (k0 : Int), .int .u32 (k1 : Int)] rfl (fun j u hu => by
    match j, hu with
    | 0, hu => simp at hu; subst hu; exact hc0
    | 1, hu => simp at hu; subst hu; exact hc1
    | j + 2, hu => simp at hu) (by simp [Value.oneCell']) hn
  unfold Oper.wp
  simp [execOp, ho, resolve, invoke, builtin, hs, hx, hr, Result.andThen]
  refine h w' ?_ h3
  have e : U32 (l ++ [k0, k1]) = U32 l ++ [.int .u32 (k0 : Int), .int .u32 (k1 : Int)] := by simp [U32]
  rw [e]; exact h2

theorem take_two (vs : List Nat) (k : Nat) (h : 2 * k + 1 < vs.length) : vs.take (2 * k) ++ [vs.getD (2 * k) 0, vs.getD (2 * k + 1) 0] = vs.take (2 * (k + 1)) := by
  rw [show 2 * (k + 1) = (2 * k + 1) + 1 from by omega, List.take_succ_eq_append_getElem h, List.take_succ_eq_append_getElem (by omega : 2 * k < vs.length), List.append_assoc]
  simp [List.getD, h, show 2 * k < vs.length by omega]

theorem own_base {w : World} {B B' n : Nat} {v : Value} {xs : List Value} (h : w.ownsRow B 24 1 v n xs) (hb : B' ≤ B) : w.ownsRow B' 24 1 v n xs := by
  refine ⟨h.1, ?_⟩
  rcases h.2 with h0 | ⟨g, c, cur, e, h1, h2⟩
  · exact .inl h0
  · exact .inr ⟨g, c, cur, e, Nat.le_trans hb h1, h2⟩

/-- What the loop that reads the values back keeps. -/
def ValInv (w2 : World) (ms vs : List Nat) (va c : Value) (wr : World) : Prop :=
  ∃ k : Nat, k ≤ ms.length / 2 ∧ c = .int .i64 (k : Int) ∧ va = .slice (some ⟨w2.heap.size, 0, none⟩) (2 * k) ms.length ∧
    wr.ownsRow w2.heap.size 24 1 (.slice (some ⟨w2.heap.size, 0, none⟩) (2 * k) ms.length) (2 * k) (U32 (vs.take (2 * k))) ∧ Below w2.heap.size w2 wr ∧ w2.heap.size + 1 ≤ wr.heap.size

theorem val_start {w2 w3 : World} {ms vs : List Nat} (h : w3.ownsRow w2.heap.size 24 1 (.slice (some ⟨w2.heap.size, 0, none⟩) 0 ms.length) 0 []) (hg : w2.grownBy w3 none) :
    ValInv w2 ms vs (.slice (some ⟨w2.heap.size, 0, none⟩) 0 ms.length) (.int .i64 0) w3 :=
  ⟨0, Nat.zero_le _, rfl, rfl, by simpa [U32] using h, ⟨hg.os, hg.tape, hg.output, hg.size, fun k hk => hg.block k hk (by simp)⟩, by have := (h.lt w2.heap.size rfl).2; omega⟩

theorem low_step {wi wk : World} {G N p V M q o l o' l' : Nat} {y sc z y' sc' B : Int} (hq : q < kk M) (HQ : Hid (z = (downs q M : Int) ∧ o = min (p + q) (N - 1) ∧ l = N - (p + q) ∧ y = ((V % 256 ^ q : Nat) : Int) ∧ sc = ((256 ^ q : Nat) : Int)))
    (HB : Hid (((V / 256 ^ q % 256 : Nat) : Int) = B)) (hz1 : z ≤ 268435456) (hz2 : 16384 ≤ z) (hrow : wk.rowIs wi.heap.size 46 2 (lowRow y sc)) (hbel : Below wi.heap.size wi wk) (hsz : wk.heap.size = wi.heap.size + 1)
    (hy' : y' = y + B * sc) (hs' : sc' = sc * 256) (ho' : o' = min (p + (q + 1)) (N - 1)) (hl' : l' = N - (p + (q + 1))) :
    LowInv wi G N p V M (.slice (some ⟨G, o', none⟩) l' l') (.int .u32 ((z + 255) / 256)) ((wk.setCell ⟨wi.heap.size, 0, none⟩ (.int .u32 y')).setCell ⟨wi.heap.size, 1, none⟩ (.int .u32 sc')).drew.drew := by
  have hh := HQ.out
  have hb := HB.out
  refine ⟨q + 1, o', l', y', sc', _, by omega, rfl, rfl, ⟨by simp only [downs]; unfold down; omega, ho', hl', ?_, ?_⟩, by omega, by omega, ?_, ?_, by simpa using hsz⟩
  · rw [hy', hh.2.2.2.1, hh.2.2.2.2, ← hb, Nat.pow_succ, Nat.mod_mul, Nat.mul_comm (256 ^ q) (V / 256 ^ q % 256), Int.natCast_add, Int.natCast_mul]
  · rw [hs', hh.2.2.2.2, Nat.pow_succ, Int.natCast_mul]; rfl
  · refine World.rowIs.drew (World.rowIs.drew (((hrow.set 0 _).set 1 _).congr fun i hi => ?_))
    match i, hi with
    | 0, _ => rfl
    | 1, _ => rfl
  · exact ((hbel.setCell (p := ⟨wi.heap.size, 0, none⟩) (Nat.le_refl _) _).setCell (p := ⟨wi.heap.size, 1, none⟩) (Nat.le_refl _) _).drew.drew

set_option maxRecDepth 100000 in
set_option maxHeartbeats 1000000 in
theorem dec_many (G o l mb mc p f : Nat) (ms vs BS tail : List Nat) (w : World) (hB : BytesAt w G BS) (hG : G < w.heap.size) (ho : o = min p (BS.length - 1)) (hl : l = BS.length - p)
    (hR : Reads w mb ms) (hmb : mb < w.heap.size) (hs : Sound ms) (hu : Under ms vs) (h2 : 2 ≤ ms.length) (h3 : ms.length ≤ 100000) (hN : BS.length ≤ 100000)
    (hd : BS.drop p = lowTo ms vs (ms.length / 2) ++ (enc f (upM ms) (upV ms vs) ++ tail))
    (IH : ∀ (um : Value) (H o l : Nat) (w' : World), BytesAt w' G BS → G < w'.heap.size → Hid (o = min (p + lowLen ms (ms.length / 2)) (BS.length - 1) ∧ l = BS.length - (p + lowLen ms (ms.length / 2))) →
      w'.ownsRow H 24 1 um ((ms.length + 1) / 2) (U32 (upM ms)) → Calls Try.prog 21 #[.slice (some ⟨G, o, none⟩) l l, um] w' fun e w'' => DecEnd w' G BS.length (p + lowLen ms (ms.length / 2) + encLen f (upM ms)) (upV ms vs) e w'') :
    Calls Try.prog 21 #[.slice (some ⟨G, o, none⟩) l l, .slice (some ⟨mb, 0, none⟩) ms.length mc] w fun e w' => DecEnd w G BS.length (p + lowLen ms (ms.length / 2) + encLen f (upM ms)) vs e w' := by
  have hne1 : ((ms.length : Int) == 1) = false := by simp; omega
  obtain ⟨i46, hi46, hz46, hs46, hb46⟩ := info_at Try.info46
  obtain ⟨i24, hi24, hz24, hs24, hb24⟩ := info_at Try.info24
  have H24 : Hid (Try.prog.info? 24 = some i24 ∧ i24.zero = some (.int .u32 0) ∧ i24.size = 1 ∧ i24.bytes = 4) := ⟨hi24, hz24, hs24, hb24⟩
  have HO : Hid (o = min p (BS.length - 1) ∧ l = BS.length - p) := ⟨ho, hl⟩
  have HD := hidden hd
  have HIH := hidden IH
  clear IH
  have HI : Hid (Try.prog.info? 46 = some i46 ∧ i46.zero = some (.agg #[.int .u32 0, .int .u32 0]) ∧ i46.size = 2 ∧ i46.bytes = 8) := ⟨hi46, hz46, hs46, hb46⟩
  have hC : (ms.length : Int) / 2 = ((ms.length / 2 : Nat) : Int) := by omega
  have HC := hidden hC
  clear ho hl hd hi46 hz46 hs46 hb46 hC hi24 hz24 hs24 hb24
  go_enter Try.func21, Try.ntmps21
  go_wp2_with (at_make; go_must (refine wpList_make_own _ rfl _ _ 44 rfl w.heap.size 46 i46 (.agg #[.int .u32 0, .int .u32 0]) 2 Try.underlying44 HI.out.1 HI.out.2.1 HI.out.2.2.1 .i64 .i64 _ (ms.length / 2) rfl rfl HC.out ?_ ?_ ?_ ?_; (rw [HI.out.2.2.2]; omega); (simp only [maxLen]; omega); exact Nat.le_refl _; intro w1 hp1 hg1))
  go_loopw [0, 9, 10, 11] (fun b ps um i wr => ReadInv w G BS.length p ms vs b ps um i wr) (fun _ _ _ i _ => ms.length - (intOf i).toNat)
  case atStart =>
    refine ⟨0, o, l, rfl, ⟨by have := HO.out.1; simpa [lowLen] using this, by have := HO.out.2; simpa [lowLen] using this⟩, rfl, by omega, rfl, by simpa [pairCells] using hp1, World.ownsRow_nil _ _ _ _, ⟨hg1.os, hg1.tape, hg1.output, hg1.size, fun k hk => hg1.block k hk (by simp)⟩, ?_⟩
    have := (hp1.lt w.heap.size rfl).2
    omega
  case round =>
    clear hp1 hg1
    obtain ⟨j, o, l, rfl, HJ, rfl, hj, rfl, hps, hum, hbel, hsz⟩ := hrel
    by_cases hin : 2 * (j : Int) + 1 < ms.length
    · have hm2 : Reads _ mb ms := hR.kept (row := none) ⟨hbel.os, hbel.tape, hbel.output, hbel.size, fun k hk _ => hbel.block k hk⟩ hmb (by simp)
      have c3 := hm2 (2 * j) (by omega)
      have c4 := hm2 (2 * j + 1) (by omega)
      have hlt2 := Nat.lt_of_lt_of_le hmb hbel.size
      obtain ⟨A0, A1, M0, M1, X, Y, Z, hA0, hA1, hM0, hM1, hX, hY, hZ, HP⟩ := pair_words hs hu (j := j) (by omega)
      rw [hM0] at c3
      rw [hM1] at c4
      have hpn := pN_bd hs (j := j) (by omega)
      have HZ : Hid (M0 * M1 % 4294967296 = (pN ms j : Int)) := by rw [hZ]; exact HP.out.2
      clear hA0 hA1 hM0 hM1 hX hY hZ HP hm2
      rename World => wi
      go_wp2
      go_quiet (fail)
      go_wp2
      clear c3 c4
      go_loopw [0, 13] (fun b u wk => LowInv wi G BS.length (p + lowLen ms j) (pV ms vs j) (pN ms j) b u wk) (fun _ u _ => (intOf u).toNat)
      case atStart => exact low_start HJ HZ hpn
      case round =>
        obtain ⟨q, o, l, y, sc, z, hq, rfl, rfl, HQ, hz0, hz1, hrow, hbel2, hsz2⟩ := hrel
        by_cases hqk : q < kk (pN ms j)
        · have hz2 : 16384 ≤ z := by have := HQ.out; have := downs_big q _ hqk; omega
          have hk2 : kk (pN ms j) ≤ 2 := by unfold kk; split; omega; split <;> omega
          obtain ⟨hgl, hgv⟩ := low_byte HD.out (by omega) hqk
          have hlp : 0 < (l : Int) := by have := HQ.out; omega
          have hcB : _ = some (Value.int IntKind.u8 ((pV ms vs j / 256 ^ q % 256 : Nat) : Int)) := (hbel2.cell (p := ⟨G, p + lowLen ms j + q, none⟩) (Nat.lt_of_lt_of_le hG hbel.size)).trans ((hbel.cell (p := ⟨G, p + lowLen ms j + q, none⟩) hG).trans ((hB _ hgl).trans (by rw [hgv])))
          have eo : p + lowLen ms j + q = o := by have := HQ.out; omega
          rw [eo] at hcB
          obtain ⟨B, hBB⟩ : ∃ B : Int, ((pV ms vs j / 256 ^ q % 256 : Nat) : Int) = B := ⟨_, rfl⟩
          rw [hBB] at hcB
          have hB0 : 0 ≤ B := by omega
          have hB1 : B ≤ 255 := by omega
          have HB := hidden hBB
          have cl0 := hrow.cell (i := 0) (by omega)
          have cl1 := hrow.cell (i := 1) (by omega)
          have fl0 := hrow.frozen 0
          have fl1 := hrow.frozen 1
          simp only [lowRow, if_true, Nat.one_ne_zero, if_false] at cl0 cl1
          have HEO := hidden eo
          clear hBB eo hgl hgv
          have hneG : wi.heap.size ≠ G := by have := hbel.size; omega
          match q, hq, hqk, HQ, HB with
          | 0, hq, hqk, HQ, HB =>
            have hy : y = 0 := by have := HQ.out.2.2.2.1; simpa [Nat.mod_one] using this
            have hsc : sc = 1 := HQ.out.2.2.2.2
            subst hy hsc
            by_cases hl1 : l = 1
            · subst hl1
              go_wp2
              go_region
              go_wp2
              go_region
              go_wp2
              have fin := low_step (o' := o) (l' := 0) hqk HQ HB hz1 hz2 hrow hbel2 hsz2 (y' := B) (sc' := 256) (by omega) (by omega) (by have := HQ.out; omega) (by have := HQ.out; omega) (G := G)
              go_roundw
              case rel => exact fin
              case measure => simp [intOf]; omega
            · have hl2 : 1 < (l : Int) := by omega
              go_wp2
              go_region
              go_wp2
              go_region
              go_wp2
              have fin := low_step (o' := o + 1) (l' := l - 1) hqk HQ HB hz1 hz2 hrow hbel2 hsz2 (y' := B) (sc' := 256) (by omega) (by omega) (by have := HQ.out; omega) (by have := HQ.out; omega) (G := G)
              go_roundw
              case rel => exact fin
              case measure => simp [intOf]; omega
          | 1, hq, hqk, HQ, HB =>
            have hy : 0 ≤ y ∧ y ≤ 255 := by have := HQ.out.2.2.2.1; simp only [Nat.pow_one] at this; omega
            have hsc : sc = 256 := HQ.out.2.2.2.2
            subst hsc
            by_cases hl1 : l = 1
            · subst hl1
              go_wp2
              go_region
              go_wp2
              go_region
              go_wp2
              have fin := low_step (o' := o) (l' := 0) hqk HQ HB hz1 hz2 hrow hbel2 hsz2 (y' := y + B * 256) (sc' := 65536) (by omega) (by omega) (by have := HQ.out; omega) (by have := HQ.out; omega) (G := G)
              go_roundw
              case rel => exact fin
              case measure => simp [intOf]; omega
            · have hl2 : 1 < (l : Int) := by omega
              go_wp2
              go_region
              go_wp2
              go_region
              go_wp2
              have fin := low_step (o' := o + 1) (l' := l - 1) hqk HQ HB hz1 hz2 hrow hbel2 hsz2 (y' := y + B * 256) (sc' := 65536) (by omega) (by omega) (by have := HQ.out; omega) (by have := HQ.out; omega) (G := G)
              go_roundw
              case rel => exact fin
              case measure => simp [intOf]; omega
          | q + 2, hq, hqk, HQ, HB => omega
        · have eq : q = kk (pN ms j) := by omega
          subst eq
          have hz2 : ¬ 16384 ≤ z := by have := HQ.out; rw [downs_kk] at this; have := left_small _ hpn.2; omega
          have cl0 := hrow.cell (i := 0) (by omega)
          have cl1 := hrow.cell (i := 1) (by omega)
          simp only [lowRow, if_true, Nat.one_ne_zero, if_false] at cl0 cl1
          rename World => wk
          have hps2 := pairs_kept hps (row := none) ⟨hbel2.os, hbel2.tape, hbel2.output, hbel2.size, fun k hk _ => hbel2.block k hk⟩ (by simp)
          have hum2 : wk.ownsRow (w.heap.size + 1) 24 1 u10 j (U32 (nextM ms j)) := hum.kept (row := none) ⟨hbel2.os, hbel2.tape, hbel2.output, hbel2.size, fun k hk _ => hbel2.block k hk⟩ (by cases e : u10.ownBlock <;> simp)
          have HSZ : wi.heap.size ≤ wk.heap.size := by omega
          clear hsz2
          have HZZ : Hid (z = (left (pN ms j) : Int)) := by have := HQ.out; rw [downs_kk] at this; exact this.1
          go_wp2_with (first
            | (at_builtin; refine app_pair _ rfl (.tmp 93) (.tmp 95) rfl w.heap.size w.heap.size j (ms.length / 2) _ rfl hps2 y sc rfl (by omega) ?_; intro w4 hps4 hg4)
            | (at_builtin; refine app_u32 _ rfl (.tmp 97) (.tmp 99) rfl (w.heap.size + 1) (by have := hg4.size; omega) u10 j _ rfl (own_kept hum2 hg4 (Nat.lt_succ_self _)) _ _ HZZ.out rfl (by omega) ?_; intro um1 w5 hum5 hg5 hb5))
          go_roundw
          case rel =>
            have hq := HQ.out
            have hps5 := pairs_kept hps4 hg5 (fun e => by have := (hum2.lt _ e.symm).1; omega)
            have hbel4 := ((hbel.trans (hbel2.mono hbel.size)).grown hg4 (by omega) (fun k hk => by simp at hk; omega)).grown hg5 (by have := hg4.size; omega) (fun k hk => by have := (hum2.lt k hk).1; omega)
            unfold ReadInv
            refine ⟨j + 1, o, l, rfl, ⟨?_, ?_⟩, by go_num, by omega, rfl, ?_, ?_, hbel4, by have := hg4.size; have := hg5.size; omega⟩
            · simp only [lowLen]; omega
            · simp only [lowLen]; omega
            · simp only [pairCells]; rw [← hq.2.2.2.1, ← hq.2.2.2.2]; exact hps5
            · rw [nextM_succ]; exact hum5
          case measure => simp [intOf]; omega
    · have ej : j = ms.length / 2 := by omega
      subst ej
      have hm2 : Reads _ mb ms := hR.kept (row := none) ⟨hbel.os, hbel.tape, hbel.output, hbel.size, fun k hk _ => hbel.block k hk⟩ hmb (by simp)
      rename World => wi
      by_cases hodd : ms.length % 2 = 1
      · have hodd' : ((ms.length : Int) % 2 == 1) = true := by simp; omega
        have c2 := hm2 (ms.length - 1) (by omega)
        obtain ⟨M0, hM0⟩ : ∃ M0 : Int, M0 = ((ms.getD (ms.length - 1) 0 : Nat) : Int) := ⟨_, rfl⟩
        rw [← hM0] at c2
        have HM := hidden hM0
        clear hM0 hm2
        go_wp2_with (first
          | (at_builtin; refine app_u32 _ rfl (.tmp 105) (.tmp 112) rfl (w.heap.size + 1) (by omega) u10 (ms.length / 2) _ rfl hum _ _ HM.out rfl (by omega) ?_; intro um1 w5 hum5 hg5 hb5))
        have hum6 : w5.ownsRow (w.heap.size + 1) 24 1 um1 ((ms.length + 1) / 2) (U32 (upM ms)) := by
          rw [show (ms.length + 1) / 2 = ms.length / 2 + 1 from by omega, upM, if_pos hodd]; exact hum5
        have hbel5 := hbel.grown hg5 (by omega) (fun k hk => by have := (hum.lt k hk).1; omega)
        have hps5 := pairs_kept hps hg5 (fun e => by have := (hum.lt _ e.symm).1; omega)
        have hsz5 : w.heap.size + 1 ≤ w5.heap.size := by have := hg5.size; omega
        refine (HIH.out um1 (w.heap.size + 1) o l w5 (bytes_below hB hbel5 hG) (Nat.lt_of_lt_of_le hG hbel5.size) HJ hum6).mono ?_
        rintro e w2 ⟨vup, rfl, hup, hbel6⟩
        obtain ⟨ub, uc, rfl, hub1, hub2, hrup⟩ := own_reads hup (by rw [upV_length]; omega)
        have T := tail_facts hbel5 hbel6 hsz5 hps5 hR hmb
        clear hum hum5 hum6 hg5 hb5 hbel6 hps5 hps hbel hup hbel5 hub1 hsz hsz5
        go_wp2_with (at_make; refine wpList_make_own _ rfl _ _ 23 rfl w2.heap.size 24 i24 (.int .u32 0) 1 Try.underlying23 H24.out.1 H24.out.2.1 H24.out.2.2.1 .i64 .i64 _ ms.length rfl rfl rfl ?_ ?_ ?_ ?_; (rw [H24.out.2.2.2]; omega); (simp only [maxLen]; omega); exact Nat.le_refl _; intro w3 hv3 hg3)
        go_loopw [15, 125] (fun va c wr => ValInv w2 ms vs va c wr) (fun _ c _ => ms.length - (intOf c).toNat)
        case atStart => exact val_start hv3 hg3
        case round =>
          clear hv3 hg3
          obtain ⟨k, hk, rfl, rfl, hva, hbel3, hsz3⟩ := hrel
          by_cases hlt : (k : Int) < ((ms.length / 2 : Nat) : Int)
          · obtain ⟨P0, S0, U0, M0, M1, X, Y, hP0, hS0, hU0, hM0, hM1, hX, hY, hm0, hm1, hm2, hm3, hy0, hy1, HW⟩ := back_words hs hu (k := k) (by omega)
            have cp := pairCells_get ms vs (ms.length / 2) k (by omega)
            have c1 := (hbel3.cell (p := ⟨w.heap.size, 2 * k, none⟩) T.size).trans (pair_cell T.pairs cp.1)
            have c2 := (hbel3.cell (p := ⟨w.heap.size, 2 * k + 1, none⟩) T.size).trans (pair_cell T.pairs cp.2)
            have c3 := reads_below hrup hbel3 hub2 k (by rw [upV_length]; omega)
            have c4 := reads_below T.mods hbel3 T.lt (2 * k) (by omega)
            have c5 := reads_below T.mods hbel3 T.lt (2 * k + 1) (by omega)
            rw [hP0, Nat.mul_comm] at c1
            rw [hS0, Nat.mul_comm] at c2
            rw [hU0] at c3
            rw [hM0] at c4
            rw [hM1] at c5
            have l1 := T.lt
            have l2 := T.size
            have HM0 := hidden hM0
            have HM1 := hidden hM1
            clear hP0 hS0 hU0 hM0 hM1 cp
            rename World => wv
            have l3 : ub < wv.heap.size := by omega
            have l4 : mb < wv.heap.size := by omega
            have l5 : (k : Int) < ((upV ms vs).length : Int) := by rw [upV_length]; omega
            have l6 : k < (upV ms vs).length := by rw [upV_length]; omega
            go_wp2
            go_quiet (fail)
            go_wp2
            rw [hY]
            obtain ⟨wq, hwq⟩ : ∃ wq, wq = (wv.alloc (.cells #[.int .u32 P0, .int .u32 S0] 46)).drewN nq := ⟨_, rfl⟩
            rw [← hwq]
            have hvaq : wq.ownsRow w2.heap.size 24 1 (.slice (some ⟨w2.heap.size, 0, none⟩) (2 * k) ms.length) (2 * k) (U32 (vs.take (2 * k))) := by rw [hwq]; exact hva.alloc _
            have belq : Below w2.heap.size w2 wq := by
              have h := hbel3.alloc (by omega) (.cells #[.int .u32 P0, .int .u32 S0] 46)
              rw [hwq]; exact ⟨h.os, h.tape, h.output, h.size, h.block⟩
            have szq : w2.heap.size + 1 ≤ wq.heap.size := by rw [hwq]; simp [World.drewN]; omega
            have c4q : wq.cell? ⟨mb, 2 * k, none⟩ = some (.int .u32 M0) := by rw [hwq]; exact (World.cell?_alloc_lt _ _ _ l4).trans c4
            have c5q : wq.cell? ⟨mb, 2 * k + 1, none⟩ = some (.int .u32 M1) := by rw [hwq]; exact (World.cell?_alloc_lt _ _ _ l4).trans c5
            clear hwq hX hY c1 c2 c3 c4 c5 hva hbel3 hsz3 l3 l4 l5 l6 l1 l2
            have hw1 : IntKind.i64.wrap (2 * (k : Int)) = 2 * (k : Int) := by rw [IntKind.wrap_i64]; omega
            have hw2 : IntKind.i64.wrap (2 * (k : Int) + 1) = 2 * (k : Int) + 1 := by rw [IntKind.wrap_i64]; omega
            have hw3 : (2 * (k : Int)).toNat = 2 * k := by omega
            have hw4 : (2 * (k : Int) + 1).toNat = 2 * k + 1 := by omega
            have hw5 : 0 ≤ 2 * (k : Int) ∧ 2 * (k : Int) < (ms.length : Int) := by omega
            have hw6 : 0 ≤ 2 * (k : Int) + 1 ∧ 2 * (k : Int) + 1 < (ms.length : Int) := by omega
            have hn0 : ¬ M0 = 0 := by omega
            have hn1 : ¬ M1 = 0 := by omega
            have hn2 : (M0 == 0) = false := by simp; omega
            have hn3 : (M1 == 0) = false := by simp; omega
            obtain ⟨R0, hR0⟩ : ∃ R0 : Int, Y.tmod M0 = R0 := ⟨_, rfl⟩
            obtain ⟨Q0, hQ0⟩ : ∃ Q0 : Int, Y.tdiv M0 = Q0 := ⟨_, rfl⟩
            obtain ⟨R1, hR1⟩ : ∃ R1 : Int, Q0.tmod M1 = R1 := ⟨_, rfl⟩
            have hq0 : 0 ≤ Q0 ∧ Q0 ≤ 268435456 := by
              rw [← hQ0, Int.tdiv_eq_ediv_of_nonneg hy0]
              exact ⟨Int.ediv_nonneg hy0 (by omega), Int.le_trans (Int.ediv_le_self _ hy0) hy1⟩
            have hqw : IntKind.u32.wrap Q0 = Q0 := by rw [IntKind.wrap_u32]; omega
            have HR0 : Hid (R0 = ((vs.getD (2 * k) 0 : Nat) : Int)) := by
              rw [← hR0, Int.tmod_eq_emod_of_nonneg hy0]; exact HW.out.1
            have HR1 : Hid (R1 = ((vs.getD (2 * k + 1) 0 : Nat) : Int)) := by
              rw [← hR1, Int.tmod_eq_emod_of_nonneg hq0.1, ← hQ0, Int.tdiv_eq_ediv_of_nonneg hy0]; exact HW.out.2
            go_region_held3 (fun w' => w'.cell? ⟨mb, 2 * k, none⟩ = some (.int .u32 M0) ∧ w'.cell? ⟨mb, 2 * k + 1, none⟩ = some (.int .u32 M1)) (first | go_keep | exact ⟨c4z, c5z⟩)
              (first
                | (refine step_two _ rfl (.tmp 140) (.tmp 162) rfl w2.heap.size w2.heap.size (2 * k) ms.length (vs.take (2 * k)) rfl ?_ wq.heap.size R0 R1 (vs.getD (2 * k) 0) (vs.getD (2 * k + 1) 0) HR0.out HR1.out rfl ?_ ?_ ?_ ?_; exact (hvaq.alloc _).drew; simp; simp; omega; intro w7 hva7 hg7; have bel7 := (belq.alloc (by omega) _).drew.grown hg7 (by simp; omega) (fun x hx => by simp at hx; omega); have c4z := reads_below T.mods bel7 T.lt (2 * k) (by omega); have c5z := reads_below T.mods bel7 T.lt (2 * k + 1) (by omega); rw [HM0.out] at c4z; rw [HM1.out] at c5z))
            go_wp2
            have fin : ValInv w2 ms vs (.slice (some ⟨w2.heap.size, 0, none⟩) (2 * k + 2) ms.length) (.int .i64 ((k : Int) + 1)) w7 := by
              refine ⟨k + 1, by omega, by go_num, by rw [show 2 * (k + 1) = 2 * k + 2 from by omega], ?_, bel7, by have := hg7.size; simp at this; omega⟩
              rw [← take_two vs k (by rw [hu.1]; omega), show 2 * (k + 1) = 2 * k + 2 from by omega]
              exact hva7
            go_roundw
            case rel => exact fin
            case measure => simp [intOf]; omega
          · have ek : k = ms.length / 2 := by omega
            subst ek
            rename World => wv
            have ul : (upV ms vs).length = ms.length / 2 + 1 := by rw [upV_length]; omega
            have cu := reads_below hrup hbel3 hub2 ((upV ms vs).length - 1) (by omega)
            have el : (upV ms vs).getD ((upV ms vs).length - 1) 0 = vs.getD (ms.length - 1) 0 := by
              rw [show (upV ms vs).length - 1 = ms.length / 2 from by omega, upV_last ms vs hodd]
            rw [el] at cu
            obtain ⟨E0, hE0⟩ : ∃ E0 : Int, E0 = ((vs.getD (ms.length - 1) 0 : Nat) : Int) := ⟨_, rfl⟩
            rw [← hE0] at cu
            have HE := hidden hE0
            have hl1 : (1 : Int) ≤ ((upV ms vs).length : Int) := by omega
            have hl2 : ((upV ms vs).length : Int) ≤ 100000 := by omega
            have hszv := hbel3.size
            clear hE0 el ul
            go_wp2_with (at_builtin; refine app_u32 _ rfl (.tmp 169) (.tmp 176) rfl w2.heap.size hszv (.slice (some ⟨w2.heap.size, 0, none⟩) (2 * (ms.length / 2)) ms.length) (2 * (ms.length / 2)) (vs.take (2 * (ms.length / 2))) rfl hva _ _ HE.out rfl (by omega) ?_; intro v8 w8 hv8 hg8 hb8)
            go_ret2
            refine ⟨v8, rfl, ?_, ?_⟩
            · have e1 : vs.take (2 * (ms.length / 2)) ++ [vs.getD (ms.length - 1) 0] = vs := by
                have hlt2 : 2 * (ms.length / 2) < vs.length := by rw [hu.1]; omega
                have := List.take_succ_eq_append_getElem hlt2
                rw [List.take_of_length_le (by rw [hu.1]; omega)] at this
                rw [show ms.length - 1 = 2 * (ms.length / 2) from by omega]
                simp only [List.getD, List.getElem?_eq_getElem hlt2, Option.getD_some]
                exact this.symm
              rw [e1] at hv8
              rw [hu.1, show ms.length = 2 * (ms.length / 2) + 1 from by omega]
              exact own_base hv8 (Nat.le_trans (Nat.le_succ _) T.size)
            · exact (T.below.trans (hbel3.mono T.below.size)).grown hg8 (by have := T.size; omega) (fun x hx => by have := (hva.lt x hx).1; have := T.size; omega)
      · have hodd' : ((ms.length : Int) % 2 == 1) = false := by simp; omega
        have hum6 : wi.ownsRow (w.heap.size + 1) 24 1 u10 ((ms.length + 1) / 2) (U32 (upM ms)) := by
          rw [show (ms.length + 1) / 2 = ms.length / 2 from by omega, upM, if_neg hodd, List.append_nil]; exact hum
        clear hm2
        go_wp2_with fail
        refine (HIH.out u10 (w.heap.size + 1) o l wi (bytes_below hB hbel hG) (Nat.lt_of_lt_of_le hG hbel.size) HJ hum6).mono ?_
        rintro e w2 ⟨vup, rfl, hup, hbel6⟩
        obtain ⟨ub, uc, rfl, hub1, hub2, hrup⟩ := own_reads hup (by rw [upV_length]; omega)
        have T := tail_facts hbel hbel6 hsz hps hR hmb
        clear hum hum6 hbel6 hps hbel hup hub1 hsz
        go_wp2_with (at_make; refine wpList_make_own _ rfl _ _ 23 rfl w2.heap.size 24 i24 (.int .u32 0) 1 Try.underlying23 H24.out.1 H24.out.2.1 H24.out.2.2.1 .i64 .i64 _ ms.length rfl rfl rfl ?_ ?_ ?_ ?_; (rw [H24.out.2.2.2]; omega); (simp only [maxLen]; omega); exact Nat.le_refl _; intro w3 hv3 hg3)
        go_loopw [15, 125] (fun va c wr => ValInv w2 ms vs va c wr) (fun _ c _ => ms.length - (intOf c).toNat)
        case atStart => exact val_start hv3 hg3
        case round =>
          clear hv3 hg3
          obtain ⟨k, hk, rfl, rfl, hva, hbel3, hsz3⟩ := hrel
          by_cases hlt : (k : Int) < ((ms.length / 2 : Nat) : Int)
          · obtain ⟨P0, S0, U0, M0, M1, X, Y, hP0, hS0, hU0, hM0, hM1, hX, hY, hm0, hm1, hm2, hm3, hy0, hy1, HW⟩ := back_words hs hu (k := k) (by omega)
            have cp := pairCells_get ms vs (ms.length / 2) k (by omega)
            have c1 := (hbel3.cell (p := ⟨w.heap.size, 2 * k, none⟩) T.size).trans (pair_cell T.pairs cp.1)
            have c2 := (hbel3.cell (p := ⟨w.heap.size, 2 * k + 1, none⟩) T.size).trans (pair_cell T.pairs cp.2)
            have c3 := reads_below hrup hbel3 hub2 k (by rw [upV_length]; omega)
            have c4 := reads_below T.mods hbel3 T.lt (2 * k) (by omega)
            have c5 := reads_below T.mods hbel3 T.lt (2 * k + 1) (by omega)
            rw [hP0, Nat.mul_comm] at c1
            rw [hS0, Nat.mul_comm] at c2
            rw [hU0] at c3
            rw [hM0] at c4
            rw [hM1] at c5
            have l1 := T.lt
            have l2 := T.size
            have HM0 := hidden hM0
            have HM1 := hidden hM1
            clear hP0 hS0 hU0 hM0 hM1 cp
            rename World => wv
            have l3 : ub < wv.heap.size := by omega
            have l4 : mb < wv.heap.size := by omega
            have l5 : (k : Int) < ((upV ms vs).length : Int) := by rw [upV_length]; omega
            have l6 : k < (upV ms vs).length := by rw [upV_length]; omega
            go_wp2
            go_quiet (fail)
            go_wp2
            rw [hY]
            obtain ⟨wq, hwq⟩ : ∃ wq, wq = (wv.alloc (.cells #[.int .u32 P0, .int .u32 S0] 46)).drewN nq := ⟨_, rfl⟩
            rw [← hwq]
            have hvaq : wq.ownsRow w2.heap.size 24 1 (.slice (some ⟨w2.heap.size, 0, none⟩) (2 * k) ms.length) (2 * k) (U32 (vs.take (2 * k))) := by rw [hwq]; exact hva.alloc _
            have belq : Below w2.heap.size w2 wq := by
              have h := hbel3.alloc (by omega) (.cells #[.int .u32 P0, .int .u32 S0] 46)
              rw [hwq]; exact ⟨h.os, h.tape, h.output, h.size, h.block⟩
            have szq : w2.heap.size + 1 ≤ wq.heap.size := by rw [hwq]; simp [World.drewN]; omega
            have c4q : wq.cell? ⟨mb, 2 * k, none⟩ = some (.int .u32 M0) := by rw [hwq]; exact (World.cell?_alloc_lt _ _ _ l4).trans c4
            have c5q : wq.cell? ⟨mb, 2 * k + 1, none⟩ = some (.int .u32 M1) := by rw [hwq]; exact (World.cell?_alloc_lt _ _ _ l4).trans c5
            clear hwq hX hY c1 c2 c3 c4 c5 hva hbel3 hsz3 l3 l4 l5 l6 l1 l2
            have hw1 : IntKind.i64.wrap (2 * (k : Int)) = 2 * (k : Int) := by rw [IntKind.wrap_i64]; omega
            have hw2 : IntKind.i64.wrap (2 * (k : Int) + 1) = 2 * (k : Int) + 1 := by rw [IntKind.wrap_i64]; omega
            have hw3 : (2 * (k : Int)).toNat = 2 * k := by omega
            have hw4 : (2 * (k : Int) + 1).toNat = 2 * k + 1 := by omega
            have hw5 : 0 ≤ 2 * (k : Int) ∧ 2 * (k : Int) < (ms.length : Int) := by omega
            have hw6 : 0 ≤ 2 * (k : Int) + 1 ∧ 2 * (k : Int) + 1 < (ms.length : Int) := by omega
            have hn0 : ¬ M0 = 0 := by omega
            have hn1 : ¬ M1 = 0 := by omega
            have hn2 : (M0 == 0) = false := by simp; omega
            have hn3 : (M1 == 0) = false := by simp; omega
            obtain ⟨R0, hR0⟩ : ∃ R0 : Int, Y.tmod M0 = R0 := ⟨_, rfl⟩
            obtain ⟨Q0, hQ0⟩ : ∃ Q0 : Int, Y.tdiv M0 = Q0 := ⟨_, rfl⟩
            obtain ⟨R1, hR1⟩ : ∃ R1 : Int, Q0.tmod M1 = R1 := ⟨_, rfl⟩
            have hq0 : 0 ≤ Q0 ∧ Q0 ≤ 268435456 := by
              rw [← hQ0, Int.tdiv_eq_ediv_of_nonneg hy0]
              exact ⟨Int.ediv_nonneg hy0 (by omega), Int.le_trans (Int.ediv_le_self _ hy0) hy1⟩
            have hqw : IntKind.u32.wrap Q0 = Q0 := by rw [IntKind.wrap_u32]; omega
            have HR0 : Hid (R0 = ((vs.getD (2 * k) 0 : Nat) : Int)) := by
              rw [← hR0, Int.tmod_eq_emod_of_nonneg hy0]; exact HW.out.1
            have HR1 : Hid (R1 = ((vs.getD (2 * k + 1) 0 : Nat) : Int)) := by
              rw [← hR1, Int.tmod_eq_emod_of_nonneg hq0.1, ← hQ0, Int.tdiv_eq_ediv_of_nonneg hy0]; exact HW.out.2
            go_region_held3 (fun w' => w'.cell? ⟨mb, 2 * k, none⟩ = some (.int .u32 M0) ∧ w'.cell? ⟨mb, 2 * k + 1, none⟩ = some (.int .u32 M1)) (first | go_keep | exact ⟨c4z, c5z⟩)
              (first
                | (refine step_two _ rfl (.tmp 140) (.tmp 162) rfl w2.heap.size w2.heap.size (2 * k) ms.length (vs.take (2 * k)) rfl ?_ wq.heap.size R0 R1 (vs.getD (2 * k) 0) (vs.getD (2 * k + 1) 0) HR0.out HR1.out rfl ?_ ?_ ?_ ?_; exact (hvaq.alloc _).drew; simp; simp; omega; intro w7 hva7 hg7; have bel7 := (belq.alloc (by omega) _).drew.grown hg7 (by simp; omega) (fun x hx => by simp at hx; omega); have c4z := reads_below T.mods bel7 T.lt (2 * k) (by omega); have c5z := reads_below T.mods bel7 T.lt (2 * k + 1) (by omega); rw [HM0.out] at c4z; rw [HM1.out] at c5z))
            go_wp2
            have fin : ValInv w2 ms vs (.slice (some ⟨w2.heap.size, 0, none⟩) (2 * k + 2) ms.length) (.int .i64 ((k : Int) + 1)) w7 := by
              refine ⟨k + 1, by omega, by go_num, by rw [show 2 * (k + 1) = 2 * k + 2 from by omega], ?_, bel7, by have := hg7.size; simp at this; omega⟩
              rw [← take_two vs k (by rw [hu.1]; omega), show 2 * (k + 1) = 2 * k + 2 from by omega]
              exact hva7
            go_roundw
            case rel => exact fin
            case measure => simp [intOf]; omega
          · have ek : k = ms.length / 2 := by omega
            subst ek
            rename World => wv
            go_wp2
            go_ret2
            refine ⟨_, rfl, ?_, ?_⟩
            · have e1 : vs.take (2 * (ms.length / 2)) = vs := List.take_of_length_le (by rw [hu.1]; omega)
              rw [e1] at hva
              rw [hu.1]
              rw [show 2 * (ms.length / 2) = ms.length from by omega] at hva ⊢
              exact own_base hva (Nat.le_trans (Nat.le_succ _) T.size)
            · exact T.below.trans (hbel3.mono T.below.size)
end Go.Proofs.Qxb6603826a
