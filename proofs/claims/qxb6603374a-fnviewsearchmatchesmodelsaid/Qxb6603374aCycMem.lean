/- The memory of (*polygraph).cycle: what stands still, the three scratch rows, the two growing slices. -/
import Derived.Test.Qxb6603374aReads
import Derived.Test.Qxb6603374aSearch
import Derived.OwnWalk
import Derived.BigRegion
import Derived.Deep.RegionLaw
namespace Go.Proofs.Qxb6603374a
open Go.ChangeShapes Go.WideShapes Go.ChangeAt Go.RowKit

section
variable {P : Program} (w : World)

/-- The kit's law on append, and where the slice lies behind it: where it lay, or in the first new block. -/
theorem run_append_at (base : Nat) (t ty e : TypeId) (i : TypeInfo) (z : Value) (size bytes : Nat) (ht : P.underlying t = some (.slice e)) (hi : P.info? e = some i) (hz : i.zero = some z)
    (hsize : i.size = size) (hby : i.bytes = bytes) (hzs : z.cells.size = size) (hsz : 0 < size)
    (v : Value) (n : Nat) (xs : List Value) (hown : w.ownsRow base e size v n xs)
    (a : Addr) (m c : Nat) (news : List Value) (hl : news.length = m * size) (hnews : ∀ j u, news[j]? = some u → w.cell? (a.add j) = some u) (h1 : ∀ u ∈ news, u.oneCell' = true)
    (h63 : n + m ≤ maxLen) (hbytes : (n + m) * bytes ≤ 140737488355328) (hbase : base ≤ w.heap.size) :
    ∃ v' w', (Builtin.append_ #[t, t] ty #[v, .slice (some a) m c]).run P w = .ok v' w' ∧ w'.ownsRow base e size v' (n + m) (xs ++ news) ∧ w.grownBy w' v.ownBlock ∧
      (v'.ownBlock = v.ownBlock ∨ v'.ownBlock = some w.heap.size) := by
  obtain ⟨v', w', hr, ho, hg, hn⟩ := run_append_own (P := P) w base t ty e i z size bytes ht hi hz hsize hby hzs hsz v n xs hown a m c news hl hnews h1 h63 hbytes hbase
  refine ⟨v', w', hr, ho, hg, ?_⟩
  subst hsize hby
  have h63' : n + m ≤ 9223372036854775807 := by simp only [maxLen] at h63; omega
  rcases hown.2 with ⟨rfl, rfl⟩ | ⟨g, cap, cur, rfl, _, hgg, hnc, hcm, hcs, htake⟩
  · by_cases hm : m = 0
    · left
      rw [hn.2 ⟨rfl, hm⟩]
    · have e2 := run_append_nil (P := P) w t ty e i z ht hi hz a m c news hl hnews (by omega) (by omega) (by simp only [Nat.zero_add] at hbytes; omega)
      rw [hr] at e2
      injection e2 with e3 _
      right; rw [e3]; rfl
  · by_cases hroom : n + m ≤ cap
    · have e2 := run_append_room (P := P) w t ty e i ht hi g n cap cur hgg a m c news hl hnews h1 hroom (by rw [hl, hcs, ← Nat.add_mul]; exact Nat.mul_le_mul_right _ hroom)
      rw [hr] at e2
      injection e2 with e3 _
      left; rw [e3]; rfl
    · have e2 := run_append_grow (P := P) w t ty e i z ht hi hz ⟨g, 0, none⟩ n cap xs hown.1 (hown.cells (g := g) rfl) a m c news hl hnews (by omega) (by omega) (growslice_fits (by omega) hbytes)
      rw [hr] at e2
      injection e2 with e3 _
      right; rw [e3]; rfl

/-- The same as a law for the walk. -/
theorem wpList_append_at {ops : Array Oper} {rest : List Oper} {o : Oper} {a : Act} {Q : Exit → Act → World → Prop} (hgd : o.guard = none) (s x : Operand) (t : TypeId)
    (ho : o.op = .call { callee := .builtin .append, args := #[s, x], argTypes := #[t, t] })
    (base : Nat) (e : TypeId) (i : TypeInfo) (z : Value) (size bytes : Nat) (ht : P.underlying t = some (.slice e)) (hi : P.info? e = some i) (hz : i.zero = some z)
    (hsize : i.size = size) (hby : i.bytes = bytes) (hzs : z.cells.size = size) (hsz : 0 < size)
    (v : Value) (n : Nat) (xs : List Value) (hs : a.eval s = v) (hown : w.ownsRow base e size v n xs)
    (ad : Addr) (m c : Nat) (news : List Value) (hx : a.eval x = .slice (some ad) m c) (hl : news.length = m * size) (hnews : ∀ j u, news[j]? = some u → w.cell? (ad.add j) = some u) (h1 : ∀ u ∈ news, u.oneCell' = true)
    (h63 : n + m ≤ maxLen) (hbytes : (n + m) * bytes ≤ 140737488355328) (hbase : base ≤ w.heap.size)
    (h : ∀ v' w', w'.ownsRow base e size v' (n + m) (xs ++ news) → w.grownBy w' v.ownBlock → (v'.ownBlock = v.ownBlock ∨ v'.ownBlock = some w.heap.size) → wpList P ops Q rest (a.put o.dst v') w') : wpList P ops Q (o :: rest) a w := by
  refine wpList_plain hgd fun K hK => ?_
  obtain ⟨v', w', hr, h2, h3, h4⟩ := run_append_at (P := P) w base t o.type e i z size bytes ht hi hz hsize hby hzs hsz v n xs hown ad m c news hl hnews h1 h63 hbytes hbase
  unfold Oper.wp
  simp [execOp, ho, resolve, invoke, builtin, hs, hx, hr, Result.andThen]
  exact hK _ _ (h v' w' h2 h3 h4)

end

/-- A vertex in a row. -/
def enc (y : Nat) : Value := .int .i64 (y : Int)

/-- All blocks below H but the three scratch rows are as they were. -/
structure Fr (H mB dB vB : Nat) (w wr : World) : Prop where
  os : wr.os = w.os
  tape : wr.tape = w.tape
  output : wr.output = w.output
  size : H ≤ wr.heap.size
  blk : ∀ k, k < H → k ≠ mB → k ≠ dB → k ≠ vB → wr.heap[k]? = w.heap[k]?
section
variable {H mB dB vB : Nat} {w wr : World}
theorem Fr.refl (h : H ≤ w.heap.size) : Fr H mB dB vB w w := ⟨rfl, rfl, rfl, h, fun _ _ _ _ _ => rfl⟩
theorem Fr.cell (h : Fr H mB dB vB w wr) {a : Addr} {v : Value} (hc : w.cell? a = some v) (h1 : a.block < H) (h2 : a.block ≠ mB) (h3 : a.block ≠ dB) (h4 : a.block ≠ vB) : wr.cell? a = some v := by
  rw [World.cell?_of_block (h.blk a.block h1 h2 h3 h4)]; exact hc
theorem Fr.set (h : Fr H mB dB vB w wr) {a : Addr} (ha : a.block = mB ∨ a.block = dB ∨ a.block = vB ∨ H ≤ a.block) (v : Value) : Fr H mB dB vB w (wr.setCell a v) :=
  ⟨h.os, h.tape, h.output, by simpa using h.size, fun k h1 h2 h3 h4 => by rw [Below.heap_setCell _ _ _ _ (by rcases ha with e | e | e | e <;> omega)]; exact h.blk k h1 h2 h3 h4⟩
theorem Fr.alloc (h : Fr H mB dB vB w wr) (o : Obj) : Fr H mB dB vB w (wr.alloc o) :=
  ⟨h.os, h.tape, h.output, by have := h.size; simp; omega, fun k h1 h2 h3 h4 => by rw [Below.heap_alloc _ _ _ (by have := h.size; omega)]; exact h.blk k h1 h2 h3 h4⟩
theorem Fr.drewN (h : Fr H mB dB vB w wr) (m : Nat) : Fr H mB dB vB w (wr.drewN m) := ⟨h.os, h.tape, h.output, h.size, h.blk⟩
theorem Fr.drew (h : Fr H mB dB vB w wr) : Fr H mB dB vB w wr.drew := ⟨h.os, h.tape, h.output, h.size, h.blk⟩
theorem Fr.grown {w' : World} {row : Option Nat} (h : Fr H mB dB vB w wr) (hg : wr.grownBy w' row) (hr : ∀ k, row = some k → H ≤ k) : Fr H mB dB vB w w' :=
  ⟨hg.os.trans h.os, hg.tape.trans h.tape, hg.output.trans h.output, Nat.le_trans h.size hg.size, fun k h1 h2 h3 h4 => by
    rw [hg.block k (by have := h.size; omega) (fun e => by have := hr k e.symm; omega)]; exact h.blk k h1 h2 h3 h4⟩
theorem Fr.below {M0 : Nat} {w0 : World} (h : Fr H mB dB vB w wr) (hb : Below M0 w0 w) (hH : M0 ≤ H) (hs : w0.heap.size ≤ H) (hm : M0 ≤ mB) (hd : M0 ≤ dB) (hv : M0 ≤ vB) : Below M0 w0 wr :=
  ⟨h.os.trans hb.os, h.tape.trans hb.tape, h.output.trans hb.output, Nat.le_trans hs h.size, fun k hk => (h.blk k (by omega) (by omega) (by omega) (by omega)).trans (hb.block k hk)⟩
end

/-- The arc by which a vertex was met, in two cells. -/
def viaCell (V : Nat → Nat) (Q : Nat → Int) (i : Nat) : Value := .int .i64 (if i % 2 = 0 then (V (i / 2) : Int) else Q (i / 2))

/-- The three scratch rows. -/
structure Rows3 (mB dB vB n : Nat) (wr : World) (mk : Nat → Int) (d V : Nat → Nat) (Q : Nat → Int) : Prop where
  mark : wr.rowIs mB 3 n (fun y => .int .i64 (mk y))
  dist : wr.rowIs dB 3 n (fun y => .int .i64 (d y : Int))
  via : wr.rowIs vB 57 (2 * n) (viaCell V Q)
section
variable {H mB dB vB n : Nat} {w wr : World} {mk : Nat → Int} {d V : Nat → Nat} {Q : Nat → Int} {vN vF : Value} {N F : List Nat}
theorem Rows3.alloc (h : Rows3 mB dB vB n wr mk d V Q) (o : Obj) : Rows3 mB dB vB n (wr.alloc o) mk d V Q := ⟨h.mark.alloc o, h.dist.alloc o, h.via.alloc o⟩
theorem Rows3.drewN (h : Rows3 mB dB vB n wr mk d V Q) (m : Nat) : Rows3 mB dB vB n (wr.drewN m) mk d V Q := ⟨h.mark.of_block rfl, h.dist.of_block rfl, h.via.of_block rfl⟩
theorem Rows3.drew (h : Rows3 mB dB vB n wr mk d V Q) : Rows3 mB dB vB n wr.drew mk d V Q := ⟨h.mark.of_block rfl, h.dist.of_block rfl, h.via.of_block rfl⟩
theorem Rows3.grown {w' : World} {row : Option Nat} (h : Rows3 mB dB vB n wr mk d V Q) (hg : wr.grownBy w' row) (hm : some mB ≠ row) (hd : some dB ≠ row) (hv : some vB ≠ row) : Rows3 mB dB vB n w' mk d V Q :=
  ⟨h.mark.of_block (hg.block _ h.mark.lt hm), h.dist.of_block (hg.block _ h.dist.lt hd), h.via.of_block (hg.block _ h.via.lt hv)⟩
theorem viaCell_upd (V : Nat → Nat) (Q : Nat → Int) (x y i : Nat) (z : Int) : viaCell (Gr.upd V y x) (Gr.upd Q y z) i = if i = y * 2 + 1 then .int .i64 z else if i = y * 2 then .int .i64 (x : Int) else viaCell V Q i := by
  unfold viaCell Gr.upd
  by_cases e : i / 2 = y
  · by_cases c : i % 2 = 0
    · have : i = y * 2 := by omega
      rw [if_pos c, if_pos e, if_neg (by omega), if_pos this]
    · have : i = y * 2 + 1 := by omega
      rw [if_neg c, if_pos e, if_pos this]
  · rw [if_neg e, if_neg e]
    have h1 : ¬ i = y * 2 + 1 := by omega
    have h2 : ¬ i = y * 2 := by omega
    simp only [h1, h2, if_false]
/-- The three stores of one arc. -/
theorem Rows3.put (h : Rows3 mB dB vB n wr mk d V Q) (hmd : mB ≠ dB) (hmv : mB ≠ vB) (hdv : dB ≠ vB) (x y v : Nat) (z t : Int) :
    Rows3 mB dB vB n ((((wr.setCell ⟨mB, y, none⟩ (.int .i64 t)).setCell ⟨dB, y, none⟩ (.int .i64 (v : Int))).setCell ⟨vB, y * 2, none⟩ (.int .i64 (x : Int))).setCell ⟨vB, y * 2 + 1, none⟩ (.int .i64 z)) (Gr.upd mk y t) (Gr.upd d y v) (Gr.upd V y x) (Gr.upd Q y z) := by
  refine ⟨?_, ?_, ?_⟩
  · refine (((((h.mark.set y _).setOther hmd _).setOther hmv _).setOther hmv _)).congr (fun i _ => ?_)
    unfold Gr.upd; split <;> rfl
  · refine (((((h.dist.setOther (Ne.symm hmd) _).set y _).setOther hdv _).setOther hdv _)).congr (fun i _ => ?_)
    unfold Gr.upd; split <;> rfl
  · refine (((((h.via.setOther (Ne.symm hmv) _).setOther (Ne.symm hdv) _).set (y * 2) _).set (y * 2 + 1) _)).congr (fun i _ => ?_)
    rw [viaCell_upd]

/-- The two growing slices. -/
structure Two (H : Nat) (wr : World) (vN vF : Value) (N F : List Nat) : Prop where
  near : wr.ownsRow H 3 1 vN N.length (N.map enc)
  far : wr.ownsRow H 3 1 vF F.length (F.map enc)
  apart : ∀ k, vN.ownBlock = some k → vF.ownBlock ≠ some k
theorem Two.alloc (h : Two H wr vN vF N F) (o : Obj) : Two H (wr.alloc o) vN vF N F := ⟨h.near.alloc o, h.far.alloc o, h.apart⟩
theorem Two.drewN (h : Two H wr vN vF N F) (m : Nat) : Two H (wr.drewN m) vN vF N F := ⟨h.near, h.far, h.apart⟩
theorem Two.drew (h : Two H wr vN vF N F) : Two H wr.drew vN vF N F := ⟨h.near, h.far, h.apart⟩
theorem owns_set {v : Value} {m : Nat} {xs : List Value} (h : wr.ownsRow H 3 1 v m xs) {a : Addr} (ha : a.block < H) (u : Value) : (wr.setCell a u).ownsRow H 3 1 v m xs := by
  refine ⟨h.1, ?_⟩
  rcases h.2 with hn | ⟨g, cap, cur, h1, h2, h3, h4⟩
  · exact .inl hn
  · exact .inr ⟨g, cap, cur, h1, h2, by rw [Below.heap_setCell _ _ _ _ (by omega)]; exact h3, h4⟩
theorem Two.set (h : Two H wr vN vF N F) {a : Addr} (ha : a.block < H) (u : Value) : Two H (wr.setCell a u) vN vF N F := ⟨owns_set h.near ha u, owns_set h.far ha u, h.apart⟩
theorem owns_shape {base m : Nat} {v : Value} {xs : List Value} (h : wr.ownsRow base 3 1 v m xs) (hm : 0 < m) : ∃ g cap, v = .slice (some ⟨g, 0, none⟩) m cap ∧ m ≤ cap ∧ cap ≤ maxLen := by
  rcases h.2 with hn | ⟨g, cap, cur, h1, h2, h3, h4, h5, _⟩
  · omega
  · exact ⟨g, cap, h1, h4, h5⟩
theorem owns_cut {base m m' g cap : Nat} {xs : List Value} (h : wr.ownsRow base 3 1 (.slice (some ⟨g, 0, none⟩) m cap) m xs) (hm : m' ≤ m) : wr.ownsRow base 3 1 (.slice (some ⟨g, 0, none⟩) m' cap) m' (xs.take m') := by
  refine ⟨by rw [List.length_take, h.1]; omega, ?_⟩
  rcases h.2 with ⟨hn, -⟩ | ⟨g', cap', cur, h1, h2, h3, h4, h5, h6, h7⟩
  · cases hn
  · cases h1
    refine .inr ⟨g, cap, cur, rfl, h2, h3, by omega, h5, h6, ?_⟩
    rw [← h7, List.take_take]
    congr 1
    omega
/-- The last vertex of the row is taken. -/
theorem Two.pop {g cap x : Nat} (h : Two H wr (.slice (some ⟨g, 0, none⟩) (N.length + 1) cap) vF (N ++ [x]) F) : Two H wr (.slice (some ⟨g, 0, none⟩) N.length cap) vF N F := by
  refine ⟨?_, h.far, h.apart⟩
  have h1 := h.near
  have e : (N ++ [x]).length = N.length + 1 := by simp
  rw [e] at h1
  have := owns_cut h1 (m' := N.length) (by omega)
  simpa using this
theorem Two.swap {g cap : Nat} (h : Two H wr (.slice (some ⟨g, 0, none⟩) 0 cap) vF [] F) : Two H wr vF (.slice (some ⟨g, 0, none⟩) 0 cap) F [] :=
  ⟨h.far, h.near, fun k hk => fun e => h.apart k e hk⟩
theorem Two.last {g cap m x : Nat} (h : Two H wr (.slice (some ⟨g, 0, none⟩) m cap) vF (N ++ [x]) F) : wr.cell? ⟨g, N.length, none⟩ = some (.int .i64 (x : Int)) := by
  have := h.near.cells (g := g) rfl N.length (.int .i64 (x : Int)) (by simp [enc])
  have hadd : (⟨g, 0, none⟩ : Addr).add N.length = ⟨g, N.length, none⟩ := by unfold Addr.add; split <;> simp_all
  rwa [hadd] at this
theorem news_one (w : World) (x : Value) (t : TypeId) : ∀ j u, [x][j]? = some u → (w.alloc (.cells #[x] t)).cell? ((⟨w.heap.size, 0, none⟩ : Addr).add j) = some u := by
  intro j u h
  match j, h with
  | 0, h =>
    simp at h; subst h
    show (w.alloc (.cells #[x] t)).cell? ⟨w.heap.size, 0, none⟩ = _
    rw [World.cell?_alloc_new]; rfl
  | j + 1, h => simp at h
/-- 'append(xs, y)' onto a slice of numbers of the call's own, behind the new number's own block. -/
theorem app_int (w : World) {ops : Array Oper} {rest : List Oper} {o : Oper} {a : Act} {Q : Exit → Act → World → Prop} (hgd : o.guard = none) (s x : Operand)
    (ho : o.op = .call { callee := .builtin .append, args := #[s, x], argTypes := #[24, 24] }) (base : Nat) (hbase : base ≤ w.heap.size) (v : Value) (n : Nat) (xs : List Value) (hs : a.eval s = v)
    (hown : w.ownsRow base 3 1 v n xs) (y : Int) (hx : a.eval x = .slice (some ⟨w.heap.size, 0, none⟩) 1 1) (hn : n ≤ 1000000)
    (h : ∀ v' w', w'.ownsRow base 3 1 v' (n + 1) (xs ++ [.int .i64 y]) → w.grownBy w' v.ownBlock → Hid (v'.ownBlock = v.ownBlock ∨ v'.ownBlock = some (w.heap.size + 1)) → wpList Try.prog ops Q rest (a.put o.dst v') w') :
    wpList Try.prog ops Q (o :: rest) a (w.alloc (.cells #[.int .i64 y] 3)) := by
  obtain ⟨i, hi, hz, hsz, hb⟩ := info_parts Try.info3
  refine wpList_append_at _ hgd s x 24 ho base 3 i (.int .i64 0) 1 8 Try.underlying24 hi hz hsz hb rfl (by decide) v n xs hs (hown.alloc _) ⟨w.heap.size, 0, none⟩ 1 1 [.int .i64 y] hx rfl (news_one w _ 3) (by simp [Value.oneCell']) (by simp only [maxLen]; omega) (by omega) (by simp; omega) ?_
  intro v' w' h1 h2 h3
  refine h v' w' h1 ⟨h2.os, h2.tape, h2.output, Nat.le_trans (by simp) h2.size, fun j hj hr => ?_⟩ (by rw [World.size_alloc] at h3; exact h3)
  rw [h2.block j (by simp; omega) hr]
  exact Below.heap_alloc w _ j hj
/-- Behind an append to the first. -/
theorem Two.appN {w' : World} {v' : Value} {y : Nat} (h : Two H wr vN vF N F) (ho : w'.ownsRow H 3 1 v' (N.length + 1) (N.map enc ++ [enc y])) (hg : wr.grownBy w' vN.ownBlock) (hb : v'.ownBlock = vN.ownBlock ∨ v'.ownBlock = some (wr.heap.size + 1)) : Two H w' v' vF (N ++ [y]) F := by
  refine ⟨by simpa using ho, h.far.kept hg ?_, fun k hk e => ?_⟩
  · cases hv : vF.ownBlock with
    | none => exact .inl rfl
    | some k => exact .inr (fun e => h.apart k e.symm hv)
  · rcases hb with hb | hb
    · exact h.apart k (by rw [← hb]; exact hk) e
    · rw [hb] at hk
      cases hk
      have := h.far.lt _ e
      omega
/-- Behind an append to the second. -/
theorem Two.appF {w' : World} {v' : Value} {y : Nat} (h : Two H wr vN vF N F) (ho : w'.ownsRow H 3 1 v' (F.length + 1) (F.map enc ++ [enc y])) (hg : wr.grownBy w' vF.ownBlock) (hb : v'.ownBlock = vF.ownBlock ∨ v'.ownBlock = some (wr.heap.size + 1)) : Two H w' vN v' N (F ++ [y]) := by
  refine ⟨h.near.kept hg ?_, by simpa using ho, fun k hk e => ?_⟩
  · cases hv : vN.ownBlock with
    | none => exact .inl rfl
    | some k => exact .inr (fun e => h.apart k hv e.symm)
  · rcases hb with hb | hb
    · exact h.apart k hk (by rw [← hb]; exact e)
    · rw [hb] at e
      cases e
      have := h.near.lt _ hk
      omega
end
end Go.Proofs.Qxb6603374a
