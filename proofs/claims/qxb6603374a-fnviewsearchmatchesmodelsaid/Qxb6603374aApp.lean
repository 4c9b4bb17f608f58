/- Appends inside a region that draws: one number, one read of four cells. -/
import Derived.Test.Qxb6603374aCycMem
namespace Go.Proofs.Qxb6603374a
open Go.ChangeShapes Go.WideShapes Go.ChangeAt Go.RowKit

section
variable {P : Program} (w : World)
/-- The same as one step of a region that draws. -/
theorem step_append_at {ops : Array Oper} {o : Oper} {a : Act} {K : Act → World → Prop} {Q : Exit → Act → World → Prop} {E : Prop}
    (hgd : o.guard = none) (s x : Operand) (t : TypeId) (ho : o.op = .call { callee := .builtin .append, args := #[s, x], argTypes := #[t, t] })
    (base : Nat) (e : TypeId) (i : TypeInfo) (z : Value) (size bytes : Nat) (ht : P.underlying t = some (.slice e)) (hi : P.info? e = some i) (hz : i.zero = some z)
    (hsize : i.size = size) (hby : i.bytes = bytes) (hzs : z.cells.size = size) (hsz : 0 < size)
    (v : Value) (n : Nat) (xs : List Value) (hs : a.eval s = v) (hown : w.ownsRow base e size v n xs)
    (ad : Addr) (m c : Nat) (news : List Value) (hx : a.eval x = .slice (some ad) m c) (hl : news.length = m * size) (hnews : ∀ j u, news[j]? = some u → w.cell? (ad.add j) = some u) (h1 : ∀ u ∈ news, u.oneCell' = true)
    (h63 : n + m ≤ maxLen) (hbytes : (n + m) * bytes ≤ 140737488355328) (hbase : base ≤ w.heap.size)
    (hK : ∀ v' w', w'.ownsRow base e size v' (n + m) (xs ++ news) → w.grownBy w' v.ownBlock → (v'.ownBlock = v.ownBlock ∨ v'.ownBlock = some w.heap.size) → K (a.put o.dst v') w') :
    if Region.wanted o (yielded ops a.tmps) = true then Oper.wp P o a w K Q else E := by
  have hw : Region.wanted o (yielded ops a.tmps) = true := by simp [Region.wanted, hgd]
  rw [if_pos hw]
  obtain ⟨v', w', hr, h2, h3, h4⟩ := run_append_at (P := P) w base t o.type e i z size bytes ht hi hz hsize hby hzs hsz v n xs hown ad m c news hl hnews h1 h63 hbytes hbase
  unfold Oper.wp
  simp [execOp, ho, resolve, invoke, builtin, hs, hx, hr, Result.andThen]
  exact hK v' w' h2 h3 h4
end
theorem Try.info103 : (Try.prog.info? 103).map (fun i => (i.zero, i.size, i.bytes)) = some (some (.agg #[.int .i64 0, .int .i64 0, .int .i64 0, .bool false]), 4, 32) := by kernel_rfl
theorem news_four (w : World) (x0 x1 x2 x3 : Value) (t : TypeId) : ∀ j u, [x0, x1, x2, x3][j]? = some u → (w.alloc (.cells #[x0, x1, x2, x3] t)).cell? ((⟨w.heap.size, 0, none⟩ : Addr).add j) = some u := by
  intro j u h
  have hadd : (⟨w.heap.size, 0, none⟩ : Addr).add j = ⟨w.heap.size, j, none⟩ := by unfold Addr.add; split <;> simp_all
  rw [hadd, cell_of_row _ _ j #[x0, x1, x2, x3] t (0, 0) (heap_alloc_new _ _)]
  simpa using h
/-- 'append(xs, y)', y a number in its own new block (the world w may be whatever, in which that block holds y). -/
theorem step_int (w : World) {ops : Array Oper} {o : Oper} {a : Act} {K : Act → World → Prop} {Q : Exit → Act → World → Prop} {E : Prop} (hgd : o.guard = none) (s x : Operand)
    (ho : o.op = .call { callee := .builtin .append, args := #[s, x], argTypes := #[24, 24] }) (base : Nat) (hbase : base ≤ w.heap.size) (v : Value) (n : Nat) (xs : List Value) (hs : a.eval s = v) (hown : w.ownsRow base 3 1 v n xs)
    (nb : Nat) (y : Int) (hc : w.cell? ⟨nb, 0, none⟩ = some (.int .i64 y)) (hx : a.eval x = .slice (some ⟨nb, 0, none⟩) 1 1) (hn : n ≤ 1000000000)
    (hK : ∀ v' w', w'.ownsRow base 3 1 v' (n + 1) (xs ++ [.int .i64 y]) → w.grownBy w' v.ownBlock → Hid (v'.ownBlock = v.ownBlock ∨ v'.ownBlock = some w.heap.size) → K (a.put o.dst v') w') :
    if Region.wanted o (yielded ops a.tmps) = true then Oper.wp Try.prog o a w K Q else E := by
  obtain ⟨i, hi, hz, hsz, hb⟩ := info_parts Try.info3
  refine step_append_at w hgd s x 24 ho base 3 i (.int .i64 0) 1 8 Try.underlying24 hi hz hsz hb rfl (by decide) v n xs hs hown ⟨nb, 0, none⟩ 1 1 [.int .i64 y] hx rfl ?_ (by simp [Value.oneCell']) (by simp only [maxLen]; omega) (by omega) hbase ?_
  · intro j u h
    match j, h with
    | 0, h => simp at h; subst h; simpa [Addr.add] using hc
    | j + 1, h => simp at h
  · intro v' w' h1 h2 h3
    exact hK v' w' h1 h2 h3
/-- 'append(xs, r)', r a read of four cells in its own new block. -/
theorem step_vr (w : World) {ops : Array Oper} {o : Oper} {a : Act} {K : Act → World → Prop} {Q : Exit → Act → World → Prop} {E : Prop} (hgd : o.guard = none) (s x : Operand)
    (ho : o.op = .call { callee := .builtin .append, args := #[s, x], argTypes := #[104, 104] }) (base : Nat) (hbase : base ≤ w.heap.size) (v : Value) (n : Nat) (xs : List Value) (hs : a.eval s = v) (hown : w.ownsRow base 103 4 v n xs)
    (nb : Nat) (y0 y1 y2 : Int) (y3 : Bool) (c0 : w.cell? ⟨nb, 0, none⟩ = some (.int .i64 y0)) (c1 : w.cell? ⟨nb, 1, none⟩ = some (.int .i64 y1)) (c2 : w.cell? ⟨nb, 2, none⟩ = some (.int .i64 y2)) (c3 : w.cell? ⟨nb, 3, none⟩ = some (.bool y3))
    (hx : a.eval x = .slice (some ⟨nb, 0, none⟩) 1 1) (hn : n ≤ 1000000000)
    (hK : ∀ v' w', w'.ownsRow base 103 4 v' (n + 1) (xs ++ [.int .i64 y0, .int .i64 y1, .int .i64 y2, .bool y3]) → w.grownBy w' v.ownBlock → Hid (v'.ownBlock = v.ownBlock ∨ v'.ownBlock = some w.heap.size) → K (a.put o.dst v') w') :
    if Region.wanted o (yielded ops a.tmps) = true then Oper.wp Try.prog o a w K Q else E := by
  obtain ⟨i, hi, hz, hsz, hb⟩ := info_parts Try.info103
  refine step_append_at w hgd s x 104 ho base 103 i _ 4 32 Try.underlying104 hi hz hsz hb rfl (by decide) v n xs hs hown ⟨nb, 0, none⟩ 1 1 [.int .i64 y0, .int .i64 y1, .int .i64 y2, .bool y3] hx rfl ?_ (by simp [Value.oneCell']) (by simp only [maxLen]; omega) (by omega) hbase ?_
  · intro j u h
    have hadd : (⟨nb, 0, none⟩ : Addr).add j = ⟨nb, j, none⟩ := by unfold Addr.add; split <;> simp_all
    rw [hadd]
    match j, h with
    | 0, h => simp at h; subst h; exact c0
    | 1, h => simp at h; subst h; exact c1
    | 2, h => simp at h; subst h; exact c2
    | 3, h => simp at h; subst h; exact c3
    | j + 4, h => simp at h
  · intro v' w' h1 h2 h3
    exact hK v' w' h1 h2 h3
end Go.Proofs.Qxb6603374a
