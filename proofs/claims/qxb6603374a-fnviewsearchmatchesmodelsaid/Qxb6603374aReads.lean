/- The contract of zzB1WalkReads. -/
import Derived.Test.Qxb6603374aClone
import Derived.Test.Qxb6603374aBfs
namespace Go.Proofs.Qxb6603374a
open Go.ChangeShapes Go.WideShapes Go.ChangeAt Go.RowKit

/-- The search's two rows in memory: the states met q. -/
structure Wq (N : Nat) (w : World) (q : List Nat) (wr : World) : Prop where
  reach : wr.rowIs w.heap.size 4 N (fun t => .bool (decide (t ∈ q)))
  queue : wr.rowIs (w.heap.size + 1) 3 N (fun i => .int .i64 ((q.getD i 0 : Nat) : Int))
  bel : Below w.heap.size w wr
  sz : wr.heap.size = w.heap.size + 2
theorem Wq.put {N : Nat} {w wr : World} {q : List Nat} (h : Wq N w q wr) (t l : Nat) (hl : l = q.length) : Wq N w (q ++ [t]) ((wr.setCell ⟨w.heap.size, t, none⟩ (.bool true)).setCell ⟨w.heap.size + 1, l, none⟩ (.int .i64 (t : Int))) := by
  subst hl
  refine ⟨((h.reach.set t _).setOther (by simp) _).congr (fun j hj => ?_), ((h.queue.setOther (by simp) _).set q.length _).congr (fun j hj => ?_), (h.bel.setCell (Nat.le_refl _) _).setCell (Nat.le_succ _) _, by simpa using h.sz⟩
  · by_cases e : j = t
    · subst e; simp
    · simp [e]
  · by_cases e : j = q.length
    · subst e; simp [List.getD]
    · rw [if_neg e]
      by_cases c : j < q.length
      · simp [List.getD, List.getElem?_append_left c]
      · simp [List.getD, List.getElem?_eq_none (Nat.le_of_not_lt c)]
        rw [List.getElem?_eq_none]
        · rfl
        · simp; omega

/-- The search with state s in hand, its first i arcs looked at. -/
structure AtState (g : Gr) (b : Nat) (seq : List Int) (h s i : Nat) (q : List Nat) : Prop where
  bfs : g.Bfs b seq q h
  at' : q[h]? = some s
  shut : g.Shut seq q s i
theorem AtState.start {g : Gr} {b : Nat} {seq : List Int} {h s : Nat} {q : List Nat} (k : g.Bfs b seq q h) (hs : q[h]? = some s) : AtState g b seq h s 0 q := ⟨k, hs, fun _ hi => absurd hi (Nat.not_lt_zero _)⟩
theorem AtState.fin {g : Gr} {b : Nat} {seq : List Int} {h s : Nat} {q : List Nat} (k : AtState g b seq h s (g.deg (s / (seq.length + 1))) q) : g.Bfs b seq q (h + 1) := k.bfs.next g k.at' k.shut
theorem AtState.skip {g : Gr} {b : Nat} {seq : List Int} {h s i : Nat} {q : List Nat} (k : AtState g b seq h s i q)
    (hn : g.Arc (s / (seq.length + 1)) i → ∀ t, g.nxt seq (s / (seq.length + 1)) (s % (seq.length + 1)) i = some t → t ∈ q) : AtState g b seq h s (i + 1) q := by
  refine ⟨k.bfs, k.at', fun i' hi' ha t ht => ?_⟩
  by_cases e : i' = i
  · subst e; exact hn ha t ht
  · exact k.shut i' (by omega) ha t ht
theorem AtState.push {g : Gr} {b : Nat} {seq : List Int} {h s i t : Nat} {q : List Nat} (k : AtState g b seq h s i q) (ht : t < g.n * (seq.length + 1)) (hn : t ∉ q)
    (hx : g.nxt seq (s / (seq.length + 1)) (s % (seq.length + 1)) i = some t) : AtState g b seq h s (i + 1) (q ++ [t]) := by
  have hlt : h < q.length := (List.getElem?_eq_some_iff.1 k.at').1
  refine ⟨k.bfs.push g (by omega) ht hn, by rw [List.getElem?_append_left hlt]; exact k.at', fun i' hi' ha t' ht' => ?_⟩
  by_cases e : i' = i
  · subst e
    rw [hx] at ht'
    cases ht'
    simp
  · exact List.mem_append.2 (.inl (k.shut i' (by omega) ha t' ht'))
theorem AtState.room {g : Gr} {b : Nat} {seq : List Int} {h s i t : Nat} {q : List Nat} (k : AtState g b seq h s i q) (ht : t < g.n * (seq.length + 1)) (hn : t ∉ q) : q.length < g.n * (seq.length + 1) := by
  have hlt : h < q.length := (List.getElem?_eq_some_iff.1 k.at').1
  have := (k.bfs.push g (by omega) ht hn).len g
  simp at this
  omega
theorem Try.info4 : (Try.prog.info? 4).map (fun i => (i.zero, i.size, i.bytes)) = some (some (.bool false), 1, 1) := by kernel_rfl

theorem made_at (z : Value) (n i : Nat) (h : i < n) : (madeCells #[z] n)[i]? = some z := by simp [madeCells, h, Nat.mod_one]

theorem Wq.start (w : World) (N B : Nat) (hB : B < N) : Wq N w [B] ((w.alloc (Obj.cells ((madeCells #[Value.bool false] N).setIfInBounds B (Value.bool true)) 4)).alloc (Obj.cells ((madeCells #[Value.int IntKind.i64 0] N).setIfInBounds 0 (Value.int IntKind.i64 (B : Int))) 3)) := by
  refine ⟨?_, ?_, ((Below.refl _ _).alloc (Nat.le_refl _) _).alloc (by simp) _, by simp⟩
  · refine World.rowIs.alloc ?_ _
    have := World.rowIs_alloc w ((madeCells #[Value.bool false] N).setIfInBounds B (Value.bool true)) 4 (fun t => .bool (decide (t ∈ [B]))) (fun i hi => ?_)
    · simpa [size_madeCells] using this
    · simp [size_madeCells] at hi
      rw [Array.getElem?_setIfInBounds]
      by_cases e : B = i
      · subst e; simp [size_madeCells, hB]
      · rw [if_neg e, made_at _ _ _ hi]; simp [Ne.symm e]
  · have := World.rowIs_alloc (w.alloc (Obj.cells ((madeCells #[Value.bool false] N).setIfInBounds B (Value.bool true)) 4)) ((madeCells #[Value.int IntKind.i64 0] N).setIfInBounds 0 (Value.int IntKind.i64 (B : Int))) 3 (fun i => .int .i64 (([B].getD i 0 : Nat) : Int)) (fun i hi => ?_)
    · simpa [size_madeCells] using this
    · simp [size_madeCells] at hi
      rw [Array.getElem?_setIfInBounds]
      by_cases e : 0 = i
      · subst e; simp [size_madeCells, hi]
      · rw [if_neg e, made_at _ _ _ hi]
        cases i with
        | zero => exact absurd rfl e
        | succ i => simp [List.getD]

/-- The letters of one arc in the reading. -/
structure RL (TR LR : Nat → List Int) (ord seq : List Int) (k s x j i y : Nat) (Z o : Int) : Prop where
  hk : seq.length = k
  hx : s / (k + 1) = x
  hj : s % (k + 1) = j
  hy : (TR x).getD i 0 = (y : Int)
  hz : (LR x).getD i 0 = Z
  ho : ord.getD y 0 = o
section
variable {n : Nat} {TR LR : Nat → List Int} {ord lev seq : List Int} {k s x j i y b h : Nat} {Z o up : Int} {q : List Nat}
theorem RL.T (r : RL TR LR ord seq k s x j i y Z o) : (grOf n TR LR ord lev up).T x i = y := by show ((TR x).getD i 0).toNat = y; rw [r.hy]; omega
theorem RL.none (r : RL TR LR ord seq k s x j i y Z o) (h0 : 0 ≤ Z) (hn : ¬ (j < k ∧ seq.getD j 0 = Z)) : (grOf n TR LR ord lev up).nxt seq x j i = none := by
  unfold Gr.nxt
  have e : (grOf n TR LR ord lev up).L x i = Z := r.hz
  rw [e, if_pos h0, r.hk, if_neg hn]
theorem RL.pos (r : RL TR LR ord seq k s x j i y Z o) (h0 : 0 ≤ Z) (hn : j < k) (he : seq.getD j 0 = Z) : (grOf n TR LR ord lev up).nxt seq x j i = some (y * (k + 1) + (j + 1)) := by
  unfold Gr.nxt
  have e : (grOf n TR LR ord lev up).L x i = Z := r.hz
  rw [e, if_pos h0, r.hk, if_pos ⟨hn, he⟩, r.T]
theorem RL.neg (r : RL TR LR ord seq k s x j i y Z o) (h0 : ¬ 0 ≤ Z) : (grOf n TR LR ord lev up).nxt seq x j i = some (y * (k + 1) + j) := by
  unfold Gr.nxt
  have e : (grOf n TR LR ord lev up).L x i = Z := r.hz
  rw [e, if_neg h0, r.hk, r.T]
theorem RL.far (r : RL TR LR ord seq k s x j i y Z o) (a : AtState (grOf n TR LR ord lev up) b seq h s i q) (ho : up < o) : AtState (grOf n TR LR ord lev up) b seq h s (i + 1) q := by
  refine a.skip (fun ha => absurd ?_ (Int.not_le.2 ho))
  have h1 : (grOf n TR LR ord lev up).O ((grOf n TR LR ord lev up).T (s / (seq.length + 1)) i) ≤ up := ha.2.2.2
  rw [r.hk, r.hx, r.T] at h1
  have h2 : ord.getD y 0 ≤ up := h1
  rwa [r.ho] at h2
theorem RL.out (r : RL TR LR ord seq k s x j i y Z o) (a : AtState (grOf n TR LR ord lev up) b seq h s i q) (hn : (grOf n TR LR ord lev up).nxt seq x j i = .none) : AtState (grOf n TR LR ord lev up) b seq h s (i + 1) q := by
  refine a.skip (fun _ t ht => ?_)
  rw [r.hk, r.hx, r.hj, hn] at ht
  cases ht
theorem RL.met (r : RL TR LR ord seq k s x j i y Z o) (a : AtState (grOf n TR LR ord lev up) b seq h s i q) {t : Nat} (hn : (grOf n TR LR ord lev up).nxt seq x j i = some t) (hm : t ∈ q) : AtState (grOf n TR LR ord lev up) b seq h s (i + 1) q := by
  refine a.skip (fun _ t' ht => ?_)
  rw [r.hk, r.hx, r.hj, hn] at ht
  cases ht
  exact hm
theorem RL.new (r : RL TR LR ord seq k s x j i y Z o) (a : AtState (grOf n TR LR ord lev up) b seq h s i q) {t : Nat} (hn : (grOf n TR LR ord lev up).nxt seq x j i = some t) (hm : t ∉ q) (ht : t < n * (k + 1)) : AtState (grOf n TR LR ord lev up) b seq h s (i + 1) (q ++ [t]) := by
  refine a.push (by rw [r.hk]; exact ht) hm ?_
  rw [r.hk, r.hx, r.hj]; exact hn
end

set_option maxRecDepth 100000 in
set_option maxHeartbeats 1000000 in
theorem reads_any (ta la oa sa : Option Addr) (n tc lc oc sc : Nat) (tra lra : Nat → Option Addr) (trc lrc : Nat → Nat) (TR LR : Nat → List Int) (ord lev mark seq : List Int) (st up : Int) (a b : Nat) (w : World)
    (hT : RowsAt w ta n tra trc TR) (hL : RowsAt w la n lra lrc LR) (hO : Row w oa ord) (hS : Row w sa seq) (hol : ord.length = n) (hn : n ≤ 4096) (hs : seq.length ≤ 4096) (hD : Dom n TR LR lev.length mark st a b) :
    Calls Try.prog 20 #[.slice ta n tc, .slice la n lc, .slice oa n oc, .int .i64 up, .int .i64 (a : Int), .int .i64 (b : Int), .slice sa seq.length sc] w fun e w' =>
      BoolKept (fun r => (∃ m c, (grOf n TR LR ord lev up).Wk b a m c seq) → r = true) w e w' := by
  obtain ⟨k, hk⟩ : ∃ k, seq.length = k := ⟨_, rfl⟩
  have HSL := hidden hk
  rw [hk] at hs ⊢
  clear hk
  obtain ⟨N, hN⟩ : ∃ N : Nat, (n : Int) * ((k : Int) + 1) = (N : Int) := ⟨n * (k + 1), by simp⟩
  have hN' : N = n * (k + 1) := by have : ((n * (k + 1) : Nat) : Int) = N := by rw [← hN]; simp
                                   omega
  have hNb : N ≤ 20000000 := by
    rw [hN']
    exact Nat.le_trans (Nat.mul_le_mul hn (Nat.add_le_add_right hs 1)) (by decide)
  have hmkb := run_make_row' (P := Try.prog) 28 4 (.bool false) 1 Try.underlying28 Try.info4 rfl .i64 .i64 N (by omega) (by omega)
  have hmki := run_make_row' (P := Try.prog) 24 3 (.int .i64 0) 8 Try.underlying24 Try.info3 rfl .i64 .i64 N (by omega) (by omega)
  have HT := hidden hT
  have HL := hidden hL
  have HO := hidden hO
  have HS := hidden hS
  have HD := hidden hD
  have HOL := hidden hol
  have hb1 := hD.b0.2
  have ha1 := hD.a0.2
  have key : ∀ v j : Nat, v < n → j ≤ k → v * (k + 1) + j < N := fun v j hv hj => by
    have h1 : (v + 1) * (k + 1) ≤ n * (k + 1) := Nat.mul_le_mul_right _ hv
    rw [Nat.add_mul] at h1
    omega
  clear hT hL hO hS hD hol
  obtain ⟨B, hB⟩ : ∃ B : Nat, (b : Int) * ((k : Int) + 1) = (B : Int) := ⟨b * (k + 1), by simp⟩
  have hB' : B = b * (k + 1) := by have : ((b * (k + 1) : Nat) : Int) = B := by rw [← hB]; simp
                                   omega
  obtain ⟨A, hA⟩ : ∃ A : Nat, (a : Int) * ((k : Int) + 1) = (A : Int) := ⟨a * (k + 1), by simp⟩
  have hA' : A = a * (k + 1) := by have : ((a * (k + 1) : Nat) : Int) = A := by rw [← hA]; simp
                                   omega
  have hB1 : B < N := by have := key b 0 (by omega) (by omega); omega
  have hA1 : A + k < N := by have := key a k (by omega) (by omega); omega
  have HN := hidden hN'
  have HB := hidden hB'
  have HA := hidden hA'
  have HKey := hidden key
  clear key hN' hB' hA'
  have hm1 := made_at (.bool false) N B hB1
  have hm2 := made_at (.int .i64 0) N 0 (by omega)
  go_enter Try.func20, Try.ntmps20
  go_wp2
  clear hmkb hmki hm1 hm2 hN hB
  go_loopw [20, 21] (fun hd tl wr => ∃ h q, hd = .int .i64 ((h : Nat) : Int) ∧ tl = .int .i64 ((q.length : Nat) : Int) ∧ h ≤ q.length ∧ Hid (Wq N w q wr) ∧ Hid ((grOf n TR LR ord lev up).Bfs b seq q h)) (fun hd _ _ => N - (intOf hd).toNat)
  case atStart => exact ⟨0, [B], rfl, rfl, by simp, Wq.start w N B hB1, by rw [HB.out]; rw [← HSL.out]; exact Gr.bfs_start _ (by show b < n; omega)⟩
  case round =>
    obtain ⟨h, q, rfl, rfl, hh, HQ, HF⟩ := hrel
    have hql : q.length ≤ N := by rw [HN.out, ← HSL.out]; exact HF.out.len _
    obtain ⟨tl, htl⟩ : ∃ tl, q.length = tl := ⟨_, rfl⟩
    have HTL := hidden htl
    rw [htl] at hh hql ⊢
    clear htl
    by_cases hlt : (h : Int) < tl
    · have hcq := HQ.out.queue.cell (i := h) (by omega)
      obtain ⟨s, hs'⟩ : ∃ s, q.getD h 0 = s := ⟨_, rfl⟩
      have hqs : q[h]? = some s := by
        have hl : h < q.length := by rw [HTL.out]; omega
        rw [← hs']; simp [List.getD, List.getElem?_eq_getElem hl]
      rw [hs'] at hcq
      have hsN : s < N := by rw [HN.out, ← HSL.out]; exact HF.out.lt s (List.mem_of_getElem? hqs)
      have hst := AtState.start HF.out hqs
      clear hs' hqs HF
      obtain ⟨x, hx⟩ : ∃ x : Nat, Int.tdiv (s : Int) ((k : Int) + 1) = (x : Int) := ⟨s / (k + 1), by rw [Int.tdiv_eq_ediv_of_nonneg (by omega)]; simp⟩
      obtain ⟨j, hj⟩ : ∃ j : Nat, Int.tmod (s : Int) ((k : Int) + 1) = (j : Int) := ⟨s % (k + 1), by rw [Int.tmod_eq_emod_of_nonneg (by omega)]; simp⟩
      have hx' : s / (k + 1) = x := by rw [Int.tdiv_eq_ediv_of_nonneg (by omega)] at hx; have : ((s / (k + 1) : Nat) : Int) = x := by rw [← hx]; simp
                                       omega
      have hj' : s % (k + 1) = j := by rw [Int.tmod_eq_emod_of_nonneg (by omega)] at hj; have : ((s % (k + 1) : Nat) : Int) = j := by rw [← hj]; simp
                                       omega
      have hjk : j ≤ k := by have := Nat.mod_lt s (show 0 < k + 1 by omega); omega
      have hxn : x < n := by
        rw [← hx']
        rw [HN.out] at hsN
        exact Nat.div_lt_of_lt_mul (by rw [Nat.mul_comm]; exact hsN)
      have HX := hidden (And.intro hx' hj')
      clear hx' hj'
      obtain ⟨tb, to, hta, hct, hRt, hmt⟩ := HT.out.kept HQ.out.bel x (by omega)
      subst hta
      go_wp2
      clear hct hRt hx hj hcq
      go_loopw [21, 25] (fun tl i wr => ∃ i' q, i' ≤ (TR x).length ∧ i = .int .i64 ((i' : Nat) : Int) ∧ tl = .int .i64 ((q.length : Nat) : Int) ∧ h + 1 ≤ q.length ∧ Hid (Wq N w q wr) ∧ Hid (AtState (grOf n TR LR ord lev up) b seq h s i' q)) (fun _ i _ => (TR x).length - (intOf i).toNat)
      case atStart => exact ⟨0, q, by omega, rfl, by rw [HTL.out], by rw [HTL.out]; omega, HQ, hst⟩
      case round =>
        have hhN : h < N := by omega
        clear HQ hst HTL hlt hh hql
        obtain ⟨i, q, hi, rfl, rfl, hh, HQ, HAS⟩ := hrel
        have hql : q.length ≤ N := by rw [HN.out, ← HSL.out]; exact HAS.out.bfs.len _
        obtain ⟨tl, htl⟩ : ∃ tl, q.length = tl := ⟨_, rfl⟩
        have HTL := hidden htl
        rw [htl] at hh hql ⊢
        clear htl
        obtain ⟨tb', to', hta', hct, hRt, hmt⟩ := HT.out.kept HQ.out.bel x (by omega)
        cases hta'
        by_cases hli : (i : Int) < (TR x).length
        · obtain ⟨lb, lo, hla, hcl, hRl, hml⟩ := HL.out.kept HQ.out.bel x (by omega)
          subst hla
          have hlen := HD.out.len x (by omega)
          obtain ⟨b1, o1, hra, hcy, hy⟩ := hRt i (by omega)
          obtain ⟨b2, o2, hrb, hcz, hz⟩ := hRl i (by omega)
          obtain ⟨a1, a2, a3⟩ := HD.out.arc x i (by omega) (by omega)
          rw [hra] at hct
          rw [hrb] at hcl
          obtain ⟨y, hy'⟩ : ∃ y : Nat, (TR x).getD i 0 = (y : Int) := ⟨((TR x).getD i 0).toNat, by omega⟩
          obtain ⟨Z, hz'⟩ : ∃ Z, (LR x).getD i 0 = Z := ⟨_, rfl⟩
          rw [hy'] at hcy a1 a2
          rw [hz'] at hcz hz a3
          obtain ⟨ob, oo, hoa, hco, ho⟩ := HO.out.kept HQ.out.bel y (by have := HOL.out; omega)
          subst hoa
          obtain ⟨o, ho'⟩ : ∃ o, ord.getD y 0 = o := ⟨_, rfl⟩
          rw [ho'] at hco ho
          have HRL : Hid (RL TR LR ord seq k s x j i y Z o) := RL.mk HSL.out HX.out.1 HX.out.2 hy' hz' ho'
          have hz1 := hz.1
          have hz2 := hz.2
          have ho1 := ho.1
          have ho2 := ho.2
          have hyk : (y : Int) < n := a2
          have hlj' : (i : Int) < (LR x).length := by omega
          clear hy' hz' ho' hra hrb hz ho hy a1 a2 a3 hRt hRl hlen
          obtain ⟨M, hM⟩ : ∃ M : Nat, (y : Int) * ((k : Int) + 1) = (M : Int) := ⟨y * (k + 1), by simp⟩
          have hM' : M = y * (k + 1) := by have : ((y * (k + 1) : Nat) : Int) = M := by rw [← hM]; simp
                                           omega
          have hMN : ∀ jj, jj ≤ k → M + jj < N := fun jj hjj => by rw [hM']; exact HKey.out y jj (by omega) hjj
          have hMj := hMN j hjk
          have HM := hidden hM'
          clear hM'
          by_cases c1 : up < o
          · clear hMN
            go_wp2
            go_roundw
            case rel => exact ⟨i + 1, q, by omega, by go_num, by rw [HTL.out], by rw [HTL.out]; omega, HQ, HRL.out.far HAS.out c1⟩
            case measure => simp [intOf]; omega
          · by_cases c2 : 0 ≤ Z
            · by_cases c3 : j < k
              · obtain ⟨sb, so, hsa, hcs, hsi⟩ := HS.out.kept HQ.out.bel j (by rw [HSL.out]; exact c3)
                subst hsa
                obtain ⟨S, hS'⟩ : ∃ S, seq.getD j 0 = S := ⟨_, rfl⟩
                rw [hS'] at hcs hsi
                have HSS := hidden hS'
                clear hS'
                have hs1 := hsi.1
                have hs2 := hsi.2
                by_cases c4 : S = Z
                · subst c4
                  have hMj1 := hMN (j + 1) (by omega)
                  clear hMN hsi
                  obtain ⟨t, ht⟩ : ∃ t : Nat, t = M + (j + 1) := ⟨_, rfl⟩
                  have hti : (M : Int) + ((j : Int) + 1) = (t : Int) := by omega
                  have htN : t < N := by omega
                  have hcr := HQ.out.reach.cell (i := t) (by omega)
                  have hfr := HQ.out.reach.frozen t
                  have hnx : (grOf n TR LR ord lev up).nxt seq x j i = some t := by rw [ht, HM.out]; exact HRL.out.pos c2 c3 HSS.out
                  have HNX := hidden hnx
                  clear hnx ht
                  by_cases hmem : t ∈ q
                  · have hcr' : wr.cell? ⟨w.heap.size, t, none⟩ = some (.bool true) := by rw [hcr]; simp [hmem]
                    clear hcr
                    go_wp2
                    go_roundw
                    case rel => exact ⟨i + 1, q, by omega, by go_num, by rw [HTL.out], by rw [HTL.out]; omega, HQ, HRL.out.met HAS.out HNX.out hmem⟩
                    case measure => simp [intOf]; omega
                  · have hcr' : wr.cell? ⟨w.heap.size, t, none⟩ = some (.bool false) := by rw [hcr]; simp [hmem]
                    clear hcr
                    have hroom : tl < N := by
                      have := HAS.out.room (t := t) (by show t < n * (seq.length + 1); rw [HSL.out, ← HN.out]; exact htN) hmem
                      rw [HTL.out] at this
                      have h2 : tl < n * (seq.length + 1) := this
                      rw [HSL.out, ← HN.out] at h2
                      exact h2
                    have hcw := HQ.out.queue.cell (i := tl) (by omega)
                    have hfw := HQ.out.queue.frozen tl
                    obtain ⟨V, hV⟩ : ∃ V, (.int .i64 ((q.getD tl 0 : Nat) : Int) : Value) = V := ⟨_, rfl⟩
                    rw [hV] at hcw
                    clear hV
                    go_wp2
                    go_roundw
                    case rel => exact ⟨i + 1, q ++ [t], by omega, by go_num, by rw [List.length_append, HTL.out]; go_num, by rw [List.length_append, HTL.out]; simp; omega, HQ.out.put t tl HTL.out.symm, HRL.out.new HAS.out HNX.out hmem (by rw [← HN.out]; exact htN)⟩
                    case measure => simp [intOf]; omega
                · have c4' : (S != Z) = true := by simpa using c4
                  clear hMN hsi
                  go_wp2
                  go_roundw
                  case rel => exact ⟨i + 1, q, by omega, by go_num, by rw [HTL.out], by rw [HTL.out]; omega, HQ, HRL.out.out HAS.out (HRL.out.none c2 (fun e => c4 (by rw [← HSS.out]; exact e.2)))⟩
                  case measure => simp [intOf]; omega
              · clear hMN
                go_wp2
                go_roundw
                case rel => exact ⟨i + 1, q, by omega, by go_num, by rw [HTL.out], by rw [HTL.out]; omega, HQ, HRL.out.out HAS.out (HRL.out.none c2 (fun e => c3 e.1))⟩
                case measure => simp [intOf]; omega
            · clear hMN
              obtain ⟨t, ht⟩ : ∃ t : Nat, t = M + j := ⟨_, rfl⟩
              have hti : (M : Int) + (j : Int) = (t : Int) := by omega
              have htN : t < N := by omega
              have hcr := HQ.out.reach.cell (i := t) (by omega)
              have hfr := HQ.out.reach.frozen t
              have hnx : (grOf n TR LR ord lev up).nxt seq x j i = some t := by rw [ht, HM.out]; exact HRL.out.neg c2
              have HNX := hidden hnx
              clear hnx ht
              by_cases hmem : t ∈ q
              · have hcr' : wr.cell? ⟨w.heap.size, t, none⟩ = some (.bool true) := by rw [hcr]; simp [hmem]
                clear hcr
                go_wp2
                go_roundw
                case rel => exact ⟨i + 1, q, by omega, by go_num, by rw [HTL.out], by rw [HTL.out]; omega, HQ, HRL.out.met HAS.out HNX.out hmem⟩
                case measure => simp [intOf]; omega
              · have hcr' : wr.cell? ⟨w.heap.size, t, none⟩ = some (.bool false) := by rw [hcr]; simp [hmem]
                clear hcr
                have hroom : tl < N := by
                  have := HAS.out.room (t := t) (by show t < n * (seq.length + 1); rw [HSL.out, ← HN.out]; exact htN) hmem
                  rw [HTL.out] at this
                  have h2 : tl < n * (seq.length + 1) := this
                  rw [HSL.out, ← HN.out] at h2
                  exact h2
                have hcw := HQ.out.queue.cell (i := tl) (by omega)
                have hfw := HQ.out.queue.frozen tl
                obtain ⟨V, hV⟩ : ∃ V, (.int .i64 ((q.getD tl 0 : Nat) : Int) : Value) = V := ⟨_, rfl⟩
                rw [hV] at hcw
                clear hV
                go_wp2
                go_roundw
                case rel => exact ⟨i + 1, q ++ [t], by omega, by go_num, by rw [List.length_append, HTL.out]; go_num, by rw [List.length_append, HTL.out]; simp; omega, HQ.out.put t tl HTL.out.symm, HRL.out.new HAS.out HNX.out hmem (by rw [← HN.out]; exact htN)⟩
                case measure => simp [intOf]; omega
        · have e : i = (TR x).length := by omega
          subst e
          go_wp2
          go_roundw
          case rel => exact ⟨h + 1, q, by go_num, by rw [HTL.out], by rw [HTL.out]; omega, HQ, AtState.fin (s := s) (by show AtState _ b seq h s (TR (s / (seq.length + 1))).length q; rw [HSL.out, HX.out.1]; exact HAS.out)⟩
          case measure => simp [intOf]; omega
    · have e : h = tl := by omega
      subst e
      have hcr := HQ.out.reach.cell (i := A + k) (by omega)
      have hti : (A : Int) + (k : Int) = ((A + k : Nat) : Int) := by omega
      obtain ⟨t, ht⟩ : ∃ t : Nat, t = A + k := ⟨_, rfl⟩
      rw [← ht] at hcr hti
      have HTT := hidden ht
      have ht2 : t < N := by omega
      clear ht
      obtain ⟨r, hr⟩ : ∃ r, decide (t ∈ q) = r := ⟨_, rfl⟩
      rw [hr] at hcr
      have HR := hidden hr
      clear hr
      go_wp2
      go_ret
      refine BoolKept.mk r rfl ?_ HQ.out.bel
      intro m c hw
      have hf := HF.out
      rw [← HTL.out] at hf
      have := hf.found _ hw
      rw [HSL.out, ← HA.out, ← HTT.out] at this
      rw [← HR.out]
      simp [this]
end Go.Proofs.Qxb6603374a
