/- The contract of ZZCycle. -/
import Derived.Test.Qxb6603374aCyc
import Derived.Test.Qxb6603374aZcMem
namespace Go.Proofs.Qxb6603374a
open Go.ChangeShapes Go.WideShapes Go.ChangeAt Go.RowKit

theorem poly_cell {w : World} {b : Nat} {v0 v3 v18 v35 v36 v37 v38 : Value} (h : w.heap[b]? = some (.cells (poly v0 v3 v18 v35 v36 v37 v38) 67)) :
    w.cell? ⟨b, 0, none⟩ = some v0 ∧ w.cell? ⟨b, 3, none⟩ = some v3 ∧ w.cell? ⟨b, 18, none⟩ = some v18 ∧ w.cell? ⟨b, 35, none⟩ = some v35 ∧ w.cell? ⟨b, 36, none⟩ = some v36 ∧ w.cell? ⟨b, 37, none⟩ = some v37 ∧ w.cell? ⟨b, 38, none⟩ = some v38 ∧ w.frozen? ⟨b, 36, none⟩ = false := by
  simp [World.cell?, World.frozen?, h, poly]
theorem env_of {n oB mB dB vB S : Nat} {ta la oa va : Option Addr} {oc vc : Nat} {tra lra : Nat → Option Addr} {trc lrc : Nat → Nat} {TR LR : Nat → List Int} {ord lev mark : List Int} {st a b : Int} {w0 w wr wz : World}
    (hT : RowsAt w0 ta n tra trc TR) (hL : RowsAt w0 la n lra lrc LR) (hO : Row w0 oa ord) (hV : Row w0 va lev) (hlen : ∀ x, x < n → (TR x).length ≤ 1048576) (hD : Dom n TR LR lev.length mark st a b)
    (hbel : Below w0.heap.size w0 w) (hm0 : w0.heap.size = mB) (hm2 : oB = mB + 1) (hm : w.rowIs mB 3 n (fun y => .int .i64 (mark.getD y 0)))
    (HB : Built oB n TR LR w n 0 wr) (hS : wr.heap.size = S) (hz : Below S wr wz) (hz2 : wz.heap.size = S + 3)
    (hp : wz.heap[S + 2]? = some (.cells (poly (.slice (some ⟨oB, 0, none⟩) n n) (.slice oa n oc) (.slice va lev.length vc) (.slice (some ⟨mB, 0, none⟩) n n) (.int .i64 st) (.slice (some ⟨vB, 0, none⟩) n n) (.slice (some ⟨dB, 0, none⟩) n n)) 67))
    (hdv : (dB = S ∧ vB = S + 1) ∨ (dB = S + 1 ∧ vB = S)) :
    CEnv (S + 3) (S + 2) oB mB dB vB n (fun v => oB + 1 + v) oa va oc vc TR LR ord lev st w0 wz ∧ (oB ≠ S + 2 ∧ ∀ x, x < n → oB + 1 + x ≠ S + 2) ∧ wz.frozen? ⟨S + 2, 36, none⟩ = false ∧ wz.rowIs mB 3 n (fun y => .int .i64 (mark.getD y 0)) := by
  obtain ⟨p0, p3, p18, p35, p36, p37, p38, pf⟩ := poly_cell hp
  have hsz := HB.sz
  have hout := HB.out.of_block (hz.block oB (by omega))
  have hrow : ∀ v, v < n → wz.rowIs (oB + 1 + v) 57 ((TR v).length * 2) (arcCell TR LR v) := fun v hv => (HB.rows v hv).of_block (hz.block _ (by omega))
  have hb0 : Below w0.heap.size w0 wz := (hbel.trans (HB.bel.mono (by omega))).trans (hz.mono (by omega))
  refine ⟨⟨p0, p3, p18, p35, p36, p37, p38, fun x hx => ?_, fun x i hx hi => ?_, fun x i hx hi => ?_, fun x i hx hi => ?_, fun x hx => ?_, hb0, hO, hV, hz2, by omega, by omega, fun x hx => by omega, by omega, by omega, by omega⟩, ⟨by omega, fun x hx => by omega⟩, pf, ?_⟩
  · rw [hout.cell hx, if_pos hx]
  · rw [(hrow x hx).cell (by omega), arcCell_to]
  · rw [(hrow x hx).cell (by omega), arcCell_lit]
  · obtain ⟨_, _, _, _, hr, _⟩ := hT x hx
    obtain ⟨_, _, _, _, hr2, _⟩ := hL x hx
    obtain ⟨_, _, _, _, h1⟩ := hr i hi
    obtain ⟨_, _, _, _, h2⟩ := hr2 i (by rw [hD.len x hx]; exact hi)
    exact ⟨h1, h2⟩
  · have := hlen x hx; omega
  · have h1 := hm.of_block (HB.bel.block mB (by omega))
    exact h1.of_block (hz.block mB (by omega))

theorem zc_call1 {n oB mB S a b : Nat} {ta la oa va : Option Addr} {oc vc : Nat} {tra lra : Nat → Option Addr} {trc lrc : Nat → Nat} {TR LR : Nat → List Int} {ord lev mark : List Int} {st p up : Int} {w0 w wr : World}
    (hT : RowsAt w0 ta n tra trc TR) (hL : RowsAt w0 la n lra lrc LR) (hO : Row w0 oa ord) (hV : Row w0 va lev) (hlen : ∀ x, x < n → (TR x).length ≤ 1048576) (hD : Dom n TR LR lev.length mark st a b)
    (hbel : Below w0.heap.size w0 w) (hms : w0.heap.size = mB ∧ w.heap.size = oB ∧ oB = mB + 1) (hm : w.rowIs mB 3 n (fun y => .int .i64 (mark.getD y 0)))
    (HB : Built oB n TR LR w n 0 wr) (hS : wr.heap.size = S) (hn : n ≤ 4096) (hol : ord.length = n) (hst : I64 st) (hup : ord.getD a 0 = up) (hex : ∃ m c s, (grOf n TR LR ord lev up).Wk b a m c s) :
    Calls Try.prog 33 #[.pointer (some ⟨S + 1 + 1, 0, none⟩), .int .i64 (a : Int), .int .i64 (b : Int), .int .i64 p] ((((wr.alloc (Obj.cells (madeCells #[Value.int IntKind.i64 0] n) 3)).alloc (Obj.cells (madeCells #[Value.int IntKind.i64 0, Value.int IntKind.i64 0] (n * 2)) 57)).alloc (Obj.cells (poly (Value.slice (some ⟨oB, 0, none⟩) n n) (Value.slice oa n oc) (Value.slice va lev.length vc) (Value.slice (some ⟨mB, 0, none⟩) n n) (Value.int IntKind.i64 st) (Value.slice (some ⟨S + 1, 0, none⟩) n n) (Value.slice (some ⟨S, 0, none⟩) n n)) 67)).drew) fun e w' => CycEnd (grOf n TR LR ord lev up) a b p w0 e w' := by
  obtain ⟨hm0, hm1, hm2⟩ := hms
  have e1 : (wr.alloc (Obj.cells (madeCells #[Value.int IntKind.i64 0] n) 3)).heap.size = S + 1 := by simp; omega
  have e2 : ((wr.alloc (Obj.cells (madeCells #[Value.int IntKind.i64 0] n) 3)).alloc (Obj.cells (madeCells #[Value.int IntKind.i64 0, Value.int IntKind.i64 0] (n * 2)) 57)).heap.size = S + 2 := by simp; omega
  have hb1 : Below S wr ((((wr.alloc (Obj.cells (madeCells #[Value.int IntKind.i64 0] n) 3)).alloc (Obj.cells (madeCells #[Value.int IntKind.i64 0, Value.int IntKind.i64 0] (n * 2)) 57)).alloc (Obj.cells (poly (Value.slice (some ⟨oB, 0, none⟩) n n) (Value.slice oa n oc) (Value.slice va lev.length vc) (Value.slice (some ⟨mB, 0, none⟩) n n) (Value.int IntKind.i64 st) (Value.slice (some ⟨S + 1, 0, none⟩) n n) (Value.slice (some ⟨S, 0, none⟩) n n)) 67)).drew) := ((((Below.refl _ _).alloc (by omega) _).alloc (by omega) _).alloc (by omega) _).drew
  have hb2 : ((((wr.alloc (Obj.cells (madeCells #[Value.int IntKind.i64 0] n) 3)).alloc (Obj.cells (madeCells #[Value.int IntKind.i64 0, Value.int IntKind.i64 0] (n * 2)) 57)).alloc (Obj.cells (poly (Value.slice (some ⟨oB, 0, none⟩) n n) (Value.slice oa n oc) (Value.slice va lev.length vc) (Value.slice (some ⟨mB, 0, none⟩) n n) (Value.int IntKind.i64 st) (Value.slice (some ⟨S + 1, 0, none⟩) n n) (Value.slice (some ⟨S, 0, none⟩) n n)) 67)).drew).heap.size = S + 3 := by simp; omega
  have hb3 := heap_alloc_new ((wr.alloc (Obj.cells (madeCells #[Value.int IntKind.i64 0] n) 3)).alloc (Obj.cells (madeCells #[Value.int IntKind.i64 0, Value.int IntKind.i64 0] (n * 2)) 57)) (Obj.cells (poly (Value.slice (some ⟨oB, 0, none⟩) n n) (Value.slice oa n oc) (Value.slice va lev.length vc) (Value.slice (some ⟨mB, 0, none⟩) n n) (Value.int IntKind.i64 st) (Value.slice (some ⟨S + 1, 0, none⟩) n n) (Value.slice (some ⟨S, 0, none⟩) n n)) 67)
  rw [e2] at hb3
  have hd : ((((wr.alloc (Obj.cells (madeCells #[Value.int IntKind.i64 0] n) 3)).alloc (Obj.cells (madeCells #[Value.int IntKind.i64 0, Value.int IntKind.i64 0] (n * 2)) 57)).alloc (Obj.cells (poly (Value.slice (some ⟨oB, 0, none⟩) n n) (Value.slice oa n oc) (Value.slice va lev.length vc) (Value.slice (some ⟨mB, 0, none⟩) n n) (Value.int IntKind.i64 st) (Value.slice (some ⟨S + 1, 0, none⟩) n n) (Value.slice (some ⟨S, 0, none⟩) n n)) 67)).drew).rowIs S 3 n (fun _ => .int .i64 0) := by
    have h := (((World.rowIs_made wr (.int .i64 0) n 3).alloc (Obj.cells (madeCells #[Value.int IntKind.i64 0, Value.int IntKind.i64 0] (n * 2)) 57)).alloc (Obj.cells (poly (Value.slice (some ⟨oB, 0, none⟩) n n) (Value.slice oa n oc) (Value.slice va lev.length vc) (Value.slice (some ⟨mB, 0, none⟩) n n) (Value.int IntKind.i64 st) (Value.slice (some ⟨S + 1, 0, none⟩) n n) (Value.slice (some ⟨S, 0, none⟩) n n)) 67)).drew
    rwa [hS] at h
  have hv : ((((wr.alloc (Obj.cells (madeCells #[Value.int IntKind.i64 0] n) 3)).alloc (Obj.cells (madeCells #[Value.int IntKind.i64 0, Value.int IntKind.i64 0] (n * 2)) 57)).alloc (Obj.cells (poly (Value.slice (some ⟨oB, 0, none⟩) n n) (Value.slice oa n oc) (Value.slice va lev.length vc) (Value.slice (some ⟨mB, 0, none⟩) n n) (Value.int IntKind.i64 st) (Value.slice (some ⟨S + 1, 0, none⟩) n n) (Value.slice (some ⟨S, 0, none⟩) n n)) 67)).drew).rowIs (S + 1) 57 (2 * n) (fun _ => .int .i64 0) := by
    have h := ((rowIs_made_arc (wr.alloc (Obj.cells (madeCells #[Value.int IntKind.i64 0] n) 3)) (n * 2)).alloc (Obj.cells (poly (Value.slice (some ⟨oB, 0, none⟩) n n) (Value.slice oa n oc) (Value.slice va lev.length vc) (Value.slice (some ⟨mB, 0, none⟩) n n) (Value.int IntKind.i64 st) (Value.slice (some ⟨S + 1, 0, none⟩) n n) (Value.slice (some ⟨S, 0, none⟩) n n)) 67)).drew
    rw [e1] at h
    rw [Nat.mul_comm 2 n]; exact h
  obtain ⟨E1, E2, E3, E4⟩ := env_of (dB := S) (vB := S + 1) hT hL hO hV hlen hD hbel hm0 hm2 hm HB hS hb1 hb2 hb3 (.inl ⟨rfl, rfl⟩)
  exact cyc_any (S + 3) (S + 2) oB mB (S) (S + 1) n (fun v => oB + 1 + v) oa va oc vc TR LR ord lev mark st p up a b w0 _ E1 E2 E3 E4 hd hv hn hol hD hst hup hex

theorem zc_call2 {n oB mB S a b : Nat} {ta la oa va : Option Addr} {oc vc : Nat} {tra lra : Nat → Option Addr} {trc lrc : Nat → Nat} {TR LR : Nat → List Int} {ord lev mark : List Int} {st p up : Int} {w0 w wr : World}
    (hT : RowsAt w0 ta n tra trc TR) (hL : RowsAt w0 la n lra lrc LR) (hO : Row w0 oa ord) (hV : Row w0 va lev) (hlen : ∀ x, x < n → (TR x).length ≤ 1048576) (hD : Dom n TR LR lev.length mark st a b)
    (hbel : Below w0.heap.size w0 w) (hms : w0.heap.size = mB ∧ w.heap.size = oB ∧ oB = mB + 1) (hm : w.rowIs mB 3 n (fun y => .int .i64 (mark.getD y 0)))
    (HB : Built oB n TR LR w n 0 wr) (hS : wr.heap.size = S) (hn : n ≤ 4096) (hol : ord.length = n) (hst : I64 st) (hup : ord.getD a 0 = up) (hex : ∃ m c s, (grOf n TR LR ord lev up).Wk b a m c s) :
    Calls Try.prog 33 #[.pointer (some ⟨S + 1 + 1, 0, none⟩), .int .i64 (a : Int), .int .i64 (b : Int), .int .i64 p] ((((wr.alloc (Obj.cells (madeCells #[Value.int IntKind.i64 0, Value.int IntKind.i64 0] (n * 2)) 57)).alloc (Obj.cells (madeCells #[Value.int IntKind.i64 0] n) 3)).alloc (Obj.cells (poly (Value.slice (some ⟨oB, 0, none⟩) n n) (Value.slice oa n oc) (Value.slice va lev.length vc) (Value.slice (some ⟨mB, 0, none⟩) n n) (Value.int IntKind.i64 st) (Value.slice (some ⟨S, 0, none⟩) n n) (Value.slice (some ⟨S + 1, 0, none⟩) n n)) 67)).drew) fun e w' => CycEnd (grOf n TR LR ord lev up) a b p w0 e w' := by
  obtain ⟨hm0, hm1, hm2⟩ := hms
  have e1 : (wr.alloc (Obj.cells (madeCells #[Value.int IntKind.i64 0, Value.int IntKind.i64 0] (n * 2)) 57)).heap.size = S + 1 := by simp; omega
  have e2 : ((wr.alloc (Obj.cells (madeCells #[Value.int IntKind.i64 0, Value.int IntKind.i64 0] (n * 2)) 57)).alloc (Obj.cells (madeCells #[Value.int IntKind.i64 0] n) 3)).heap.size = S + 2 := by simp; omega
  have hb1 : Below S wr ((((wr.alloc (Obj.cells (madeCells #[Value.int IntKind.i64 0, Value.int IntKind.i64 0] (n * 2)) 57)).alloc (Obj.cells (madeCells #[Value.int IntKind.i64 0] n) 3)).alloc (Obj.cells (poly (Value.slice (some ⟨oB, 0, none⟩) n n) (Value.slice oa n oc) (Value.slice va lev.length vc) (Value.slice (some ⟨mB, 0, none⟩) n n) (Value.int IntKind.i64 st) (Value.slice (some ⟨S, 0, none⟩) n n) (Value.slice (some ⟨S + 1, 0, none⟩) n n)) 67)).drew) := ((((Below.refl _ _).alloc (by omega) _).alloc (by omega) _).alloc (by omega) _).drew
  have hb2 : ((((wr.alloc (Obj.cells (madeCells #[Value.int IntKind.i64 0, Value.int IntKind.i64 0] (n * 2)) 57)).alloc (Obj.cells (madeCells #[Value.int IntKind.i64 0] n) 3)).alloc (Obj.cells (poly (Value.slice (some ⟨oB, 0, none⟩) n n) (Value.slice oa n oc) (Value.slice va lev.length vc) (Value.slice (some ⟨mB, 0, none⟩) n n) (Value.int IntKind.i64 st) (Value.slice (some ⟨S, 0, none⟩) n n) (Value.slice (some ⟨S + 1, 0, none⟩) n n)) 67)).drew).heap.size = S + 3 := by simp; omega
  have hb3 := heap_alloc_new ((wr.alloc (Obj.cells (madeCells #[Value.int IntKind.i64 0, Value.int IntKind.i64 0] (n * 2)) 57)).alloc (Obj.cells (madeCells #[Value.int IntKind.i64 0] n) 3)) (Obj.cells (poly (Value.slice (some ⟨oB, 0, none⟩) n n) (Value.slice oa n oc) (Value.slice va lev.length vc) (Value.slice (some ⟨mB, 0, none⟩) n n) (Value.int IntKind.i64 st) (Value.slice (some ⟨S, 0, none⟩) n n) (Value.slice (some ⟨S + 1, 0, none⟩) n n)) 67)
  rw [e2] at hb3
  have hd : ((((wr.alloc (Obj.cells (madeCells #[Value.int IntKind.i64 0, Value.int IntKind.i64 0] (n * 2)) 57)).alloc (Obj.cells (madeCells #[Value.int IntKind.i64 0] n) 3)).alloc (Obj.cells (poly (Value.slice (some ⟨oB, 0, none⟩) n n) (Value.slice oa n oc) (Value.slice va lev.length vc) (Value.slice (some ⟨mB, 0, none⟩) n n) (Value.int IntKind.i64 st) (Value.slice (some ⟨S, 0, none⟩) n n) (Value.slice (some ⟨S + 1, 0, none⟩) n n)) 67)).drew).rowIs (S + 1) 3 n (fun _ => .int .i64 0) := by
    have h := ((World.rowIs_made (wr.alloc (Obj.cells (madeCells #[Value.int IntKind.i64 0, Value.int IntKind.i64 0] (n * 2)) 57)) (.int .i64 0) n 3).alloc (Obj.cells (poly (Value.slice (some ⟨oB, 0, none⟩) n n) (Value.slice oa n oc) (Value.slice va lev.length vc) (Value.slice (some ⟨mB, 0, none⟩) n n) (Value.int IntKind.i64 st) (Value.slice (some ⟨S, 0, none⟩) n n) (Value.slice (some ⟨S + 1, 0, none⟩) n n)) 67)).drew
    rwa [e1] at h
  have hv : ((((wr.alloc (Obj.cells (madeCells #[Value.int IntKind.i64 0, Value.int IntKind.i64 0] (n * 2)) 57)).alloc (Obj.cells (madeCells #[Value.int IntKind.i64 0] n) 3)).alloc (Obj.cells (poly (Value.slice (some ⟨oB, 0, none⟩) n n) (Value.slice oa n oc) (Value.slice va lev.length vc) (Value.slice (some ⟨mB, 0, none⟩) n n) (Value.int IntKind.i64 st) (Value.slice (some ⟨S, 0, none⟩) n n) (Value.slice (some ⟨S + 1, 0, none⟩) n n)) 67)).drew).rowIs S 57 (2 * n) (fun _ => .int .i64 0) := by
    have h := (((rowIs_made_arc wr (n * 2)).alloc (Obj.cells (madeCells #[Value.int IntKind.i64 0] n) 3)).alloc (Obj.cells (poly (Value.slice (some ⟨oB, 0, none⟩) n n) (Value.slice oa n oc) (Value.slice va lev.length vc) (Value.slice (some ⟨mB, 0, none⟩) n n) (Value.int IntKind.i64 st) (Value.slice (some ⟨S, 0, none⟩) n n) (Value.slice (some ⟨S + 1, 0, none⟩) n n)) 67)).drew
    rw [hS] at h
    rw [Nat.mul_comm 2 n]; exact h
  obtain ⟨E1, E2, E3, E4⟩ := env_of (dB := S + 1) (vB := S) hT hL hO hV hlen hD hbel hm0 hm2 hm HB hS hb1 hb2 hb3 (.inr ⟨rfl, rfl⟩)
  exact cyc_any (S + 3) (S + 2) oB mB (S + 1) (S) n (fun v => oB + 1 + v) oa va oc vc TR LR ord lev mark st p up a b w0 _ E1 E2 E3 E4 hd hv hn hol hD hst hup hex

attribute [-go_sem] Instr.build
set_option maxRecDepth 100000 in
set_option maxHeartbeats 20000000 in
theorem zcycle_any (ta la oa va : Option Addr) (n tc lc oc vc : Nat) (tra lra : Nat → Option Addr) (trc lrc : Nat → Nat) (TR LR : Nat → List Int) (ord lev mark : List Int) (st p up : Int) (a b mB oB : Nat) (w0 w : World)
    (hT : RowsAt w0 ta n tra trc TR) (hL : RowsAt w0 la n lra lrc LR) (hO : Row w0 oa ord) (hV : Row w0 va lev) (hol : ord.length = n) (hn : n ≤ 4096) (hlen : ∀ x, x < n → (TR x).length ≤ 1048576)
    (hD : Dom n TR LR lev.length mark st a b) (hst : I64 st) (hup : ord.getD a 0 = up) (hex : ∃ m c s, (grOf n TR LR ord lev up).Wk b a m c s)
    (hbel : Below w0.heap.size w0 w) (hm0 : w0.heap.size = mB) (hm1 : w.heap.size = oB) (hm2 : oB = mB + 1) (hm : w.rowIs mB 3 n (fun y => .int .i64 (mark.getD y 0))) :
    Calls Try.prog 19 #[.slice ta n tc, .slice la n lc, .slice oa n oc, .slice va lev.length vc, .slice (some ⟨mB, 0, none⟩) n n, .int .i64 st, .int .i64 (a : Int), .int .i64 (b : Int), .int .i64 p] w fun e w' => CycEnd (grOf n TR LR ord lev up) a b p w0 e w' := by
  have hmk := run_make_row' (P := Try.prog) 54 55 (.slice none 0 0) 24 Try.underlying54 Try.info55 rfl .i64 .i64 n (by omega) (by omega)
  have HT := hidden hT
  have HL := hidden hL
  have HO := hidden hO
  have HV := hidden hV
  have HD := hidden hD
  have HOL := hidden hol
  have HST := hidden hst
  have HUP := hidden hup
  have HEX := hidden hex
  have HBEL := hidden hbel
  have HM := hidden hm
  have HMS := hidden (And.intro hm0 (And.intro hm1 hm2))
  have HLEN := hidden hlen
  clear hT hL hO hV hD hol hst hup hex hbel hm hlen hm0 hm2
  go_enter Try.func19, Try.ntmps19
  go_wp2
  clear hmk
  go_loopg [21] n (fun k i wr => ∃ x : Nat, x + k = n ∧ i = .int .i64 (x : Int) ∧ Hid (Built oB n TR LR w x 0 wr))
  case atStart => exact ⟨0, by omega, rfl, Built.start hm1⟩
  case round =>
    clear hm1
    obtain ⟨x, hxk, rfl, HB⟩ := hrel
    have hbw : Below w0.heap.size w0 wr := HBEL.out.trans (HB.out.bel.mono (by have := HMS.out; omega))
    have HBW := hidden hbw
    clear hbw
    by_cases hlt : (x : Int) < n
    · obtain ⟨tb, tq, hta, hct, hRt, hmt⟩ := HT.out.kept HBW.out x (by omega)
      subst hta
      have hlx := HLEN.out x (by omega)
      have hmk2 := run_make_arc (TR x).length hlx
      have hsz := HB.out.sz
      obtain ⟨rB, hrB⟩ : ∃ rB, oB + 1 + x = rB := ⟨_, rfl⟩
      have hsz2 : wr.heap.size = rB := by omega
      have HRB := hidden hrB
      clear hsz hrB
      go_wp2
      clear hmk2 hct
      go_loopg [23] (TR x).length (fun k i wr => ∃ j : Nat, j + k = (TR x).length ∧ i = .int .i64 (j : Int) ∧ Hid (Built oB n TR LR w x 1 wr) ∧ Hid (Part oB TR LR x j wr))
      case atStart => exact ⟨0, by omega, rfl, HB.out.make _, Part.start (by rw [HRB.out]; exact hsz2)⟩
      case round =>
        clear HB HBW hsz2
        obtain ⟨j, hjk, rfl, HB, HP⟩ := hrel
        have HBW : Hid (Below w0.heap.size w0 wr) := HBEL.out.trans (HB.out.bel.mono (by have := HMS.out; omega))
        obtain ⟨tb', tq', hta', hct, hRt, hmt'⟩ := HT.out.kept HBW.out x (by omega)
        cases hta'
        by_cases hlj : j < (TR x).length
        · obtain ⟨lb, lo, hla, hcl, hRl, hml⟩ := HL.out.kept HBW.out x (by omega)
          subst hla
          have hll := HD.out.len x (by omega)
          obtain ⟨b1, o1, hra, hcy, hy⟩ := hRt j (by omega)
          obtain ⟨b2, o2, hrb, hcz, hz⟩ := hRl j (by omega)
          rw [hra] at hct
          rw [hrb] at hcl
          obtain ⟨Y, hy'⟩ : ∃ Y, (TR x).getD j 0 = Y := ⟨_, rfl⟩
          obtain ⟨Z, hz'⟩ : ∃ Z, (LR x).getD j 0 = Z := ⟨_, rfl⟩
          rw [hy'] at hcy
          rw [hz'] at hcz
          have HY := hidden hy'
          have HZ := hidden hz'
          have hli : (j : Int) < (TR x).length := by omega
          have hli2 : (j : Int) < (LR x).length := by omega
          have hP : wr.rowIs rB 57 ((TR x).length * 2) (fun c => if c / 2 < j then arcCell TR LR x c else .int .i64 0) := by rw [← HRB.out]; exact HP.out
          have hc1 := hP.cell (i := j * 2) (by omega)
          have hc2 := hP.cell (i := j * 2 + 1) (by omega)
          have hf1 := hP.frozen (j * 2)
          have hf2 := hP.frozen (j * 2 + 1)
          rw [if_neg (by omega)] at hc1 hc2
          clear hy' hz' hra hrb hP hy hz hRt hRl
          have hbd := fun (w : World) => run_arc w Y Z
          go_wp2
          go_region
          go_wp2
          go_roundg (gk - 1)
          case measure => omega
          case rel =>
            refine ⟨j + 1, by omega, by go_num, ?_, ?_⟩
            · exact ((HB.out.set (a := ⟨rB, j * 2, none⟩) HRB.out.symm _).set (a := ⟨rB, j * 2 + 1, none⟩) HRB.out.symm _).drew
            · have := HP.out.put HY.out HZ.out
              rw [HRB.out] at this
              exact this
        · have hco := HB.out.out.cell (i := x) (by omega)
          have hcf := HB.out.out.frozen x
          rw [if_neg (by omega)] at hco
          go_wp2
          go_roundg (n - (x + 1))
          case measure => omega
          case rel =>
            have e : j = (TR x).length := by omega
            subst e
            exact ⟨x + 1, by omega, by go_num, by have := HB.out.next HP.out.fin; rw [HRB.out] at this; exact this⟩
    · have e : x = n := by omega
      subst e
      clear hxk hlt
      have hmk := run_make_row' (P := Try.prog) 24 3 (.int .i64 0) 8 Try.underlying24 Try.info3 rfl .i64 .i64 x (by omega) (by omega)
      have hmk2 := run_make_arc x (by omega)
      have hsz := HB.out.sz
      obtain ⟨S, hS⟩ : ∃ S, oB + 1 + x + 0 = S := ⟨_, rfl⟩
      rw [hS] at hsz
      have HSS := hidden hS
      clear hS
      have hbd := fun (w : World) (d v : Nat) => run_poly w (some ⟨oB, 0, none⟩) oa va (some ⟨mB, 0, none⟩) (some ⟨d, 0, none⟩) (some ⟨v, 0, none⟩) x x lev.length x x x x oc vc x x x st
      go_upto_region 12 with fail
      go_region
      · go_wp2_with (go_at_call 33; refine (zc_call1 (n := x) HT.out HL.out HO.out HV.out HLEN.out HD.out HBEL.out HMS.out HM.out HB.out hsz hn HOL.out HST.out HUP.out HEX.out).mono ?_; intro e w' h'; obtain ⟨v, acc, he, h2⟩ := h'; have H2 := hidden h2; clear h2; subst he)
        go_ret
        exact ⟨v, acc, rfl, H2.out⟩
      · go_wp2_with (go_at_call 33; refine (zc_call2 (n := x) HT.out HL.out HO.out HV.out HLEN.out HD.out HBEL.out HMS.out HM.out HB.out hsz hn HOL.out HST.out HUP.out HEX.out).mono ?_; intro e w' h'; obtain ⟨v, acc, he, h2⟩ := h'; have H2 := hidden h2; clear h2; subst he)
        go_ret
        exact ⟨v, acc, rfl, H2.out⟩
end Go.Proofs.Qxb6603374a
