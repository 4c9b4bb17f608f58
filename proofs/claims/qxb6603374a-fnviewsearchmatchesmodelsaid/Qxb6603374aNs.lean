/- The contract of zzB1NextSame. -/
import Derived.Test.Qxb6603374aVDom
import Derived.Test.Qxb6603374aUnzip
namespace Go.Proofs.Qxb6603374a
open Go.ChangeShapes Go.WideShapes Go.ChangeAt Go.RowKit

/-- z tells whether the number at place k stands again behind it. -/
def NextOk (l : List Int) (k : Nat) (z : Int) : Prop := -1 ≤ z ∧ z ≤ 1048576 ∧ (z = -1 ↔ ∀ j, k < j → j < l.length → l.getD j 0 ≠ l.getD k 0)
/-- The rows of the first x items, and the two rows over the transactions. -/
structure Ns (R0 m ni : Nat) (IR : Nat → List Int) (x e : Nat) (w : World) (fa fs : Nat → Int) (wr : World) : Prop where
  ra : wr.rowIs R0 3 m (fun t => .int .i64 (fa t))
  rs : wr.rowIs (R0 + 1) 3 m (fun t => .int .i64 (fs t))
  hd : wr.rowIs (R0 + 2) 24 ni (fun y => if y < x then .slice (some ⟨R0 + 3 + y, 0, none⟩) (IR y).length (IR y).length else .slice none 0 0)
  rows : ∀ y, y < x → ∃ f : Nat → Int, wr.rowIs (R0 + 3 + y) 3 (IR y).length (fun k => .int .i64 (f k)) ∧ ∀ k, k < (IR y).length → NextOk (IR y) k (f k)
  ba : ∀ t, t < m → 0 ≤ fa t ∧ fa t ≤ 1048576
  bel : Below R0 w wr
  sz : wr.heap.size = R0 + 3 + x + e
section
variable {R0 m ni x e : Nat} {IR : Nat → List Int} {w wr : World} {fa fs : Nat → Int}
theorem Ns.alloc (h : Ns R0 m ni IR x e w fa fs wr) (o : Obj) : Ns R0 m ni IR x (e + 1) w fa fs (wr.alloc o) :=
  ⟨h.ra.alloc o, h.rs.alloc o, h.hd.alloc o, fun y hy => (h.rows y hy).imp fun f hf => ⟨hf.1.alloc o, hf.2⟩, h.ba, h.bel.alloc (by have := h.sz; omega) o, by have := h.sz; simp; omega⟩
theorem Ns.setNew (h : Ns R0 m ni IR x e w fa fs wr) {a : Addr} (ha : R0 + 3 + x ≤ a.block) (u : Value) : Ns R0 m ni IR x e w fa fs (wr.setCell a u) :=
  ⟨h.ra.setOther (by omega) u, h.rs.setOther (by omega) u, h.hd.setOther (by omega) u, fun y hy => (h.rows y hy).imp fun f hf => ⟨hf.1.setOther (by omega) u, hf.2⟩, h.ba, h.bel.setCell (by omega) u, by have := h.sz; simp; omega⟩
theorem Ns.setS (h : Ns R0 m ni IR x e w fa fs wr) (t : Nat) (z : Int) : Ns R0 m ni IR x e w fa (fun u => if u = t then z else fs u) (wr.setCell ⟨R0 + 1, t, none⟩ (.int .i64 z)) :=
  ⟨h.ra.setOther (by show R0 ≠ R0 + 1; omega) _, (h.rs.set t _).congr (fun u _ => by by_cases e : u = t <;> simp [e]), h.hd.setOther (by show R0 + 2 ≠ R0 + 1; omega) _, fun y hy => (h.rows y hy).imp fun f hf => ⟨hf.1.setOther (by show R0 + 3 + y ≠ R0 + 1; omega) _, hf.2⟩, h.ba, h.bel.setCell (by show R0 ≤ R0 + 1; omega) _, by have := h.sz; simp; omega⟩
theorem Ns.setA (h : Ns R0 m ni IR x e w fa fs wr) (t : Nat) (z : Int) (hz : 0 ≤ z ∧ z ≤ 1048576) : Ns R0 m ni IR x e w (fun u => if u = t then z else fa u) fs (wr.setCell ⟨R0, t, none⟩ (.int .i64 z)) :=
  ⟨(h.ra.set t _).congr (fun u _ => by by_cases e : u = t <;> simp [e]), h.rs.setOther (by show R0 + 1 ≠ R0; omega) _, h.hd.setOther (by show R0 + 2 ≠ R0; omega) _, fun y hy => (h.rows y hy).imp fun f hf => ⟨hf.1.setOther (by show R0 + 3 + y ≠ R0; omega) _, hf.2⟩, fun u hu => by
    by_cases e : u = t
    · simp only [e, if_true]; exact hz
    · simp only [e, if_false]; exact h.ba u hu, h.bel.setCell (Nat.le_refl R0) _, by have := h.sz; simp; omega⟩
theorem Ns.next (h : Ns R0 m ni IR x 1 w fa fs wr) {f : Nat → Int} (hr : wr.rowIs (R0 + 3 + x) 3 (IR x).length (fun k => .int .i64 (f k))) (hf : ∀ k, k < (IR x).length → NextOk (IR x) k (f k)) :
    Ns R0 m ni IR (x + 1) 0 w fa fs (wr.setCell ⟨R0 + 2, x, none⟩ (.slice (some ⟨R0 + 3 + x, 0, none⟩) (IR x).length (IR x).length)) :=
  ⟨h.ra.setOther (by show R0 ≠ R0 + 2; omega) _, h.rs.setOther (by show R0 + 1 ≠ R0 + 2; omega) _, (h.hd.set x _).congr (fun y _ => by
      by_cases e : y = x
      · subst e; rw [if_pos rfl, if_pos (by omega)]
      · rw [if_neg e]
        by_cases c : y < x
        · rw [if_pos c, if_pos (by omega)]
        · rw [if_neg c, if_neg (by omega)]),
    fun y hy => by
      by_cases e : y = x
      · subst e; exact ⟨f, hr.setOther (by show R0 + 3 + y ≠ R0 + 2; omega) _, hf⟩
      · obtain ⟨f', h1, h2⟩ := h.rows y (by omega)
        exact ⟨f', h1.setOther (by show R0 + 3 + y ≠ R0 + 2; omega) _, h2⟩,
    h.ba, h.bel.setCell (by show R0 ≤ R0 + 2; omega) _, by have := h.sz; simp; omega⟩
theorem Ns.start (hw : w.heap.size = R0) : Ns R0 m ni IR 0 0 w (fun _ => 0) (fun _ => 0) (((w.alloc (.cells (madeCells #[.int .i64 0] m) 3)).alloc (.cells (madeCells #[.int .i64 0] m) 3)).alloc (.cells (madeCells #[.slice none 0 0] ni) 24)) := by
  subst hw
  have e1 : (w.alloc (.cells (madeCells #[.int .i64 0] m) 3)).heap.size = w.heap.size + 1 := by simp
  have e2 : ((w.alloc (.cells (madeCells #[.int .i64 0] m) 3)).alloc (.cells (madeCells #[.int .i64 0] m) 3)).heap.size = w.heap.size + 2 := by simp
  have q1 := World.rowIs_made (w.alloc (.cells (madeCells #[.int .i64 0] m) 3)) (.int .i64 0) m 3
  have q2 := World.rowIs_made ((w.alloc (.cells (madeCells #[.int .i64 0] m) 3)).alloc (.cells (madeCells #[.int .i64 0] m) 3)) (.slice none 0 0) ni 24
  rw [e1] at q1
  rw [e2] at q2
  exact ⟨((World.rowIs_made w (.int .i64 0) m 3).alloc _).alloc _, q1.alloc _, q2.congr (fun i _ => by simp), fun y hy => absurd hy (Nat.not_lt_zero _), fun t _ => ⟨by omega, by omega⟩, (((Below.refl _ _).alloc (Nat.le_refl _) _).alloc (by simp) _).alloc (by simp; omega) _, by simp⟩
end
/-- The stamps: which numbers of row x stand behind place d. -/
def Stp (txns l : List Int) (m x d : Nat) (fs : Nat → Int) : Prop := ∀ t, t < m → 0 ≤ fs t ∧ fs t ≤ (x : Int) + 1 ∧ (fs t = (x : Int) + 1 ↔ ∃ j, d ≤ j ∧ j < l.length ∧ l.getD j 0 = txns.getD t 0)
theorem Stp.start {txns l : List Int} {m x : Nat} {fs : Nat → Int} (h : ∀ t, t < m → 0 ≤ fs t ∧ fs t ≤ (x : Int)) : Stp txns l m x l.length fs := fun t ht => by
  obtain ⟨h1, h2⟩ := h t ht
  refine ⟨h1, by omega, fun e => absurd e (by omega), fun ⟨j, h3, h4, _⟩ => absurd h3 (by omega)⟩
theorem asc_inj {txns : List Int} (ha : Asc txns) {s t : Nat} (hs : s < txns.length) (ht : t < txns.length) (e : txns.getD s 0 = txns.getD t 0) : s = t := by
  rcases Nat.lt_trichotomy s t with h | h | h
  · have := ha s t h ht; omega
  · exact h
  · have := ha t s h hs; omega
theorem Stp.put {txns l : List Int} {m x d p : Nat} {fs : Nat → Int} (h : Stp txns l m x (d + 1) fs) (ha : Asc txns) (hm : txns.length = m) (hd : d < l.length) (hp : p < m) (e : txns.getD p 0 = l.getD d 0) : Stp txns l m x d (fun u => if u = p then (x : Int) + 1 else fs u) := fun t ht => by
  obtain ⟨h1, h2, h3⟩ := h t ht
  by_cases c : t = p
  · subst c
    simp only [if_true]
    exact ⟨by omega, by omega, fun _ => ⟨d, Nat.le_refl _, hd, e.symm⟩, fun _ => trivial⟩
  · simp only [c, if_false]
    refine ⟨h1, h2, fun e2 => ?_, fun ⟨j, h4, h5, h6⟩ => ?_⟩
    · obtain ⟨j, h4, h5, h6⟩ := h3.1 e2
      exact ⟨j, by omega, h5, h6⟩
    · refine h3.2 ⟨j, ?_, h5, h6⟩
      by_cases c2 : j = d
      · subst c2
        exact absurd (asc_inj ha (by omega) (by omega) (h6.symm.trans e.symm)) c
      · omega
theorem Stp.hit {txns l : List Int} {m x d p : Nat} {fs : Nat → Int} (h : Stp txns l m x (d + 1) fs) (hp : p < m) (e : txns.getD p 0 = l.getD d 0) (hs : fs p = (x : Int) + 1) {z : Int} (hz : 0 ≤ z ∧ z ≤ 1048576) : NextOk l d z := by
  refine ⟨by omega, by omega, fun e2 => absurd e2 (by omega), fun h2 => ?_⟩
  obtain ⟨j, h4, h5, h6⟩ := (h p hp).2.2.1 hs
  exact absurd (h6.trans e) (h2 j (by omega) h5)
theorem Stp.miss {txns l : List Int} {m x d p : Nat} {fs : Nat → Int} (h : Stp txns l m x (d + 1) fs) (hp : p < m) (e : txns.getD p 0 = l.getD d 0) (hs : fs p ≠ (x : Int) + 1) : NextOk l d (-1) :=
  ⟨by omega, by omega, fun _ j h4 h5 h6 => hs ((h p hp).2.2.2 ⟨j, by omega, h5, h6.trans e.symm⟩), fun _ => rfl⟩

/-- What NextSame answers. -/
def NsEnd (ni : Nat) (IR : Nat → List Int) (w : World) (e : Ending) (w' : World) : Prop :=
  ∃ nB, e = .returned (.slice (some ⟨nB, 0, none⟩) ni ni) ∧ Below w.heap.size w w' ∧ ∀ y, y < ni → ∃ b, w'.cell? ⟨nB, y, none⟩ = some (.slice (some ⟨b, 0, none⟩) (IR y).length (IR y).length) ∧ ∀ k, k < (IR y).length → ∃ z : Int, w'.cell? ⟨b, k, none⟩ = some (.int .i64 z) ∧ NextOk (IR y) k z
theorem Ns.fin {R0 m ni : Nat} {IR : Nat → List Int} {w wr : World} {fa fs : Nat → Int} (h : Ns R0 m ni IR ni 0 w fa fs wr) (hw : w.heap.size = R0) : NsEnd ni IR w (.returned (.slice (some ⟨R0 + 2, 0, none⟩) ni ni)) wr := by
  refine ⟨R0 + 2, rfl, by rw [hw]; exact h.bel, fun y hy => ?_⟩
  obtain ⟨f, h1, h2⟩ := h.rows y hy
  refine ⟨R0 + 3 + y, ?_, fun k hk => ⟨f k, h1.cell hk, h2 k hk⟩⟩
  rw [h.hd.cell hy, if_pos hy]

set_option maxRecDepth 100000 in
set_option maxHeartbeats 4000000 in
theorem nextsame_any (xa ia : Option Addr) (xc ic m ni R0 : Nat) (ira : Nat → Option Addr) (irc : Nat → Nat) (IR : Nat → List Int) (txns : List Int) (w : World)
    (hX : Row w xa txns) (hxn : txns.length = m) (hA : Asc txns) (hI : RowsAt w ia ni ira irc IR) (hin : ∀ y, y < ni → ∀ k, k < (IR y).length → Has txns ((IR y).getD k 0)) (b1 : m ≤ 1048576) (b2 : ni ≤ 1048576) (hlen : ∀ y, y < ni → (IR y).length ≤ 1048576) (hR : w.heap.size = R0) :
    Calls Try.prog 24 #[.slice xa m xc, .slice ia ni ic] w fun e w' => NsEnd ni IR w e w' := by
  have HX := hidden hX
  have HXN := hidden hxn
  have HA := hidden hA
  have HI := hidden hI
  have HIN := hidden hin
  have HLEN := hidden hlen
  have HR := hidden hR
  have HN0 : Hid (Ns R0 m ni IR 0 0 w (fun _ => 0) (fun _ => 0) (((w.alloc (.cells (madeCells #[.int .i64 0] m) 3)).alloc (.cells (madeCells #[.int .i64 0] m) 3)).alloc (.cells (madeCells #[.slice none 0 0] ni) 24))) := Ns.start hR
  clear hX hxn hA hI hin hlen
  have hm1 := run_make_row' (P := Try.prog) 24 3 (.int .i64 0) 8 Try.underlying24 Try.info3 rfl .i64 .i64 m (by omega) (by omega)
  have hm2 := run_make_row' (P := Try.prog) 22 24 (.slice none 0 0) 24 Try.underlying22 Try.info24' rfl .i64 .i64 ni (by omega) (by omega)
  have HMK : Hid (∀ n : Nat, n ≤ 1048576 → ∀ w : World, (Instr.makeSlice 24 (.int .i64 (n : Int)) (.int .i64 (n : Int))).run Try.prog w = .ok (.slice (some ⟨w.heap.size, 0, none⟩) n n) (w.alloc (.cells (madeCells #[.int .i64 0] n) 3))) := fun n hn => run_make_row' (P := Try.prog) 24 3 (.int .i64 0) 8 Try.underlying24 Try.info3 rfl .i64 .i64 n (by omega) (by omega)
  go_enter Try.func24, Try.ntmps24
  go_wp2
  clear hm1 hm2 hR
  go_loopg [9] ni (fun q i wr => ∃ (x : Nat) (fa fs : Nat → Int), x + q = ni ∧ i = .int .i64 (x : Int) ∧ Hid (Ns R0 m ni IR x 0 w fa fs wr) ∧ Hid (∀ t, t < m → 0 ≤ fs t ∧ fs t ≤ (x : Int)))
  case atStart => exact ⟨0, _, _, by omega, rfl, HN0, hidden (fun t _ => ⟨by omega, by omega⟩)⟩
  case round =>
    clear HN0
    obtain ⟨x, fa, fs, hx, rfl, HN, HS⟩ := hrel
    by_cases hlt : (x : Int) < ni
    · have HBl : Hid (Below w.heap.size w wr) := by show Below _ _ _; rw [HR.out]; exact HN.out.bel
      obtain ⟨b, o, hra, hc, hRx, -⟩ := HI.out.kept HBl.out x (by omega)
      subst hra
      have hlb := HLEN.out x (by omega)
      have hsz := HN.out.sz
      rw [Nat.add_zero] at hsz
      obtain ⟨S, hS⟩ : ∃ S, R0 + 3 + x = S := ⟨_, rfl⟩
      obtain ⟨L, hL⟩ : ∃ L, (IR x).length = L := ⟨_, rfl⟩
      obtain ⟨rA, hrA⟩ : ∃ L, ira x = L := ⟨_, rfl⟩
      obtain ⟨rC, hrC⟩ : ∃ L, irc x = L := ⟨_, rfl⟩
      rw [hS] at hsz
      rw [hL, hrA, hrC] at hc
      rw [hL] at hlb
      rw [hrA] at hRx
      have HRx : Hid (Row w rA (IR x)) := by
        obtain ⟨_, _, _, _, hr, _⟩ := HI.out x (by omega)
        rw [hrA] at hr
        exact hr
      have HSS := hidden hS
      have HL := hidden hL
      clear hS hL hrA hrC hRx
      have hmk := HMK.out L hlb
      have HN1 : Hid (Ns R0 m ni IR x 1 w fa fs (wr.alloc (.cells (madeCells #[.int .i64 0] L) 3))) := HN.out.alloc _
      have HF1 : Hid ((wr.alloc (.cells (madeCells #[.int .i64 0] L) 3)).rowIs S 3 L (fun _ => .int .i64 0)) := by rw [← hsz]; exact World.rowIs_made _ _ _ _
      go_wp2
      clear hmk hc hsz HN HBl
      go_loopg [12] L (fun q i wr => ∃ (z : Int) (fa fs fn : Nat → Int), z + 1 = (q : Int) ∧ q ≤ L ∧ i = .int .i64 z ∧ Hid (Ns R0 m ni IR x 1 w fa fs wr) ∧ Hid (Stp txns (IR x) m x q fs) ∧ Hid (wr.rowIs S 3 L (fun k => .int .i64 (fn k))) ∧ Hid (∀ k, q ≤ k → k < L → NextOk (IR x) k (fn k)))
      case atStart => exact ⟨(L : Int) - 1, fa, fs, fun _ => 0, by omega, Nat.le_refl _, by go_num, HN1, hidden (by rw [← HL.out]; exact Stp.start HS.out), HF1, hidden (fun k h1 h2 => absurd h1 (by omega))⟩
      case round =>
        clear HN1 HF1 HS
        obtain ⟨z, fa, fs, fn, hz, hq, rfl, HN, HST, HF, HFN⟩ := hrel
        by_cases hlk : 0 ≤ z
        · obtain ⟨k, hk⟩ : ∃ k : Nat, z = (k : Int) := ⟨z.toNat, by omega⟩
          subst hk
          have hgk : gk = k + 1 := by omega
          subst hgk
          have HBl : Hid (Below w.heap.size w wr) := by show Below _ _ _; rw [HR.out]; exact HN.out.bel
          obtain ⟨rb, ro, hra, hck, hci⟩ := HRx.out.kept HBl.out k (by rw [HL.out]; omega)
          have hhas := HIN.out x (by omega) k (by rw [HL.out]; omega)
          subst hra
          obtain ⟨T, hT⟩ : ∃ T, (IR x).getD k 0 = T := ⟨_, rfl⟩
          rw [hT] at hck hci hhas
          have HT := hidden hT
          have hposc := (pos_any xa xc m txns T wr (HX.out.kept HBl.out) HXN.out b1 HA.out)
          have HPOS : Hid (Calls Try.prog 26 #[.slice xa m xc, .int .i64 T] wr fun e w' => ∃ p : Nat, p < m ∧ txns.getD p 0 = T ∧ e = .returned (.int .i64 (p : Int)) ∧ w' = wr) := hposc.mono fun e w' ⟨r, h1, h2, h3⟩ => by
            rcases h2 with ⟨-, h2⟩ | ⟨i, h4, h5, h6⟩
            · obtain ⟨i, h4, h5⟩ := hhas
              exact absurd h5 (h2 i h4)
            · exact ⟨i, by rw [← HXN.out]; exact h4, h6, by rw [h1, h5], h3⟩
          have hkL : (k : Int) < L := by omega
          have hkb : k ≤ 1048576 := by omega
          have HHas := hidden hhas
          have hi1 := hci.1
          have hi2 := hci.2
          clear hT hposc hhas hci
          go_upto_region 14 with (first | (go_at_call 26; refine HPOS.out.mono ?_; rintro e w' ⟨p, hp, hpT, rfl, rfl⟩) | fail)
          have hp2 : (p : Int) < m := by omega
          have hpb : p ≤ 1048576 := by omega
          have hcs := HN.out.rs.cell (i := p) hp
          have hfs := HN.out.rs.frozen p
          have hca := HN.out.ra.cell (i := p) hp
          have hfa := HN.out.ra.frozen p
          have hcn := HF.out.cell (i := k) (by omega)
          have hfn := HF.out.frozen k
          have hab := HN.out.ba p hp
          have hsb := HST.out p hp
          have hn1 : S ≠ R0 + 1 := by have := HSS.out; omega
          have hn2 : S ≠ R0 := by have := HSS.out; omega
          have hn3 : R0 + 1 ≠ S := hn1.symm
          have hn4 : R0 ≠ S := hn2.symm
          have hn5 : R0 ≠ R0 + 1 := by omega
          have hn6 : R0 + 1 ≠ R0 := by omega
          have HST2 : Hid (Stp txns (IR x) m x k (fun u => if u = p then (x : Int) + 1 else fs u)) := HST.out.put HA.out HXN.out (by rw [HL.out]; omega) hp (by rw [HT.out]; exact hpT)
          obtain ⟨Fs, hFs⟩ : ∃ z, fs p = z := ⟨_, rfl⟩
          obtain ⟨Fa, hFa⟩ : ∃ z, fa p = z := ⟨_, rfl⟩
          rw [hFs] at hcs hsb
          rw [hFa] at hca hab
          have hs1 := hsb.1
          have hs2 := hsb.2.1
          obtain ⟨ha1, ha2⟩ := hab
          by_cases hc1 : Fs = (x : Int) + 1
          · have hd1 : (Fs == (x : Int) + 1) = true := by simp [hc1]
            have HN2 : Hid (Ns R0 m ni IR x 1 w (fun u => if u = p then (k : Int) else fa u) (fun u => if u = p then (x : Int) + 1 else fs u) (((w'.setCell ⟨S, k, none⟩ (.int .i64 Fa)).setCell ⟨R0 + 1, p, none⟩ (.int .i64 ((x : Int) + 1))).setCell ⟨R0, p, none⟩ (.int .i64 (k : Int)))) := ((HN.out.setNew (by show R0 + 3 + x ≤ S; rw [HSS.out]; exact Nat.le_refl _) _).setS p _).setA p _ ⟨by omega, by omega⟩
            have HF2 : Hid ((((w'.setCell ⟨S, k, none⟩ (.int .i64 Fa)).setCell ⟨R0 + 1, p, none⟩ (.int .i64 ((x : Int) + 1))).setCell ⟨R0, p, none⟩ (.int .i64 (k : Int))).rowIs S 3 L (fun u => .int .i64 (if u = k then Fa else fn u))) := (((HF.out.set k _).setOther (by show S ≠ R0 + 1; exact hn1) _).setOther (by show S ≠ R0; exact hn2) _).congr (fun u _ => by by_cases e : u = k <;> simp [e])
            have HOK : Hid (NextOk (IR x) k Fa) := HST.out.hit hp (by rw [HT.out]; exact hpT) (by rw [hFs]; exact hc1) ⟨ha1, ha2⟩
            have HFN2 : Hid (∀ j, k ≤ j → j < L → NextOk (IR x) j (if j = k then Fa else fn j)) := fun j h1 h2 => by
              by_cases e : j = k
              · rw [if_pos e, e]; exact HOK.out
              · rw [if_neg e]; exact HFN.out j (by omega) h2
            clear HN HF HFN HOK HST hsb hFs hFa hpT
            go_wp2
            go_roundg k
            case measure => omega
            case rel => exact ⟨(k : Int) - 1, _, _, _, by omega, by omega, by go_num, HN2, HST2, HF2, HFN2⟩
          · have hd1 : (Fs == (x : Int) + 1) = false := by simp [hc1]
            have HN2 : Hid (Ns R0 m ni IR x 1 w (fun u => if u = p then (k : Int) else fa u) (fun u => if u = p then (x : Int) + 1 else fs u) (((w'.setCell ⟨S, k, none⟩ (.int .i64 (-1))).setCell ⟨R0 + 1, p, none⟩ (.int .i64 ((x : Int) + 1))).setCell ⟨R0, p, none⟩ (.int .i64 (k : Int)))) := ((HN.out.setNew (by show R0 + 3 + x ≤ S; rw [HSS.out]; exact Nat.le_refl _) _).setS p _).setA p _ ⟨by omega, by omega⟩
            have HF2 : Hid ((((w'.setCell ⟨S, k, none⟩ (.int .i64 (-1))).setCell ⟨R0 + 1, p, none⟩ (.int .i64 ((x : Int) + 1))).setCell ⟨R0, p, none⟩ (.int .i64 (k : Int))).rowIs S 3 L (fun u => .int .i64 (if u = k then (-1) else fn u))) := (((HF.out.set k _).setOther (by show S ≠ R0 + 1; exact hn1) _).setOther (by show S ≠ R0; exact hn2) _).congr (fun u _ => by by_cases e : u = k <;> simp [e])
            have HOK : Hid (NextOk (IR x) k (-1)) := HST.out.miss hp (by rw [HT.out]; exact hpT) (by rw [hFs]; exact hc1)
            have HFN2 : Hid (∀ j, k ≤ j → j < L → NextOk (IR x) j (if j = k then (-1) else fn j)) := fun j h1 h2 => by
              by_cases e : j = k
              · rw [if_pos e, e]; exact HOK.out
              · rw [if_neg e]; exact HFN.out j (by omega) h2
            clear HN HF HFN HOK HST hsb hFs hFa hpT
            go_wp2
            go_roundg k
            case measure => omega
            case rel => exact ⟨(k : Int) - 1, _, _, _, by omega, by omega, by go_num, HN2, HST2, HF2, HFN2⟩
        · have hg : gk = 0 := by omega
          subst hg
          have HNX := hidden (HN.out.next (f := fn) (by rw [HSS.out, HL.out]; exact HF.out) (fun k hk => HFN.out k (Nat.zero_le _) (by rw [← HL.out]; exact hk)))
          have HNX2 : Hid (Ns R0 m ni IR (x + 1) 0 w fa fs (wr.setCell ⟨R0 + 1 + 1, x, none⟩ (.slice (some ⟨S, 0, none⟩) L L))) := by
            have h := HNX.out
            rw [HSS.out, HL.out] at h
            exact h
          have hch := HN.out.hd.cell (i := x) (by omega)
          have hfh := HN.out.hd.frozen x
          rw [if_neg (Nat.lt_irrefl x)] at hch
          have hch2 : wr.cell? ⟨R0 + 1 + 1, x, none⟩ = some (.slice none 0 0) := hch
          have hfh2 : wr.frozen? ⟨R0 + 1 + 1, x, none⟩ = false := hfh
          have HS2 : Hid (∀ t, t < m → 0 ≤ fs t ∧ fs t ≤ ((x + 1 : Nat) : Int)) := fun t ht => ⟨(HST.out t ht).1, by have := (HST.out t ht).2.1; omega⟩
          clear HNX HN HF HFN HST hch hfh
          go_wp2
          go_roundg (ni - (x + 1))
          case measure => omega
          case rel => exact ⟨x + 1, fa, fs, by omega, by go_num, HNX2, HS2⟩
    · have e : x = ni := by omega
      subst e
      go_wp2
      go_ret
      exact HN.out.fin HR.out
end Go.Proofs.Qxb6603374a
