/- The contract of (*polygraph).cycle. -/
import Derived.Test.Qxb6603374aCycOk
import Derived.Deep.LoopGhost
import Derived.Deep.CutBlock
import Derived.Deep.DeepCutAuto
namespace Go.Proofs.Qxb6603374a
open Go.ChangeShapes Go.WideShapes Go.ChangeAt Go.RowKit

/-- What cycle is given, stamp st. -/
structure CEnv (H gB oB mB dB vB n : Nat) (rB : Nat → Nat) (oa va : Option Addr) (oc vc : Nat) (TR LR : Nat → List Int) (ord lev : List Int) (st : Int) (w0 w : World) : Prop where
  g0 : w.cell? ⟨gB, 0, none⟩ = some (.slice (some ⟨oB, 0, none⟩) n n)
  g3 : w.cell? ⟨gB, 3, none⟩ = some (.slice oa n oc)
  g18 : w.cell? ⟨gB, 18, none⟩ = some (.slice va lev.length vc)
  g35 : w.cell? ⟨gB, 35, none⟩ = some (.slice (some ⟨mB, 0, none⟩) n n)
  g36 : w.cell? ⟨gB, 36, none⟩ = some (.int .i64 st)
  g37 : w.cell? ⟨gB, 37, none⟩ = some (.slice (some ⟨vB, 0, none⟩) n n)
  g38 : w.cell? ⟨gB, 38, none⟩ = some (.slice (some ⟨dB, 0, none⟩) n n)
  out : ∀ x, x < n → w.cell? ⟨oB, x, none⟩ = some (.slice (some ⟨rB x, 0, none⟩) (TR x).length (TR x).length)
  too : ∀ x i, x < n → i < (TR x).length → w.cell? ⟨rB x, i * 2, none⟩ = some (.int .i64 ((TR x).getD i 0))
  lit : ∀ x i, x < n → i < (TR x).length → w.cell? ⟨rB x, i * 2 + 1, none⟩ = some (.int .i64 ((LR x).getD i 0))
  int : ∀ x i, x < n → i < (TR x).length → I64 ((TR x).getD i 0) ∧ I64 ((LR x).getD i 0)
  len : ∀ x, x < n → (TR x).length ≤ 4611686018427387904
  bel : Below w0.heap.size w0 w
  ord : Row w0 oa ord
  lev : Row w0 va lev
  hH : w.heap.size = H
  gH : gB < H ∧ gB ≠ mB ∧ gB ≠ dB ∧ gB ≠ vB
  oH : oB < H ∧ oB ≠ mB ∧ oB ≠ dB ∧ oB ≠ vB
  rH : ∀ x, x < n → rB x < H ∧ rB x ≠ mB ∧ rB x ≠ dB ∧ rB x ≠ vB
  mH : mB < H ∧ dB < H ∧ vB < H
  ne : mB ≠ dB ∧ mB ≠ vB ∧ dB ≠ vB
  old : w0.heap.size ≤ mB ∧ w0.heap.size ≤ dB ∧ w0.heap.size ≤ vB ∧ w0.heap.size ≤ H ∧ w0.heap.size ≤ gB
section
variable {H gB oB mB dB vB n : Nat} {rB : Nat → Nat} {oa va : Option Addr} {oc vc : Nat} {TR LR : Nat → List Int} {ord lev : List Int} {st : Int} {w0 w wr : World}
theorem CEnv.fields (E : CEnv H gB oB mB dB vB n rB oa va oc vc TR LR ord lev st w0 w) (f : Fr H mB dB vB w wr) :
    wr.cell? ⟨gB, 0, none⟩ = some (.slice (some ⟨oB, 0, none⟩) n n) ∧ wr.cell? ⟨gB, 3, none⟩ = some (.slice oa n oc) ∧ wr.cell? ⟨gB, 18, none⟩ = some (.slice va lev.length vc) ∧ wr.cell? ⟨gB, 35, none⟩ = some (.slice (some ⟨mB, 0, none⟩) n n) ∧
    wr.cell? ⟨gB, 36, none⟩ = some (.int .i64 st) ∧ wr.cell? ⟨gB, 37, none⟩ = some (.slice (some ⟨vB, 0, none⟩) n n) ∧ wr.cell? ⟨gB, 38, none⟩ = some (.slice (some ⟨dB, 0, none⟩) n n) := by
  obtain ⟨h1, h2, h3, h4⟩ := E.gH
  exact ⟨f.cell E.g0 h1 h2 h3 h4, f.cell E.g3 h1 h2 h3 h4, f.cell E.g18 h1 h2 h3 h4, f.cell E.g35 h1 h2 h3 h4, f.cell E.g36 h1 h2 h3 h4, f.cell E.g37 h1 h2 h3 h4, f.cell E.g38 h1 h2 h3 h4⟩
theorem CEnv.outs (E : CEnv H gB oB mB dB vB n rB oa va oc vc TR LR ord lev st w0 w) (f : Fr H mB dB vB w wr) {x : Nat} (hx : x < n) : wr.cell? ⟨oB, x, none⟩ = some (.slice (some ⟨rB x, 0, none⟩) (TR x).length (TR x).length) := by
  obtain ⟨h1, h2, h3, h4⟩ := E.oH
  exact f.cell (E.out x hx) h1 h2 h3 h4
theorem CEnv.arcs (E : CEnv H gB oB mB dB vB n rB oa va oc vc TR LR ord lev st w0 w) (f : Fr H mB dB vB w wr) {x i : Nat} (hx : x < n) (hi : i < (TR x).length) :
    wr.cell? ⟨rB x, i * 2, none⟩ = some (.int .i64 ((TR x).getD i 0)) ∧ wr.cell? ⟨rB x, i * 2 + 1, none⟩ = some (.int .i64 ((LR x).getD i 0)) := by
  obtain ⟨h1, h2, h3, h4⟩ := E.rH x hx
  exact ⟨f.cell (E.too x i hx hi) h1 h2 h3 h4, f.cell (E.lit x i hx hi) h1 h2 h3 h4⟩
theorem CEnv.below (E : CEnv H gB oB mB dB vB n rB oa va oc vc TR LR ord lev st w0 w) (f : Fr H mB dB vB w wr) : Below w0.heap.size w0 wr := by
  obtain ⟨h1, h2, h3, h4, -⟩ := E.old
  exact f.below E.bel h4 h4 h1 h2 h3
/-- The stamp turned on. -/
theorem CEnv.stamp (E : CEnv H gB oB mB dB vB n rB oa va oc vc TR LR ord lev st w0 w) (st' : Int) (hne : oB ≠ gB ∧ ∀ x, x < n → rB x ≠ gB) : CEnv H gB oB mB dB vB n rB oa va oc vc TR LR ord lev st' w0 (w.setCell ⟨gB, 36, none⟩ (.int .i64 st')) := by
  have hot : ∀ {a : Addr} {v : Value}, w.cell? a = some v → a ≠ ⟨gB, 36, none⟩ → (w.setCell ⟨gB, 36, none⟩ (.int .i64 st')).cell? a = some v := fun {a v} h h2 => by
    rw [World.cell?_setCell_other _ _ _ _ (Ne.symm h2)]; exact h
  refine ⟨hot E.g0 (by simp), hot E.g3 (by simp), hot E.g18 (by simp), hot E.g35 (by simp), ?_, hot E.g37 (by simp), hot E.g38 (by simp), fun x hx => hot (E.out x hx) (fun e => hne.1 (congrArg Addr.block e)), fun x i hx hi => hot (E.too x i hx hi) (fun e => hne.2 x hx (congrArg Addr.block e)), fun x i hx hi => hot (E.lit x i hx hi) (fun e => hne.2 x hx (congrArg Addr.block e)), E.int, E.len, E.bel.setCell E.old.2.2.2.2 _, E.ord, E.lev, by simpa using E.hH, E.gH, E.oH, E.rH, E.mH, E.ne, E.old⟩
  exact World.cell?_setCell_same _ _ _ E.g36
end

/-- What cycle hands back. -/
def CycEnd (g : Gr) (a b : Nat) (p : Int) (w0 : World) (e : Ending) (w' : World) : Prop :=
  ∃ v acc, e = .returned v ∧ w'.ownsRow w0.heap.size 3 1 v (acc.length + 1) ((p :: acc).map (Value.int .i64)) ∧ (∃ m c, g.Wk b a m c acc.reverse ∧ m + 1 ≤ g.n ∧ ∀ m' c' s', g.Wk b a m' c' s' → c ≤ c') ∧ Below w0.heap.size w0 w'

/-- The search's start. -/
def gh0 (mark : Nat → Int) (b : Nat) (s : Int) : Gh where
  ms := Gr.upd mark b s
  M := fun y => y = b
  d := fun _ => 0
  V := fun _ => 0
  Q := fun _ => 0
  rk := fun _ => 0
  N := [b]
  F := []
  D := 0
  tm := 1
theorem dueAll_two (M : Nat → Prop) (d : Nat → Nat) (D : Nat) : ∀ n, Gr.dueAll M d D n ≤ 2 * n
  | 0 => Nat.le_refl _
  | n + 1 => by
    have h1 := dueAll_two M d D n
    have h2 : Gr.due M d D n ≤ 2 := by unfold Gr.due; split <;> (try split) <;> omega
    unfold Gr.dueAll
    omega
theorem Ok.start {g : Gr} {b H mB dB vB : Nat} {s : Int} {w1 : World} {mark : Nat → Int} (hb : b < g.n) (hH : w1.heap.size = H) (hmd : mB ≠ dB) (hmv : mB ≠ vB) (hdv : dB ≠ vB)
    (rm : w1.rowIs mB 3 g.n (fun y => .int .i64 (mark y))) (rd : w1.rowIs dB 3 g.n (fun _ => .int .i64 0)) (rv : w1.rowIs vB 57 (2 * g.n) (fun _ => .int .i64 0)) (hs : ∀ y, y < g.n → mark y < s) :
    Ok g b H mB dB vB s w1 (.slice (some ⟨H, 0, none⟩) 1 1) (.slice none 0 0) (((w1.setCell ⟨mB, b, none⟩ (.int .i64 s)).setCell ⟨dB, b, none⟩ (.int .i64 0)).alloc (.cells #[.int .i64 (b : Int)] 3)) g.n 0 (4 * g.n + 1) (4 * g.n + 1) (gh0 mark b s) := by
  have hH' : ((w1.setCell ⟨mB, b, none⟩ (.int .i64 s)).setCell ⟨dB, b, none⟩ (.int .i64 0)).heap.size = H := by simpa using hH
  have hfr : Fr H mB dB vB w1 w1 := Fr.refl (Nat.le_of_eq hH.symm)
  refine ⟨((hfr.set (a := ⟨mB, b, none⟩) (.inl rfl) _).set (a := ⟨dB, b, none⟩) (.inr (.inl rfl)) _).alloc _, ⟨?_, ?_, ?_⟩, ⟨?_, World.ownsRow_nil _ _ _ _, fun k _ e => by simp [Value.ownBlock] at e⟩, fun y hy => ?_, g.inv_start hb _ _ _ rfl, ?_, by show 0 + _ ≤ _; omega, ⟨_, _, _, rfl⟩⟩
  · refine (((rm.set b _).setOther hmd _).alloc _).congr (fun i _ => ?_)
    show _ = Value.int .i64 (Gr.upd mark b s i)
    unfold Gr.upd; split <;> rfl
  · refine (((rd.setOther (Ne.symm hmd) _).set b _).alloc _).congr (fun i _ => ?_)
    show _ = Value.int .i64 ((0 : Nat) : Int)
    split <;> rfl
  · refine (((rv.setOther (Ne.symm hmv) _).setOther (Ne.symm hdv) _).alloc _).congr (fun i _ => ?_)
    show _ = viaCell (fun _ => 0) (fun _ => 0) i
    unfold viaCell; split <;> rfl
  · refine ⟨rfl, .inr ⟨H, 1, #[.int .i64 (b : Int)], rfl, Nat.le_refl _, ?_, Nat.le_refl _, by simp [maxLen], rfl, rfl⟩⟩
    have := heap_alloc_new ((w1.setCell ⟨mB, b, none⟩ (.int .i64 s)).setCell ⟨dB, b, none⟩ (.int .i64 0)) (.cells #[.int .i64 (b : Int)] 3)
    rwa [hH'] at this
  · show y = b ↔ Gr.upd mark b s y = s
    unfold Gr.upd
    by_cases e : y = b
    · simp [e]
    · have := hs y hy
      rw [if_neg e]
      exact ⟨fun h => absurd h e, fun h => by omega⟩
  · unfold Gr.total
    have := dueAll_two (gh0 mark b s).M (gh0 mark b s).d (gh0 mark b s).D g.n
    show 2 * _ + [b].length + ([] : List Nat).length ≤ _
    simp
    omega

theorem own_one {w : World} {H : Nat} (hH : H ≤ w.heap.size) (p : Int) : (w.alloc (.cells #[.int .i64 p] 3)).ownsRow H 3 1 (.slice (some ⟨w.heap.size, 0, none⟩) 1 1) 1 ([p].map (Value.int .i64)) :=
  ⟨rfl, .inr ⟨w.heap.size, 1, #[.int .i64 p], rfl, hH, heap_alloc_new _ _, Nat.le_refl _, by simp [maxLen], rfl, rfl⟩⟩
theorem owns_base {w : World} {H H' m : Nat} {v : Value} {xs : List Value} (h : w.ownsRow H 3 1 v m xs) (hle : H' ≤ H) : w.ownsRow H' 3 1 v m xs := by
  refine ⟨h.1, ?_⟩
  rcases h.2 with hn | ⟨g, cap, cur, h1, h2, h3⟩
  · exact .inl hn
  · exact .inr ⟨g, cap, cur, h1, by omega, h3⟩
theorem owns_val {w : World} {H m : Nat} {v : Value} {xs : List Value} (h : w.ownsRow H 3 1 v m xs) : ∃ a c, v = .slice a m c ∧ m ≤ c := by
  rcases h.2 with ⟨h1, h2⟩ | ⟨g, cap, cur, h1, h2, h3, h4, h5⟩
  · subst h2; exact ⟨none, 0, h1, Nat.le_refl _⟩
  · exact ⟨_, cap, h1, h4⟩
theorem last_ex {l : List Nat} (h : l ≠ []) : ∃ l' x, l = l' ++ [x] := ⟨l.dropLast, l.getLast h, (List.dropLast_concat_getLast h).symm⟩
theorem viaCell_to (V : Nat → Nat) (Q : Nat → Int) (x : Nat) : viaCell V Q (x * 2) = .int .i64 (V x : Int) := by
  unfold viaCell
  have h1 : x * 2 % 2 = 0 := by omega
  have h2 : x * 2 / 2 = x := by omega
  rw [if_pos h1, h2]
theorem viaCell_lit (V : Nat → Nat) (Q : Nat → Int) (x : Nat) : viaCell V Q (x * 2 + 1) = .int .i64 (Q x) := by
  unfold viaCell
  have h1 : ¬ (x * 2 + 1) % 2 = 0 := by omega
  have h2 : (x * 2 + 1) / 2 = x := by omega
  rw [if_neg h1, h2]

set_option maxRecDepth 100000 in
set_option maxHeartbeats 20000000 in
theorem cyc_any (H gB oB mB dB vB n : Nat) (rB : Nat → Nat) (oa va : Option Addr) (oc vc : Nat) (TR LR : Nat → List Int) (ord lev mark : List Int) (st p up : Int) (a b : Nat) (w0 w : World)
    (E : CEnv H gB oB mB dB vB n rB oa va oc vc TR LR ord lev st w0 w) (hne : oB ≠ gB ∧ ∀ x, x < n → rB x ≠ gB) (gf : w.frozen? ⟨gB, 36, none⟩ = false)
    (hm : w.rowIs mB 3 n (fun y => .int .i64 (mark.getD y 0))) (hd : w.rowIs dB 3 n (fun _ => .int .i64 0)) (hv : w.rowIs vB 57 (2 * n) (fun _ => .int .i64 0))
    (hn : n ≤ 4096) (hol : ord.length = n) (hD : Dom n TR LR lev.length mark st a b) (hst : I64 st) (hup : ord.getD a 0 = up) (hex : ∃ m c s, (grOf n TR LR ord lev up).Wk b a m c s) :
    Calls Try.prog 33 #[.pointer (some ⟨gB, 0, none⟩), .int .i64 (a : Int), .int .i64 (b : Int), .int .i64 p] w fun e w' => CycEnd (grOf n TR LR ord lev up) a b p w0 e w' := by
  have ha := hD.a0.2
  have hb := hD.b0.2
  obtain ⟨ob, oo, hoa, hco, ho⟩ := E.ord.kept E.bel a (by omega)
  subst hoa
  rw [hup] at hco ho
  have ho1 := ho.1
  have ho2 := ho.2
  have hst1 := hst.1
  have hst2 : st < 9223372036854775807 := by have := hst.2; have := hD.st0; omega
  have HE := hidden (E.stamp (st + 1) hne)
  have HRM := hidden (hm.setOther (a := ⟨gB, 36, none⟩) (Ne.symm E.gH.2.1) (.int .i64 (st + 1)))
  have HRD := hidden (hd.setOther (a := ⟨gB, 36, none⟩) (Ne.symm E.gH.2.2.1) (.int .i64 (st + 1)))
  have HRV := hidden (hv.setOther (a := ⟨gB, 36, none⟩) (Ne.symm E.gH.2.2.2) (.int .i64 (st + 1)))
  have HDm := hidden hD
  have HOL := hidden hol
  have HUP := hidden hup
  have HEX := hidden hex
  have HNE := hidden hne
  have c3 := E.g3
  have c36 := E.g36
  clear hne hm hd hv hol hD hst hup hex E ho
  go_enter Try.func33, Try.ntmps33
  go_wp2
  obtain ⟨w1, hw1⟩ : ∃ w1, w.setCell ⟨gB, 36, none⟩ (.int .i64 (st + 1)) = w1 := ⟨_, rfl⟩
  rw [hw1] at HE HRM HRD HRV ⊢
  clear hw1 hco c3 c36 gf
  obtain ⟨s, hs⟩ : ∃ s, st + 1 = s := ⟨_, rfl⟩
  have hs1 : -9223372036854775808 ≤ s := by omega
  have hs2 : s ≤ 9223372036854775807 := by omega
  have HS := hidden hs
  rw [hs] at HE ⊢
  clear hs
  obtain ⟨f0, f3, f18, f35, f36, f37, f38⟩ := HE.out.fields (Fr.refl (Nat.le_of_eq HE.out.hH.symm))
  have cm := HRM.out.cell (i := b) (by omega)
  have cmf := HRM.out.frozen b
  have cd := HRD.out.cell (i := b) (by omega)
  have cdf := HRD.out.frozen b
  obtain ⟨X, hX⟩ : ∃ X : Value, .int .i64 (mark.getD b 0) = X := ⟨_, rfl⟩
  rw [hX] at cm
  have hmd := HE.out.ne.1
  clear hX f0 f3 f18 f37
  go_region
  go_upto_block 0 with fail
  go_cut [] (fun wx => ∃ G : Gh, Hid (Fr H mB dB vB w1 wx) ∧ Hid (Rows3 mB dB vB n wx G.ms G.d G.V G.Q) ∧ Hid ((grOf n TR LR ord lev up).Fin a b G.M G.d G.V G.Q G.rk))
  case first =>
    clear cm cmf cd cdf f35 f36 f38
    go_wp2
    go_loopg [10, 11] (4 * n + 1) (fun μ vN vF wr => ∃ G : Gh, Hid (Ok (grOf n TR LR ord lev up) b H mB dB vB s w1 vN vF wr n 0 μ (4 * n + 1) G))
    case atStart =>
      obtain ⟨e1, e2, e3⟩ := HE.out.ne
      have hok := Ok.start (g := grOf n TR LR ord lev up) (b := b) (mark := fun y => mark.getD y 0) (s := s) (by show b < n; omega) HE.out.hH e1 e2 e3 HRM.out HRD.out HRV.out (fun y hy => by have h1 := HDm.out.mks y hy; have h2 := HS.out; omega)
      have hH := HE.out.hH
      rw [hH]
      exact ⟨_, hok.drew⟩
    case round =>
      clear HRM HRD HRV
      obtain ⟨G, HK⟩ := hrel
      obtain ⟨aN, cN, hvN, hlN⟩ := owns_val HK.out.two.near
      obtain ⟨aF, cF, hvF, hlF⟩ := owns_val HK.out.two.far
      obtain ⟨ln, hln⟩ : ∃ ln, G.N.length = ln := ⟨_, rfl⟩
      obtain ⟨lf, hlf⟩ : ∃ lf, G.F.length = lf := ⟨_, rfl⟩
      rw [hln] at hvN hlN
      rw [hlf] at hvF hlF
      have HLN := hidden hln
      have HLF := hidden hlf
      clear hln hlf
      subst hvN hvF
      go_upto_region 5 with fail
      go_cut [59] (fun c wx => c = .bool (decide (0 < ln ∨ 0 < lf)) ∧ wx = wr)
      case first =>
        as_aux_lemma =>
          by_cases h1 : 0 < ln
          · go_wp2
            go_meet
            exact ⟨by simp [h1], rfl⟩
          · by_cases h2 : 0 < lf
            · go_wp2
              go_meet
              exact ⟨by simp [h2], rfl⟩
            · go_wp2
              go_meet
              exact ⟨by simp [h1, h2], rfl⟩
      case rest =>
        obtain ⟨hc, hw⟩ := hcut
        subst hw
        by_cases hpos : 0 < ln ∨ 0 < lf
        · have hd : decide (0 < ln ∨ 0 < lf) = true := by simp [hpos]
          rw [hd] at hc
          subst hc
          go_upto_if 62 with fail
          obtain ⟨gN, mN, kN, hnn⟩ := HK.out.nn
          have haN : aN = some ⟨gN, 0, none⟩ := by injection hnn
          subst haN
          clear hnn
          go_cut [10, 11] (fun vN vF wx => ∃ G N' x, Hid (G.N = N' ++ [x]) ∧ Hid (Ok (grOf n TR LR ord lev up) b H mB dB vB s w1 vN vF wx n 0 gk (4 * n + 2) G))
          case first =>
            as_aux_lemma =>
              by_cases h1 : ln = 0
              · subst h1
                have hF : G.F ≠ [] := fun e => by have h := HLF.out; rw [e] at h; simp at h; omega
                go_wp2
                go_quiet (fail)
                go_wp2
                go_meet
                have hN : G.N = [] := List.eq_nil_of_length_eq_zero HLN.out
                have hok := (HK.out.swap (g := grOf n TR LR ord lev up) hN hF).drewN nq
                obtain ⟨F', x, hF'⟩ := last_ex hF
                exact ⟨{ G with N := G.F, F := [], D := G.D + 1 }, F', x, hF', hok⟩
              · have hb1 : ((ln : Int) == 0) = false := by simp; omega
                go_wp2
                go_meet
                have hN : G.N ≠ [] := fun e => by have h := HLN.out; rw [e] at h; simp at h; omega
                obtain ⟨N', x, hN'⟩ := last_ex hN
                exact ⟨G, N', x, hN', HK.out.wide (by omega)⟩
          case rest =>
            clear HK HLN HLF hlN hlF hpos hd
            clear G
            obtain ⟨G, N', x, HN, HK⟩ := hcut
            obtain ⟨g1, m1, c1, hv1⟩ := HK.out.nn
            subst hv1
            obtain ⟨em, hgk, hok⟩ := HK.out.pop HN.out
            have hcap : m1 ≤ c1 := by
              obtain ⟨a2, c2, h2, h3⟩ := owns_val HK.out.two.near
              injection h2 with h4 h5 h6
              omega
            have hcx : wc.cell? ⟨g1, N'.length, none⟩ = some (.int .i64 (x : Int)) := by
              have h2 := HK.out.two
              rw [HN.out] at h2
              exact h2.last
            have hMx := HK.out.inv.nn x (by rw [HN.out]; simp)
            have hxn : x < n := HK.out.inv.ml x hMx.1
            have HFin : Hid (x = a → (grOf n TR LR ord lev up).Fin a b G.M G.d G.V G.Q G.rk) := fun e => HK.out.inv.fin _ (by rw [HN.out, e]; simp)
            obtain ⟨l1, hl1⟩ : ∃ l1, N'.length = l1 := ⟨_, rfl⟩
            rw [hl1] at em hcx hok
            subst em
            have hlb : l1 ≤ 100000 := by
              have h2 := hok.lens
              have h3 : N'.length + G.F.length ≤ gk - 1 := h2.1
              omega
            have HOK := hidden hok
            clear hok hMx hl1 HN HK
            have hcast : ((l1 + 1 : Nat) : Int) - 1 = (l1 : Int) := by omega
            obtain ⟨f0, f3, f18, f35, f36, f37, f38⟩ := HE.out.fields HOK.out.fr
            have hco := HE.out.outs HOK.out.fr hxn
            clear f3 f18 f35 f36 f37 f38
            by_cases hxa : x = a
            · have HFin' := hidden (HFin.out hxa)
              clear HFin
              subst hxa
              go_wp2
              go_meet
              exact ⟨G, HOK.out.fr, HOK.out.rows, HFin'⟩
            · have hxab : ((x : Int) == (a : Int)) = false := by simp; omega
              go_wp2
              clear hcx hcast f0 hco HFin hxa hcap hlb
              obtain ⟨μ, hμ⟩ : ∃ m, gk - 1 = m := ⟨_, rfl⟩
              rw [hμ] at HOK
              go_loopg [10, 11, 88] (TR x).length (fun k vN vF i wr => ∃ j G, j + k = (TR x).length ∧ i = .int .i64 ((j : Nat) : Int) ∧ Hid (Ok (grOf n TR LR ord lev up) b H mB dB vB s w1 vN vF wr x j μ (4 * n + 1) G))
              case atStart => exact ⟨0, { G with N := N' }, by omega, rfl, HOK⟩
              case round =>
                clear HOK
                clear G
                obtain ⟨j, G, hjk, rfl, HK⟩ := hrel
                have hmt := HE.out.len x hxn
                by_cases hlj : j < (TR x).length
                · obtain ⟨hcy, hcz⟩ := HE.out.arcs HK.out.fr hxn hlj
                  obtain ⟨hiy, hiz⟩ := HE.out.int x j hxn hlj
                  obtain ⟨a1, a2, a3⟩ := HDm.out.arc x j (by omega) (by omega)
                  obtain ⟨y, hy'⟩ : ∃ y : Nat, (TR x).getD j 0 = (y : Int) := ⟨((TR x).getD j 0).toNat, by omega⟩
                  obtain ⟨Z, hz'⟩ : ∃ Z, (LR x).getD j 0 = Z := ⟨_, rfl⟩
                  rw [hy'] at hcy a1 a2
                  rw [hz'] at hcz hiz a3
                  have HK2 := hidden (HK.out.alloc (.cells #[.int .i64 (y : Int), .int .i64 Z] 57))
                  obtain ⟨ob', oo', hoa', hco, ho⟩ := HE.out.ord.kept (HE.out.below HK2.out.fr) y (by rw [HOL.out]; omega)
                  cases hoa'
                  obtain ⟨o, ho'⟩ : ∃ o, ord.getD y 0 = o := ⟨_, rfl⟩
                  rw [ho'] at hco ho
                  have HLT : Hid (Lets TR LR ord (fun _ => 0) x j y Z o 0 0) := ⟨hy', hz', ho', rfl, rfl⟩
                  have hyn : (y : Int) < n := a2
                  have hz1 := hiz.1
                  have hz2 := hiz.2
                  have ho3 := ho.1
                  have ho4 := ho.2
                  have HA3 := hidden a3
                  have hjlen : (j : Int) < (TR x).length := by omega
                  clear hy' hz' ho' hiy hiz a1 a2 a3 ho
                  obtain ⟨f0, f3, f18, f35, f36, f37, f38⟩ := HE.out.fields HK2.out.fr
                  have hcX := HK2.out.rows.dist.cell (i := x) hxn
                  obtain ⟨X, hX⟩ : ∃ X, G.d x = X := ⟨_, rfl⟩
                  rw [hX] at hcX
                  have HX := hidden hX
                  clear hX f0
                  by_cases c1 : up < o
                  · go_wp2
                    go_roundg (gk - 1)
                    case measure => omega
                    case rel => exact ⟨j + 1, G, by omega, by go_num, (HK.out.skip (.inl (by obtain ⟨e1, e2, e3⟩ := HLT.out.gr (k := n) (lev := lev) (up := up); rw [e1, e2]; show ¬ o ≤ up; omega))).alloc _⟩
                  · go_upto_region 17 with fail
                    have hce : (wr.alloc (.cells #[.int .i64 (y : Int), .int .i64 Z] 57)).cell? ⟨wr.heap.size, 1, none⟩ = some (.int .i64 Z) := by simp
                    have heH : H ≤ wr.heap.size := HK.out.fr.size
                    obtain ⟨eB, heB⟩ : ∃ eB, wr.heap.size = eB := ⟨_, rfl⟩
                    obtain ⟨we, hwe⟩ : ∃ we, wr.alloc (.cells #[.int .i64 (y : Int), .int .i64 Z] 57) = we := ⟨_, rfl⟩
                    rw [hwe] at HK2 hco f3 f18 f35 f36 f37 f38 hcX hce ⊢
                    rw [heB] at hce heH ⊢
                    clear heB hwe hcy hcz HK hco f3
                    go_cut [124] (fun c wx => ∃ hi : Bool, c = .bool hi ∧ Hid ((grOf n TR LR ord lev up).wt x j = if hi then 1 else 0) ∧ Hid (Ok (grOf n TR LR ord lev up) b H mB dB vB s w1 u10 u11 wx x j μ (4 * n + 1) G) ∧ Hid (wx.cell? ⟨eB, 1, none⟩ = some (.int .i64 Z)))
                    case first =>
                      as_aux_lemma =>
                        clear f35 f36 f37 f38
                        by_cases c2 : 0 ≤ Z
                        · have a4 := HA3.out c2
                          obtain ⟨q, hq⟩ : ∃ q : Nat, Z / 2 = (q : Int) := ⟨(Z / 2).toNat, by omega⟩
                          have hq2 : Z.tdiv 2 = (q : Int) := by rw [← hq]; exact Int.tdiv_eq_ediv_of_nonneg c2
                          have hq3 : (q : Int) < lev.length := by omega
                          have hq4 : (q : Int) ≤ 9223372036854775807 := by omega
                          obtain ⟨vb, vo, hva, hcv, hv⟩ := HE.out.lev.kept (HE.out.below HK2.out.fr) q (by omega)
                          subst hva
                          obtain ⟨l, hl'⟩ : ∃ l, lev.getD q 0 = l := ⟨_, rfl⟩
                          rw [hl'] at hcv hv
                          have hl1 := hv.1
                          have hl2 := hv.2
                          have c2d : decide (0 ≤ Z) = true := by simp [c2]
                          by_cases c5 : 0 < l
                          · have HC := hidden (cost_high (k := n) (TR := TR) (LR := LR) (ord := ord) (lev := lev) (up := up) c2 hq hl' c5)
                            clear hq hl' a4 hv
                            go_quiet (fail)
                            go_wp2
                            go_meet
                            exact ⟨true, rfl, by obtain ⟨e1, e2, e3⟩ := HLT.out.gr (k := n) (lev := lev) (up := up); rw [e3, HC.out]; rfl, HK2.out.drewN _, hce⟩
                          · have HC := hidden (cost_low (k := n) (TR := TR) (LR := LR) (ord := ord) (lev := lev) (up := up) hq hl' c5)
                            have c5d : decide (0 < l) = false := by simp; omega
                            clear hq hl' a4 hv
                            go_quiet (fail)
                            go_wp2
                            go_meet
                            exact ⟨false, rfl, by obtain ⟨e1, e2, e3⟩ := HLT.out.gr (k := n) (lev := lev) (up := up); rw [e3, HC.out]; rfl, HK2.out.drewN _, hce⟩
                        · have HC := hidden (cost_neg (k := n) (TR := TR) (LR := LR) (ord := ord) (lev := lev) (up := up) c2)
                          have c2d : decide (0 ≤ Z) = false := by simp; omega
                          go_quiet (fail)
                          go_wp2
                          go_meet
                          exact ⟨false, rfl, by obtain ⟨e1, e2, e3⟩ := HLT.out.gr (k := n) (lev := lev) (up := up); rw [e3, HC.out]; rfl, HK2.out.drewN _, hce⟩
                    case rest =>
                      clear HK2 hce f18 f35 f36 f37 f38 hcX
                      obtain ⟨hi, hc, HWT, HK, HCE⟩ := hcut
                      subst hc
                      have hXb : X ≤ 100000 := by
                        have h1 := HK.out.lens
                        have h2 := (HK.out.inv.ex hxn).2.1
                        have h3 := HX.out
                        omega
                      go_upto_if 124 with fail
                      go_cut [16] (fun c wx => ∃ v : Nat, c = .int .i64 (v : Int) ∧ v ≤ X + 1 ∧ Hid (G.d x + (grOf n TR LR ord lev up).wt x j = v) ∧ Hid (Ok (grOf n TR LR ord lev up) b H mB dB vB s w1 u10 u11 wx x j μ (4 * n + 1) G) ∧ Hid (wx.cell? ⟨eB, 1, none⟩ = some (.int .i64 Z)))
                      case first =>
                        as_aux_lemma =>
                          cases hi
                          · have HW0 : Hid ((grOf n TR LR ord lev up).wt x j = 0) := by show _ = 0; rw [HWT.out]; rfl
                            clear HWT
                            go_wp2
                            go_meet
                            exact ⟨X, rfl, by omega, hidden (by have h1 := HW0.out; have h2 := HX.out; omega), HK, HCE⟩
                          · have HW0 : Hid ((grOf n TR LR ord lev up).wt x j = 1) := by show _ = 1; rw [HWT.out]; rfl
                            clear HWT
                            go_wp2
                            go_meet
                            exact ⟨X + 1, by go_num, by omega, hidden (by have h1 := HW0.out; have h2 := HX.out; omega), HK, HCE⟩
                      case rest =>
                        clear HWT HK HCE
                        obtain ⟨v, hc, hvX, HV, HK, HCE⟩ := hcut
                        subst hc
                        obtain ⟨f0, f3, f18, f35, f36, f37, f38⟩ := HE.out.fields HK.out.fr
                        have hcm := HK.out.rows.mark.cell (i := y) (by show y < n; omega)
                        have hcd := HK.out.rows.dist.cell (i := y) (by show y < n; omega)
                        obtain ⟨Mk, hMk⟩ : ∃ m, G.ms y = m := ⟨_, rfl⟩
                        obtain ⟨Y, hY⟩ : ∃ m, G.d y = m := ⟨_, rfl⟩
                        rw [hMk] at hcm
                        rw [hY] at hcd
                        have HMk : Hid (G.M y ↔ Mk = s) := by rw [← hMk]; exact HK.out.iff y (by show y < n; omega)
                        have HY := hidden hY
                        clear hMk hY f0 f3 f18 f37
                        go_upto_region 19 with fail
                        go_cut [149] (fun c wx => ∃ t : Bool, c = .bool t ∧ Hid (t = true ↔ (G.M y ∧ G.d y ≤ v)) ∧ Hid (Ok (grOf n TR LR ord lev up) b H mB dB vB s w1 u10 u11 wx x j μ (4 * n + 1) G) ∧ Hid (wx.cell? ⟨eB, 1, none⟩ = some (.int .i64 Z)))
                        case first =>
                          as_aux_lemma =>
                            by_cases m1 : Mk = s
                            · have m1b : (Mk == s) = true := by simp [m1]
                              by_cases m2 : (Y : Int) ≤ v
                              · go_quiet (fail)
                                go_wp2
                                go_meet
                                exact ⟨true, rfl, by rw [HMk.out, HY.out]; exact ⟨fun _ => ⟨m1, by omega⟩, fun _ => rfl⟩, HK.out.drewN _, HCE⟩
                              · have m2b : decide ((Y : Int) ≤ (v : Int)) = false := by simp; omega
                                go_quiet (fail)
                                go_wp2
                                go_meet
                                exact ⟨false, rfl, by rw [HMk.out, HY.out]; exact ⟨fun h => (by cases h), fun h => by omega⟩, HK.out.drewN _, HCE⟩
                            · have m1b : (Mk == s) = false := by simp [m1]
                              go_quiet (fail)
                              go_wp2
                              go_meet
                              exact ⟨false, rfl, by rw [HMk.out, HY.out]; exact ⟨fun h => (by cases h), fun h => absurd h.1 m1⟩, HK.out.drewN _, HCE⟩
                        case rest =>
                          clear hcm hcd f35 f36 f38 HCE HK
                          obtain ⟨t, hc, HT, HK, HCE⟩ := hcut
                          subst hc
                          have HTE : Hid ((grOf n TR LR ord lev up).T x j = y ∧ (grOf n TR LR ord lev up).L x j = Z ∧ (grOf n TR LR ord lev up).Arc x j) := by
                            obtain ⟨e1, e2, e3⟩ := HLT.out.gr (k := n) (lev := lev) (up := up)
                            refine ⟨e1, HLT.out.2.1, hxn, hlj, ?_, ?_⟩
                            · rw [e1]; show y < n; omega
                            · rw [e1, e2]; show o ≤ up; omega
                          cases t
                          · obtain ⟨f0, f3, f18, f35, f36, f37, f38⟩ := HE.out.fields HK.out.fr
                            have hcm := HK.out.rows.mark.cell (i := y) (by show y < n; omega)
                            have hcd := HK.out.rows.dist.cell (i := y) (by show y < n; omega)
                            have hcv1 := HK.out.rows.via.cell (i := y * 2) (by show y * 2 < 2 * n; omega)
                            have hcv2 := HK.out.rows.via.cell (i := y * 2 + 1) (by show y * 2 + 1 < 2 * n; omega)
                            have hfm := HK.out.rows.mark.frozen y
                            have hfd := HK.out.rows.dist.frozen y
                            have hfv1 := HK.out.rows.via.frozen (y * 2)
                            have hfv2 := HK.out.rows.via.frozen (y * 2 + 1)
                            obtain ⟨k1, hk1⟩ : ∃ k1 : Value, .int .i64 (G.ms y) = k1 := ⟨_, rfl⟩
                            obtain ⟨k2, hk2⟩ : ∃ k2 : Value, .int .i64 (G.d y : Int) = k2 := ⟨_, rfl⟩
                            obtain ⟨k3, hk3⟩ : ∃ k3 : Value, viaCell G.V G.Q (y * 2) = k3 := ⟨_, rfl⟩
                            obtain ⟨k4, hk4⟩ : ∃ k4 : Value, viaCell G.V G.Q (y * 2 + 1) = k4 := ⟨_, rfl⟩
                            rw [hk1] at hcm
                            rw [hk2] at hcd
                            rw [hk3] at hcv1
                            rw [hk4] at hcv2
                            clear hk1 hk2 hk3 hk4 f0 f3 f18
                            have hce := HCE.out
                            obtain ⟨n1, n2, n3⟩ := HE.out.ne
                            obtain ⟨b1, b2, b3⟩ := HE.out.mH
                            have HNT : Hid (¬ (G.M ((grOf n TR LR ord lev up).T x j) ∧ G.d ((grOf n TR LR ord lev up).T x j) ≤ G.d x + (grOf n TR LR ord lev up).wt x j)) := by
                              show ¬ _
                              rw [HTE.out.1, HV.out, ← HT.out]
                              simp
                            have HMid := hidden (HK.out.put HTE.out.2.2 HNT.out n1 n2 n3 b1 b2 b3 HTE.out.1 HV.out HTE.out.2.1)
                            have hxy : y ≠ x := by
                              have := (HK.out.inv.far _ HTE.out.2.2 HNT.out).2.1
                              rwa [HTE.out.1] at this
                            have hlb : G.N.length + G.F.length ≤ 100000 := by
                              have h1 := HK.out.lens
                              omega
                            clear HT HK HCE
                            go_upto_region 20 with fail
                            go_cut [] (fun wx => Hid (Mid (grOf n TR LR ord lev up) b H mB dB vB s w1 u10 u11 wx x j μ (4 * n + 1) G))
                            case first =>
                              as_aux_lemma =>
                                go_region
                                go_wp2
                                go_meet
                                exact HMid.out.drew
                            case rest =>
                              clear HMid hcm hcd hcv1 hcv2 hfm hfd hfv1 hfv2 hce f35 f36 f37 f38
                              have HM2 := hcut
                              clear hcut
                              have f38 := (HE.out.fields HM2.out.fr).2.2.2.2.2.2
                              have hcX : wc.cell? ⟨dB, x, none⟩ = some (.int .i64 (X : Int)) := by
                                have h := HM2.out.rows.dist.cell (i := x) hxn
                                have e : (G.took (grOf n TR LR ord lev up) s x j).d x = X := by
                                  show Gr.upd G.d ((grOf n TR LR ord lev up).T x j) _ x = X
                                  rw [HTE.out.1, Gr.upd_other _ _ (Ne.symm hxy)]; exact HX.out
                                rw [e] at h; exact h
                              by_cases hwt : (grOf n TR LR ord lev up).wt x j = 0
                              · have hvx : v = X := by
                                  have h1 := HV.out
                                  rw [hwt, HX.out] at h1
                                  omega
                                subst hvx
                                have HW0 := hidden hwt
                                clear hwt
                                go_wp2_with (at_builtin; go_must (refine app_int _ rfl _ _ rfl H HM2.out.fr.size u10 G.N.length _ rfl HM2.out.two.near (y : Int) rfl (by omega) ?_; intro v' w' ho' hg' hb'))
                                go_roundg (gk - 1)
                                case measure => omega
                                case rel => exact ⟨j + 1, G.took (grOf n TR LR ord lev up) s x j, by omega, by go_num, HM2.out.near b1 b2 b3 HW0.out HTE.out.1 ho' hg' hb'.out⟩
                              · have hvx : ((v : Int) == (X : Int)) = false := by
                                  have h1 := HV.out
                                  rw [HX.out] at h1
                                  simp
                                  omega
                                have HW0 := hidden hwt
                                clear hwt
                                go_wp2_with (at_builtin; go_must (refine app_int _ rfl _ _ rfl H HM2.out.fr.size u11 G.F.length _ rfl HM2.out.two.far (y : Int) rfl (by omega) ?_; intro v' w' ho' hg' hb'))
                                go_roundg (gk - 1)
                                case measure => omega
                                case rel => exact ⟨j + 1, G.took (grOf n TR LR ord lev up) s x j, by omega, by go_num, HM2.out.far b1 b2 b3 HW0.out HTE.out.1 ho' hg' hb'.out⟩
                          · have HT2 := hidden (HT.out.1 rfl)
                            clear HT
                            go_wp2
                            go_roundg (gk - 1)
                            case measure => omega
                            case rel => exact ⟨j + 1, G, by omega, by go_num, HK.out.skip (.inr (by rw [HTE.out.1, HV.out]; exact HT2.out))⟩
                · go_wp2
                  go_roundg μ
                  case measure => omega
                  case rel =>
                    have e : j = (TR x).length := by omega
                    subst e
                    exact ⟨G, HK.out.done⟩
        · have hd : decide (0 < ln ∨ 0 < lf) = false := by simp [hpos]
          rw [hd] at hc
          subst hc
          go_wp2
          go_meet
          have hN : G.N = [] := List.eq_nil_of_length_eq_zero (by rw [HLN.out]; omega)
          have hF : G.F = [] := List.eq_nil_of_length_eq_zero (by rw [HLF.out]; omega)
          have hi := HK.out.inv
          rw [hN, hF] at hi
          exact ⟨G, HK.out.fr, HK.out.rows, hi.finEnd _ HEX.out⟩
  case rest =>
    as_aux_lemma =>
      clear cm cmf cd cdf f35 f36 f38
      obtain ⟨G, HF, HR, HFin⟩ := hcut
      go_wp2
      go_loopg [17, 18] (G.rk a) (fun k vL sx wr => ∃ x acc vs, sx = .int .i64 ((x : Nat) : Int) ∧ k = G.rk x ∧ acc.length ≤ vs.length ∧ Hid ((grOf n TR LR ord lev up).Back a b G.M G.d G.rk x acc vs) ∧ Hid (Fr H mB dB vB w1 wr) ∧ Hid (Rows3 mB dB vB n wr G.ms G.d G.V G.Q) ∧ Hid (wr.ownsRow H 3 1 vL (acc.length + 1) ((p :: acc).map (Value.int .i64))))
      case atStart => exact ⟨a, [], [], rfl, rfl, Nat.le_refl _, Gr.back_start _ HFin.out, HF.out.alloc _, HR.out.alloc _, own_one HF.out.size p⟩
      case round =>
        clear HF HR
        obtain ⟨x, acc, vs, rfl, rfl, hav, HB, HF, HR, HW⟩ := hrel
        have hxn : x < n := HFin.out.ml x HB.out.mx
        have hvs : vs.length ≤ n := Gr.nodup_le n vs HB.out.nod (fun v hv => HFin.out.ml v (HB.out.rks v hv).1)
        obtain ⟨f0, f3, f18, f35, f36, f37, f38⟩ := HE.out.fields HF.out
        clear f0 f3 f18 f35 f36 f38
        have c1 := HR.out.via.cell (i := x * 2) (by omega)
        have c2 := HR.out.via.cell (i := x * 2 + 1) (by omega)
        rw [viaCell_to] at c1
        rw [viaCell_lit] at c2
        by_cases hxb : x = b
        · subst hxb
          go_wp2
          go_ret
          exact ⟨u17, acc, rfl, owns_base HW.out HE.out.old.2.2.2.1, Gr.Back.fin _ HFin.out HB.out, HE.out.below HF.out⟩
        · obtain ⟨y, hy⟩ : ∃ y, G.V x = y := ⟨_, rfl⟩
          obtain ⟨z, hz⟩ : ∃ z, G.Q x = z := ⟨_, rfl⟩
          rw [hy] at c1
          rw [hz] at c2
          have HY := hidden hy
          have HZ := hidden hz
          have hrk : G.rk y < G.rk x := by rw [← hy]; exact (HFin.out.via x HB.out.mx hxb).2.2
          clear hy hz
          obtain ⟨hm1, hd1, hv1⟩ := HE.out.mH
          by_cases h0 : 0 ≤ z
          · go_wp2_with (at_builtin; go_must (refine app_int _ rfl _ _ rfl H HF.out.size u17 (acc.length + 1) _ rfl HW.out z rfl (by omega) ?_; intro v' w' ho' hg' hb'; have HF' := hidden (HF.out.grown hg' (fun k hk => (HW.out.lt k hk).1)); have HR' := hidden (HR.out.grown hg' (grown_apart HW.out hm1 hg') (grown_apart HW.out hd1 hg') (grown_apart HW.out hv1 hg')); have f37' := (HE.out.fields HF'.out).2.2.2.2.2.1; have c1' : w'.cell? ⟨vB, x * 2, none⟩ = some (.int .i64 (y : Int)) := by rw [HR'.out.via.cell (by omega), viaCell_to, HY.out]))
            go_roundg (G.rk y)
            case measure => exact hrk
            case rel => exact ⟨y, acc ++ [z], x :: vs, rfl, rfl, by simp; omega, by rw [← HY.out]; exact Gr.Back.step _ HFin.out HB.out hxb (by rw [HZ.out, if_pos h0]), HF', HR', hidden (by simpa using ho')⟩
          · go_wp2
            go_roundg (G.rk y)
            case measure => exact hrk
            case rel => exact ⟨y, acc, x :: vs, rfl, rfl, by simp; omega, by rw [← HY.out]; exact Gr.Back.step _ HFin.out HB.out hxb (by rw [HZ.out, if_neg (by omega)]; simp), HF, HR, HW⟩
end Go.Proofs.Qxb6603374a
