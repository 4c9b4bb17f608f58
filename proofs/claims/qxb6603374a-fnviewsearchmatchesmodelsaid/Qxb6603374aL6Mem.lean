/- What FnViewSearchMatchesModel's checks need of the answer of ZZNewViewSearch. -/
import Derived.Test.Qxb6603374aBk
import Derived.Test.Qxb6603374aM6d
import Derived.Test.Qxb6603374aVLawMem
namespace Go.Proofs.Qxb6603374a
open Go.ChangeShapes Go.WideShapes Go.ChangeAt Go.RowKit

def nilA : Array Value := #[.bool false, .bool true, .slice none 0 0, .slice none 0 0, .slice none 0 0, .slice none 0 0, .slice none 0 0, .slice none 0 0, .slice none 0 0, .slice none 0 0, .slice none 0 0, .slice none 0 0, .slice none 0 0, .slice none 0 0, .slice none 0 0, .slice none 0 0, .slice none 0 0, .slice none 0 0]
def okA (V : VIn) (xa : Option Addr) (xc : Nat) (b : Nat → Nat) (H1 H2 : Nat) : Array Value := #[.bool true, .bool false, .slice xa V.m xc, .slice (some ⟨b 1, 0, none⟩) V.m V.m, .slice (some ⟨b 6, 0, none⟩) V.ni V.ni, .slice (some ⟨b 8, 0, none⟩) V.m V.m, .slice (some ⟨b 9, 0, none⟩) V.ni V.ni, .slice (some ⟨b 7, 0, none⟩) V.m V.m, .slice (some ⟨b 4, 0, none⟩) V.m V.m, .slice (some ⟨b 5, 0, none⟩) V.ni V.ni,
        .slice (some ⟨H1, 0, none⟩) V.m V.m, .slice (some ⟨H1 + 1, 0, none⟩) V.m V.m, .slice (some ⟨H1 + 2, 0, none⟩) V.m V.m, .slice (some ⟨H1 + 3, 0, none⟩) V.m V.m, .slice (some ⟨H2, 0, none⟩) V.m V.m, .slice (some ⟨H2 + 1, 0, none⟩) V.m V.m, .slice (some ⟨H2 + 2, 0, none⟩) V.m V.m, .slice (some ⟨H2 + 3, 0, none⟩) V.m V.m]
/-- The answer, in block oB. -/
def Ans (V : VIn) (st : Nat → Int) (xa : Option Addr) (xc oB : Nat) (w : World) : Prop :=
  (OutRow oB nilA w ∧ ∃ i, i < V.nr ∧ V.Bad i) ∨ ∃ g b ra2 ra3 ra4 ra5 rc2 rc3 rc4 rc5 H1 H2, OutRow oB (okA V xa xc b H1 H2) w ∧ (∀ i, i < V.nr → ¬ V.Bad i) ∧ NvEnd V st xa xc g b ra2 ra3 ra4 ra5 rc2 rc3 rc4 rc5 w ∧ URows V (fun t => V.reads t V.nr) H1 w ∧ URows V (fun t => V.seenBy t V.nr) H2 w
theorem OutRow.kept {oB : Nat} {l : Array Value} {w w' : World} (h : OutRow oB l w) (hb : Below w.heap.size w w') : OutRow oB l w' := World.rowIs.of_block h (hb.block _ (World.rowIs.lt h))
section
variable {V : VIn} {st : Nat → Int} {xa : Option Addr} {xc oB : Nat} {w w' : World}
theorem Ans.kept (h : Ans V st xa xc oB w) (hb : Below w.heap.size w w') : Ans V st xa xc oB w' := by
  rcases h with ⟨h1, h2⟩ | ⟨g, b, ra2, ra3, ra4, ra5, rc2, rc3, rc4, rc5, H1, H2, h1, h2, h3, h4, h5⟩
  · exact .inl ⟨h1.kept hb, h2⟩
  · exact .inr ⟨g, b, ra2, ra3, ra4, ra5, rc2, rc3, rc4, rc5, H1, H2, h1.kept hb, h2, h3.kept hb, h4.kept hb, h5.kept hb⟩
structure Bk6 (V : VIn) (st : Nat → Int) (xa : Option Addr) (xc m ni oB b1 b7 b4 b5 b6 b8 b9 H1 H2 : Nat) (ra4 ra5 : Nat → Option Addr) (rc4 rc5 : Nat → Nat) (w : World) : Prop where
  bk : Bk V m ni oB b4 b5 b6 b8 b9 H1 H2 ra4 ra5 rc4 rc5 w
  c2 : w.cell? ⟨oB, 2, none⟩ = some (.slice xa m xc)
  c3 : w.cell? ⟨oB, 3, none⟩ = some (.slice (some ⟨b1, 0, none⟩) m m)
  c7 : w.cell? ⟨oB, 7, none⟩ = some (.slice (some ⟨b7, 0, none⟩) m m)
  r1 : Row w (some ⟨b1, 0, none⟩) ((List.range m).map st)
  r7 : ∀ t, t < m → w.cell? ⟨b7, t, none⟩ = some (.bool false)
theorem Bk6.kept {m ni b1 b7 b4 b5 b6 b8 b9 H1 H2 : Nat} {ra4 ra5 : Nat → Option Addr} {rc4 rc5 : Nat → Nat} (h : Bk6 V st xa xc m ni oB b1 b7 b4 b5 b6 b8 b9 H1 H2 ra4 ra5 rc4 rc5 w) (hb : Below w.heap.size w w') : Bk6 V st xa xc m ni oB b1 b7 b4 b5 b6 b8 b9 H1 H2 ra4 ra5 rc4 rc5 w' :=
  ⟨h.bk.kept hb, cellOld hb h.c2, cellOld hb h.c3, cellOld hb h.c7, h.r1.kept hb, fun t ht => cellOld hb (h.r7 t ht)⟩
/-- The answer where no read is refused. -/
theorem Ans.ok {m ni : Nat} (h : Ans V st xa xc oB w) (hm : V.m = m) (hn : V.ni = ni) (hg : ∀ i, i < V.nr → ¬ V.Bad i) : ∃ b1 b7 b4 b5 b6 b8 b9 H1 H2 ra4 ra5 rc4 rc5, Hid (Bk6 V st xa xc m ni oB b1 b7 b4 b5 b6 b8 b9 H1 H2 ra4 ra5 rc4 rc5 w) := by
  rcases h with ⟨-, i, h1, h2⟩ | ⟨g, b, ra2, ra3, ra4, ra5, rc2, rc3, rc4, rc5, H1, H2, h1, h2, h3, h4, h5⟩
  · exact absurd h2 (hg i h1)
  · have hb := Bk.of (oB := oB) hm hn h1 h3 h4 h5
    subst hm hn
    exact ⟨b 1, b 7, b 4, b 5, b 6, b 8, b 9, H1, H2, ra4, ra5, rc4, rc5, hb, World.rowIs.cell h1 (i := 2) (by omega), World.rowIs.cell h1 (i := 3) (by omega), World.rowIs.cell h1 (i := 7) (by omega), h3.r1, h3.r7⟩
/-- The answer where some read is refused. -/
theorem Ans.no (h : Ans V st xa xc oB w) (hg : ∃ i, i < V.nr ∧ V.Bad i) : w.cell? ⟨oB, 0, none⟩ = some (.bool false) ∧ w.cell? ⟨oB, 1, none⟩ = some (.bool true) := by
  rcases h with ⟨h1, -⟩ | ⟨g, b, ra2, ra3, ra4, ra5, rc2, rc3, rc4, rc5, H1, H2, h1, h2, h3, h4, h5⟩
  · exact ⟨World.rowIs.cell h1 (i := 0) (by omega), World.rowIs.cell h1 (i := 1) (by omega)⟩
  · obtain ⟨i, h6, h7⟩ := hg
    exact absurd h7 (h2 i h6)
end
end Go.Proofs.Qxb6603374a
