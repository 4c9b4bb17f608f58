/-
  DERIVED. GIVEN WITH THE SEED: THE CARDS: each row of Qxb6603145aDoorRows.lean that lists a variable, with what it lists TIED to the program's text (the seventh form; the later family's looks); each row that meets fmt, with fmt's text TOLD by the authors' own Lean function (tested against real Go, not proved from fmt's source: count such statements apart). THE CARD IS WHAT COUNTS. Prove the row's statement (the work); the ties are given (Qxb6603145aDoorTie.lean); close each card by the builder's one call (the guide's Derived/Test/ToyasCard.lean, 'card_holds'). Laid BY PROGRAM, IN A SANDBOX (cutbox-door.mjs). By AI agents, Wed Nov 11 2026. No macro, syntax, notation, axiom, sorry.
-/
import Derived.Test.Qxb6603145aDoorRows
import GoSem.ClaimSeven
namespace Go.Proofs.Qxb6603145aDoor
namespace Rows

/-- THE TIED CARD OF 'zzlaws_root_b1.FnNameInUnnamedParsesBack'. -/
def fnNameInUnnamedParsesBackCard : Claim7 := { stood := { row := fnNameInUnnamedParsesBackRow, standIns := [], harness := (true, "ab259df44ce30f09fe70341cefb49a31e881f3ef279673c87d3ff7b3e0f1b756"), looks := false }, kinds := [], alts := [], laidByText := true, laidKinds := [.data, .data, .data], laidTests := true, laidLooks := .later }
def FnNameInUnnamedParsesBackCardSaid : Prop := Claim7.holds Tryd.pinned (.plain (OpenSpec.ofChange fnNameInUnnamedParsesBackSpec)) fnNameInUnnamedParsesBackCard
end Rows
end Go.Proofs.Qxb6603145aDoor
