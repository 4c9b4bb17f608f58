/-
  No cell of these rows narrows 'for every input' (looked for: loops, veiled, ifaces, maps, wideKeys, modest, calm, conditions, laid).
  DERIVED. THE GIVEN ROWS OF THIS SEAT. 5 by the template 'for every input the law returns true; each argument reads behind the call as it read before'; 0 by the template 'total and deterministic' (their statements: Qxb6603374aTotals.lean).
  GIVEN WITH THE SEED: the statements are not yours to turn. If you find one false, say at which input.
  Laid BY PROGRAM, IN A SANDBOX (cutbox-rows.mjs): the forced cells as the released guide's own fill.sh prints them over the translation b02b56ff1bc74908… (all of the seat's roots in one cut). By AI agents, Wed Nov 11 2026. No macro, syntax, notation, axiom, sorry.
-/
import Derived.Test.Qxb6603374aChecked
import GoSem.Claim
import GoSem.ClaimJoined
import GoSem.ClaimMapViews
import Derived.JoinedTies
import Derived.KernelRfl
namespace Go.Proofs.Qxb6603374a
/- THE CELL 'sum', in the pinned program and in every row, IS THE sha256 OF THE DUMP (.gsa) THAT Qxb6603374aProg.lean LOADS. Nothing in Lean hashes anything: it is a label: what it is worth is what the hold of that sum in a sandbox is worth. -/
noncomputable def Try.pinned : Pinned := { name := "qxb6603374a", sum := "b02b56ff1bc749082101dc082f7c9061adf5f1b1a649f25858df3d37fc59a2a3", checked := Try.checked }
namespace Rows
def none {H : Type} : Left H := { results := [], args := [] }

/-- 'zzlaws_schedule_b1.FnClosureIsReachability': WHATEVER THE INPUT: true; the input reads as it did. -/
def fnClosureIsReachabilitySpec : ChangeSpec := { name := "fnClosureIsReachability", fn := fun _ => fun
  | [d] => { results := [.lit (.bool true)], args := [d] }
  | _ => none }
def fnClosureIsReachabilityRow : OpenClaim := { program := "qxb6603374a", sum := "b02b56ff1bc749082101dc082f7c9061adf5f1b1a649f25858df3d37fc59a2a3", func := "example.com/isoproof/isoproof/zzlaws_schedule_b1.FnClosureIsReachability", spec := "fnClosureIsReachability", unfollowed := true, recurses := true, plainKeys := false, apart := false }
def FnClosureIsReachabilitySaid : Prop := fnClosureIsReachabilityRow.holds Try.pinned (OpenSpec.ofChange fnClosureIsReachabilitySpec)

/-- ITS FALSE NEIGHBOUR: 'it returns false'. Refute it at one input. -/
def fnClosureIsReachabilityWrong : ChangeSpec := { name := "fnClosureIsReachability", fn := fun _ => fun
  | [d] => { results := [.lit (.bool false)], args := [d] }
  | _ => none }
def FnClosureIsReachabilityWrongFalsely : Prop := fnClosureIsReachabilityRow.holds Try.pinned (OpenSpec.ofChange fnClosureIsReachabilityWrong)

/-- 'zzlaws_schedule_b1.FnClosureOfReverseIsTranspose': WHATEVER THE INPUT: true; the input reads as it did. -/
def fnClosureOfReverseIsTransposeSpec : ChangeSpec := { name := "fnClosureOfReverseIsTranspose", fn := fun _ => fun
  | [d] => { results := [.lit (.bool true)], args := [d] }
  | _ => none }
def fnClosureOfReverseIsTransposeRow : OpenClaim := { program := "qxb6603374a", sum := "b02b56ff1bc749082101dc082f7c9061adf5f1b1a649f25858df3d37fc59a2a3", func := "example.com/isoproof/isoproof/zzlaws_schedule_b1.FnClosureOfReverseIsTranspose", spec := "fnClosureOfReverseIsTranspose", unfollowed := true, recurses := true, plainKeys := false, apart := false }
def FnClosureOfReverseIsTransposeSaid : Prop := fnClosureOfReverseIsTransposeRow.holds Try.pinned (OpenSpec.ofChange fnClosureOfReverseIsTransposeSpec)

/-- ITS FALSE NEIGHBOUR: 'it returns false'. Refute it at one input. -/
def fnClosureOfReverseIsTransposeWrong : ChangeSpec := { name := "fnClosureOfReverseIsTranspose", fn := fun _ => fun
  | [d] => { results := [.lit (.bool false)], args := [d] }
  | _ => none }
def FnClosureOfReverseIsTransposeWrongFalsely : Prop := fnClosureOfReverseIsTransposeRow.holds Try.pinned (OpenSpec.ofChange fnClosureOfReverseIsTransposeWrong)

/-- 'zzlaws_schedule_b1.FnCycleIsCheapestPath': WHATEVER THE INPUT: true; the input reads as it did. -/
def fnCycleIsCheapestPathSpec : ChangeSpec := { name := "fnCycleIsCheapestPath", fn := fun _ => fun
  | [d1, d2, d3, d4, d5, d6, d7, d8, d9] => { results := [.lit (.bool true)], args := [d1, d2, d3, d4, d5, d6, d7, d8, d9] }
  | _ => none }
def fnCycleIsCheapestPathRow : OpenClaim := { program := "qxb6603374a", sum := "b02b56ff1bc749082101dc082f7c9061adf5f1b1a649f25858df3d37fc59a2a3", func := "example.com/isoproof/isoproof/zzlaws_schedule_b1.FnCycleIsCheapestPath", spec := "fnCycleIsCheapestPath", plainKeys := false, apart := false }
def FnCycleIsCheapestPathSaid : Prop := fnCycleIsCheapestPathRow.holds Try.pinned (OpenSpec.ofChange fnCycleIsCheapestPathSpec)

/-- ITS FALSE NEIGHBOUR: 'it returns false'. Refute it at one input. -/
def fnCycleIsCheapestPathWrong : ChangeSpec := { name := "fnCycleIsCheapestPath", fn := fun _ => fun
  | [d1, d2, d3, d4, d5, d6, d7, d8, d9] => { results := [.lit (.bool false)], args := [d1, d2, d3, d4, d5, d6, d7, d8, d9] }
  | _ => none }
def FnCycleIsCheapestPathWrongFalsely : Prop := fnCycleIsCheapestPathRow.holds Try.pinned (OpenSpec.ofChange fnCycleIsCheapestPathWrong)

/-- 'zzlaws_schedule_b1.FnViewSearchMatchesModel': WHATEVER THE INPUT: true; the input reads as it did. -/
def fnViewSearchMatchesModelSpec : ChangeSpec := { name := "fnViewSearchMatchesModel", fn := fun _ => fun
  | [d1, d2, d3, d4, d5, d6, d7, d8] => { results := [.lit (.bool true)], args := [d1, d2, d3, d4, d5, d6, d7, d8] }
  | _ => none }
def fnViewSearchMatchesModelRow : OpenClaim := { program := "qxb6603374a", sum := "b02b56ff1bc749082101dc082f7c9061adf5f1b1a649f25858df3d37fc59a2a3", func := "example.com/isoproof/isoproof/zzlaws_schedule_b1.FnViewSearchMatchesModel", spec := "fnViewSearchMatchesModel", plainKeys := false, apart := false }
def FnViewSearchMatchesModelSaid : Prop := fnViewSearchMatchesModelRow.holds Try.pinned (OpenSpec.ofChange fnViewSearchMatchesModelSpec)

/-- ITS FALSE NEIGHBOUR: 'it returns false'. Refute it at one input. -/
def fnViewSearchMatchesModelWrong : ChangeSpec := { name := "fnViewSearchMatchesModel", fn := fun _ => fun
  | [d1, d2, d3, d4, d5, d6, d7, d8] => { results := [.lit (.bool false)], args := [d1, d2, d3, d4, d5, d6, d7, d8] }
  | _ => none }
def FnViewSearchMatchesModelWrongFalsely : Prop := fnViewSearchMatchesModelRow.holds Try.pinned (OpenSpec.ofChange fnViewSearchMatchesModelWrong)

/-- 'zzlaws_schedule_b1.FnViewSearchBookkeeping': WHATEVER THE INPUT: true; the input reads as it did. -/
def fnViewSearchBookkeepingSpec : ChangeSpec := { name := "fnViewSearchBookkeeping", fn := fun _ => fun
  | [d1, d2, d3, d4, d5, d6, d7, d8] => { results := [.lit (.bool true)], args := [d1, d2, d3, d4, d5, d6, d7, d8] }
  | _ => none }
def fnViewSearchBookkeepingRow : OpenClaim := { program := "qxb6603374a", sum := "b02b56ff1bc749082101dc082f7c9061adf5f1b1a649f25858df3d37fc59a2a3", func := "example.com/isoproof/isoproof/zzlaws_schedule_b1.FnViewSearchBookkeeping", spec := "fnViewSearchBookkeeping", plainKeys := false, apart := false }
def FnViewSearchBookkeepingSaid : Prop := fnViewSearchBookkeepingRow.holds Try.pinned (OpenSpec.ofChange fnViewSearchBookkeepingSpec)

/-- ITS FALSE NEIGHBOUR: 'it returns false'. Refute it at one input. -/
def fnViewSearchBookkeepingWrong : ChangeSpec := { name := "fnViewSearchBookkeeping", fn := fun _ => fun
  | [d1, d2, d3, d4, d5, d6, d7, d8] => { results := [.lit (.bool false)], args := [d1, d2, d3, d4, d5, d6, d7, d8] }
  | _ => none }
def FnViewSearchBookkeepingWrongFalsely : Prop := fnViewSearchBookkeepingRow.holds Try.pinned (OpenSpec.ofChange fnViewSearchBookkeepingWrong)

end Rows
end Go.Proofs.Qxb6603374a
