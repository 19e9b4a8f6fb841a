/-
  No cell of these rows narrows 'for every input' (looked for: loops, veiled, ifaces, maps, wideKeys, modest, calm, conditions, laid).
  DERIVED. THE GIVEN ROWS OF THIS SEAT. 3 by the template 'for every input the law returns true; each argument reads behind the call as it read before'; 0 by the template 'total and deterministic' (their statements: Qxb6609110aModsTotals.lean).
  GIVEN WITH THE SEED: the statements are not yours to turn. If you find one false, say at which input.
  Laid BY PROGRAM, IN A SANDBOX (cutbox-rows.mjs): the forced cells as the released guide's own fill.sh prints them over the translation e6732b7cfb6adc4c… (all of the seat's roots in one cut). By AI agents, Wed Nov 11 2026. No macro, syntax, notation, axiom, sorry.
-/
import Derived.Test.Qxb6609110aModsChecked
import GoSem.Claim
import GoSem.ClaimJoined
import GoSem.ClaimMapViews
import Derived.JoinedTies
import Derived.KernelRfl
namespace Go.Proofs.Qxb6609110aMods
/- THE CELL 'sum', in the pinned program and in every row, IS THE sha256 OF THE DUMP (.gsa) THAT Qxb6609110aModsProg.lean LOADS. Nothing in Lean hashes anything: it is a label: what it is worth is what the hold of that sum in a sandbox is worth. -/
noncomputable def Trym.pinned : Pinned := { name := "qxb6609110amods", sum := "e6732b7cfb6adc4c9661c26191c4afde19d1ff9dc12d88a273545d094095f59e", checked := Trym.checked }
namespace Rows
def none {H : Type} : Left H := { results := [], args := [] }

/-- 'zzlaws_root_b1.FnOperationsOnSplits': WHATEVER THE INPUT: true; the input reads as it did. -/
def fnOperationsOnSplitsSpec : ChangeSpec := { name := "fnOperationsOnSplits", fn := fun _ => fun
  | [d1, d2, d3] => { results := [.lit (.bool true)], args := [d1, d2, d3] }
  | _ => none }
def fnOperationsOnSplitsRow : OpenClaim := { program := "qxb6609110amods", sum := "e6732b7cfb6adc4c9661c26191c4afde19d1ff9dc12d88a273545d094095f59e", func := "example.com/privilege/privilege/zzlaws_root_b1.FnOperationsOnSplits", spec := "fnOperationsOnSplits", make := .lifted ["publicsums"], apart := false }
def FnOperationsOnSplitsSaid : Prop := fnOperationsOnSplitsRow.holds Trym.pinned (OpenSpec.ofChange fnOperationsOnSplitsSpec)

/-- ITS FALSE NEIGHBOUR: 'it returns false'. Refute it at one input. -/
def fnOperationsOnSplitsWrong : ChangeSpec := { name := "fnOperationsOnSplits", fn := fun _ => fun
  | [d1, d2, d3] => { results := [.lit (.bool false)], args := [d1, d2, d3] }
  | _ => none }
def FnOperationsOnSplitsWrongFalsely : Prop := fnOperationsOnSplitsRow.holds Trym.pinned (OpenSpec.ofChange fnOperationsOnSplitsWrong)

/-- 'zzlaws_root_b1.FnOperationsOnInsert': WHATEVER THE INPUT: true; the input reads as it did. -/
def fnOperationsOnInsertSpec : ChangeSpec := { name := "fnOperationsOnInsert", fn := fun _ => fun
  | [d1, d2, d3, d4, d5] => { results := [.lit (.bool true)], args := [d1, d2, d3, d4, d5] }
  | _ => none }
def fnOperationsOnInsertRow : OpenClaim := { program := "qxb6609110amods", sum := "e6732b7cfb6adc4c9661c26191c4afde19d1ff9dc12d88a273545d094095f59e", func := "example.com/privilege/privilege/zzlaws_root_b1.FnOperationsOnInsert", spec := "fnOperationsOnInsert", make := .lifted ["publicsums"], apart := false }
def FnOperationsOnInsertSaid : Prop := fnOperationsOnInsertRow.holds Trym.pinned (OpenSpec.ofChange fnOperationsOnInsertSpec)

/-- ITS FALSE NEIGHBOUR: 'it returns false'. Refute it at one input. -/
def fnOperationsOnInsertWrong : ChangeSpec := { name := "fnOperationsOnInsert", fn := fun _ => fun
  | [d1, d2, d3, d4, d5] => { results := [.lit (.bool false)], args := [d1, d2, d3, d4, d5] }
  | _ => none }
def FnOperationsOnInsertWrongFalsely : Prop := fnOperationsOnInsertRow.holds Trym.pinned (OpenSpec.ofChange fnOperationsOnInsertWrong)

/-- 'zzlaws_root_b1.FnAddingGrowsWithGroup': WHATEVER THE INPUT: true; the input reads as it did. -/
def fnAddingGrowsWithGroupSpec : ChangeSpec := { name := "fnAddingGrowsWithGroup", fn := fun _ => fun
  | [d1, d2, d3, d4] => { results := [.lit (.bool true)], args := [d1, d2, d3, d4] }
  | _ => none }
def fnAddingGrowsWithGroupRow : OpenClaim := { program := "qxb6609110amods", sum := "e6732b7cfb6adc4c9661c26191c4afde19d1ff9dc12d88a273545d094095f59e", func := "example.com/privilege/privilege/zzlaws_root_b1.FnAddingGrowsWithGroup", spec := "fnAddingGrowsWithGroup", make := .lifted ["publicsums"], apart := false }
def FnAddingGrowsWithGroupSaid : Prop := fnAddingGrowsWithGroupRow.holds Trym.pinned (OpenSpec.ofChange fnAddingGrowsWithGroupSpec)

/-- ITS FALSE NEIGHBOUR: 'it returns false'. Refute it at one input. -/
def fnAddingGrowsWithGroupWrong : ChangeSpec := { name := "fnAddingGrowsWithGroup", fn := fun _ => fun
  | [d1, d2, d3, d4] => { results := [.lit (.bool false)], args := [d1, d2, d3, d4] }
  | _ => none }
def FnAddingGrowsWithGroupWrongFalsely : Prop := fnAddingGrowsWithGroupRow.holds Trym.pinned (OpenSpec.ofChange fnAddingGrowsWithGroupWrong)

end Rows
end Go.Proofs.Qxb6609110aMods
