/-
  No cell of these rows narrows 'for every input' (looked for: loops, veiled, ifaces, maps, wideKeys, modest, calm, conditions, laid).
  DERIVED. THE GIVEN ROWS OF THIS SEAT. 2 by the template 'for every input the law returns true; each argument reads behind the call as it read before'; 0 by the template 'total and deterministic' (their statements: Qxb6609060aModsTotals.lean).
  GIVEN WITH THE SEED: the statements are not yours to turn. If you find one false, say at which input.
  Laid BY PROGRAM, IN A SANDBOX (cutbox-rows.mjs): the forced cells as the released guide's own fill.sh prints them over the translation 23a46a039d7ed46e… (all of the seat's roots in one cut). By AI agents, Wed Nov 11 2026. No macro, syntax, notation, axiom, sorry.
-/
import Derived.Test.Qxb6609060aModsChecked
import GoSem.Claim
import GoSem.ClaimJoined
import GoSem.ClaimMapViews
import Derived.JoinedTies
import Derived.KernelRfl
namespace Go.Proofs.Qxb6609060aMods
/- THE CELL 'sum', in the pinned program and in every row, IS THE sha256 OF THE DUMP (.gsa) THAT Qxb6609060aModsProg.lean LOADS. Nothing in Lean hashes anything: it is a label: what it is worth is what the hold of that sum in a sandbox is worth. -/
noncomputable def Trym.pinned : Pinned := { name := "qxb6609060amods", sum := "23a46a039d7ed46e712a36a15250a6eae56c24718f94722df87ee70e2ae00318", checked := Trym.checked }
namespace Rows
def none {H : Type} : Left H := { results := [], args := [] }

/-- 'zzlaws_policy_b1.FnEndsInSchemeCut': WHATEVER THE INPUT: true; the input reads as it did. -/
def fnEndsInSchemeCutSpec : ChangeSpec := { name := "fnEndsInSchemeCut", fn := fun _ => fun
  | [d1, d2] => { results := [.lit (.bool true)], args := [d1, d2] }
  | _ => none }
def fnEndsInSchemeCutRow : OpenClaim := { program := "qxb6609060amods", sum := "23a46a039d7ed46e712a36a15250a6eae56c24718f94722df87ee70e2ae00318", func := "example.com/cordon/cordon/zzlaws_policy_b1.FnEndsInSchemeCut", spec := "fnEndsInSchemeCut", make := .lifted ["publicsums"], apart := false }
def FnEndsInSchemeCutSaid : Prop := fnEndsInSchemeCutRow.holds Trym.pinned (OpenSpec.ofChange fnEndsInSchemeCutSpec)

/-- ITS FALSE NEIGHBOUR: 'it returns false'. Refute it at one input. -/
def fnEndsInSchemeCutWrong : ChangeSpec := { name := "fnEndsInSchemeCut", fn := fun _ => fun
  | [d1, d2] => { results := [.lit (.bool false)], args := [d1, d2] }
  | _ => none }
def FnEndsInSchemeCutWrongFalsely : Prop := fnEndsInSchemeCutRow.holds Trym.pinned (OpenSpec.ofChange fnEndsInSchemeCutWrong)

/-- 'zzlaws_policy_b1.FnEndsInSchemeInsert': WHATEVER THE INPUT: true; the input reads as it did. -/
def fnEndsInSchemeInsertSpec : ChangeSpec := { name := "fnEndsInSchemeInsert", fn := fun _ => fun
  | [d1, d2, d3] => { results := [.lit (.bool true)], args := [d1, d2, d3] }
  | _ => none }
def fnEndsInSchemeInsertRow : OpenClaim := { program := "qxb6609060amods", sum := "23a46a039d7ed46e712a36a15250a6eae56c24718f94722df87ee70e2ae00318", func := "example.com/cordon/cordon/zzlaws_policy_b1.FnEndsInSchemeInsert", spec := "fnEndsInSchemeInsert", make := .lifted ["publicsums"], apart := false }
def FnEndsInSchemeInsertSaid : Prop := fnEndsInSchemeInsertRow.holds Trym.pinned (OpenSpec.ofChange fnEndsInSchemeInsertSpec)

/-- ITS FALSE NEIGHBOUR: 'it returns false'. Refute it at one input. -/
def fnEndsInSchemeInsertWrong : ChangeSpec := { name := "fnEndsInSchemeInsert", fn := fun _ => fun
  | [d1, d2, d3] => { results := [.lit (.bool false)], args := [d1, d2, d3] }
  | _ => none }
def FnEndsInSchemeInsertWrongFalsely : Prop := fnEndsInSchemeInsertRow.holds Trym.pinned (OpenSpec.ofChange fnEndsInSchemeInsertWrong)

end Rows
end Go.Proofs.Qxb6609060aMods
