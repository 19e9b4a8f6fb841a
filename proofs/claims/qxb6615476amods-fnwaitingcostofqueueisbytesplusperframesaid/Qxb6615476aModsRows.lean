/-
  No cell of these rows narrows 'for every input' (looked for: loops, veiled, ifaces, maps, wideKeys, modest, calm, conditions, laid).
  DERIVED. THE GIVEN ROWS OF THIS SEAT. 2 by the template 'for every input the law returns true; each argument reads behind the call as it read before'; 0 by the template 'total and deterministic' (their statements: Qxb6615476aModsTotals.lean).
  GIVEN WITH THE SEED: the statements are not yours to turn. If you find one false, say at which input.
  Laid BY PROGRAM, IN A SANDBOX (cutbox-rows.mjs): the forced cells as the released guide's own fill.sh prints them over the translation 43e8198a2e520a26… (all of the seat's roots in one cut). By AI agents, Wed Nov 11 2026. No macro, syntax, notation, axiom, sorry.
-/
import Derived.Test.Qxb6615476aModsChecked
import GoSem.Claim
import GoSem.ClaimJoined
import GoSem.ClaimMapViews
import Derived.JoinedTies
import Derived.KernelRfl
namespace Go.Proofs.Qxb6615476aMods
/- THE CELL 'sum', in the pinned program and in every row, IS THE sha256 OF THE DUMP (.gsa) THAT Qxb6615476aModsProg.lean LOADS. Nothing in Lean hashes anything: it is a label: what it is worth is what the hold of that sum in a sandbox is worth. -/
noncomputable def Trym.pinned : Pinned := { name := "qxb6615476amods", sum := "43e8198a2e520a26ecddd9a14a707bb788b2a03da6051c11d50bf80c28da37a6", checked := Trym.checked }
namespace Rows
def none {H : Type} : Left H := { results := [], args := [] }

/-- 'zzlaws_root_b1.FnWaitingCostDiffersByBytesAlone': WHATEVER THE INPUT: true; the input reads as it did. -/
def fnWaitingCostDiffersByBytesAloneSpec : ChangeSpec := { name := "fnWaitingCostDiffersByBytesAlone", fn := fun _ => fun
  | [d1, d2, d3, d4, d5, d6, d7, d8, d9, d10, d11, d12] => { results := [.lit (.bool true)], args := [d1, d2, d3, d4, d5, d6, d7, d8, d9, d10, d11, d12] }
  | _ => none }
def fnWaitingCostDiffersByBytesAloneRow : OpenClaim := { program := "qxb6615476amods", sum := "43e8198a2e520a26ecddd9a14a707bb788b2a03da6051c11d50bf80c28da37a6", func := "example.com/framewire/framewire/zzlaws_root_b1.FnWaitingCostDiffersByBytesAlone", spec := "fnWaitingCostDiffersByBytesAlone", make := .lifted ["publicsums"], apart := false }
def FnWaitingCostDiffersByBytesAloneSaid : Prop := fnWaitingCostDiffersByBytesAloneRow.holds Trym.pinned (OpenSpec.ofChange fnWaitingCostDiffersByBytesAloneSpec)

/-- ITS FALSE NEIGHBOUR: 'it returns false'. Refute it at one input. -/
def fnWaitingCostDiffersByBytesAloneWrong : ChangeSpec := { name := "fnWaitingCostDiffersByBytesAlone", fn := fun _ => fun
  | [d1, d2, d3, d4, d5, d6, d7, d8, d9, d10, d11, d12] => { results := [.lit (.bool false)], args := [d1, d2, d3, d4, d5, d6, d7, d8, d9, d10, d11, d12] }
  | _ => none }
def FnWaitingCostDiffersByBytesAloneWrongFalsely : Prop := fnWaitingCostDiffersByBytesAloneRow.holds Trym.pinned (OpenSpec.ofChange fnWaitingCostDiffersByBytesAloneWrong)

/-- 'zzlaws_root_b1.FnWaitingCostOfQueueIsBytesPlusPerFrame': WHATEVER THE INPUT: true; the input reads as it did. -/
def fnWaitingCostOfQueueIsBytesPlusPerFrameSpec : ChangeSpec := { name := "fnWaitingCostOfQueueIsBytesPlusPerFrame", fn := fun _ => fun
  | [d] => { results := [.lit (.bool true)], args := [d] }
  | _ => none }
def fnWaitingCostOfQueueIsBytesPlusPerFrameRow : OpenClaim := { program := "qxb6615476amods", sum := "43e8198a2e520a26ecddd9a14a707bb788b2a03da6051c11d50bf80c28da37a6", func := "example.com/framewire/framewire/zzlaws_root_b1.FnWaitingCostOfQueueIsBytesPlusPerFrame", spec := "fnWaitingCostOfQueueIsBytesPlusPerFrame", make := .lifted ["publicsums"], apart := false }
def FnWaitingCostOfQueueIsBytesPlusPerFrameSaid : Prop := fnWaitingCostOfQueueIsBytesPlusPerFrameRow.holds Trym.pinned (OpenSpec.ofChange fnWaitingCostOfQueueIsBytesPlusPerFrameSpec)

/-- ITS FALSE NEIGHBOUR: 'it returns false'. Refute it at one input. -/
def fnWaitingCostOfQueueIsBytesPlusPerFrameWrong : ChangeSpec := { name := "fnWaitingCostOfQueueIsBytesPlusPerFrame", fn := fun _ => fun
  | [d] => { results := [.lit (.bool false)], args := [d] }
  | _ => none }
def FnWaitingCostOfQueueIsBytesPlusPerFrameWrongFalsely : Prop := fnWaitingCostOfQueueIsBytesPlusPerFrameRow.holds Trym.pinned (OpenSpec.ofChange fnWaitingCostOfQueueIsBytesPlusPerFrameWrong)

end Rows
end Go.Proofs.Qxb6615476aMods
