/-
  No cell of these rows narrows 'for every input' (looked for: loops, veiled, ifaces, maps, wideKeys, modest, calm, conditions, laid).
  DERIVED. THE GIVEN ROWS OF THIS SEAT. 3 by the template 'for every input the law returns true; each argument reads behind the call as it read before'; 0 by the template 'total and deterministic' (their statements: Qxb6001606aModsTotals.lean).
  GIVEN WITH THE SEED: the statements are not yours to turn. If you find one false, say at which input.
  Laid BY PROGRAM, IN A SANDBOX (cutbox-rows.mjs): the forced cells as the released guide's own fill.sh prints them over the translation cc2b9ade8bc7061b… (all of the seat's roots in one cut). By AI agents, Wed Nov 11 2026. No macro, syntax, notation, axiom, sorry.
-/
import Derived.Test.Qxb6001606aModsChecked
import GoSem.Claim
import GoSem.ClaimJoined
import GoSem.ClaimMapViews
import Derived.JoinedTies
import Derived.KernelRfl
namespace Go.Proofs.Qxb6001606aMods
/- THE CELL 'sum', in the pinned program and in every row, IS THE sha256 OF THE DUMP (.gsa) THAT Qxb6001606aModsProg.lean LOADS. Nothing in Lean hashes anything: it is a label: what it is worth is what the hold of that sum in a sandbox is worth. -/
noncomputable def Trym.pinned : Pinned := { name := "qxb6001606amods", sum := "cc2b9ade8bc7061b123b01fab382e2c2ee3c039b4cf599f1e44996e9b043b237", checked := Trym.checked }
namespace Rows
def none {H : Type} : Left H := { results := [], args := [] }

/-- 'zzlaws_sessionlog_b1.FnNumberAcceptedSpanIsRereadWhole': WHATEVER THE INPUT: true; the input reads as it did. -/
def fnNumberAcceptedSpanIsRereadWholeSpec : ChangeSpec := { name := "fnNumberAcceptedSpanIsRereadWhole", fn := fun _ => fun
  | [d1, d2] => { results := [.lit (.bool true)], args := [d1, d2] }
  | _ => none }
def fnNumberAcceptedSpanIsRereadWholeRow : OpenClaim := { program := "qxb6001606amods", sum := "cc2b9ade8bc7061b123b01fab382e2c2ee3c039b4cf599f1e44996e9b043b237", func := "example.com/hearthworks/hearthworks/zzlaws_sessionlog_b1.FnNumberAcceptedSpanIsRereadWhole", spec := "fnNumberAcceptedSpanIsRereadWhole", make := .lifted ["publicsums"], apart := false }
def FnNumberAcceptedSpanIsRereadWholeSaid : Prop := fnNumberAcceptedSpanIsRereadWholeRow.holds Trym.pinned (OpenSpec.ofChange fnNumberAcceptedSpanIsRereadWholeSpec)

/-- ITS FALSE NEIGHBOUR: 'it returns false'. Refute it at one input. -/
def fnNumberAcceptedSpanIsRereadWholeWrong : ChangeSpec := { name := "fnNumberAcceptedSpanIsRereadWhole", fn := fun _ => fun
  | [d1, d2] => { results := [.lit (.bool false)], args := [d1, d2] }
  | _ => none }
def FnNumberAcceptedSpanIsRereadWholeWrongFalsely : Prop := fnNumberAcceptedSpanIsRereadWholeRow.holds Trym.pinned (OpenSpec.ofChange fnNumberAcceptedSpanIsRereadWholeWrong)

/-- 'zzlaws_sessionlog_b1.FnNumberDependsOnlyOnItsOwnBytes': WHATEVER THE INPUT: true; the input reads as it did. -/
def fnNumberDependsOnlyOnItsOwnBytesSpec : ChangeSpec := { name := "fnNumberDependsOnlyOnItsOwnBytes", fn := fun _ => fun
  | [d1, d2, d3] => { results := [.lit (.bool true)], args := [d1, d2, d3] }
  | _ => none }
def fnNumberDependsOnlyOnItsOwnBytesRow : OpenClaim := { program := "qxb6001606amods", sum := "cc2b9ade8bc7061b123b01fab382e2c2ee3c039b4cf599f1e44996e9b043b237", func := "example.com/hearthworks/hearthworks/zzlaws_sessionlog_b1.FnNumberDependsOnlyOnItsOwnBytes", spec := "fnNumberDependsOnlyOnItsOwnBytes", make := .lifted ["publicsums"], apart := false }
def FnNumberDependsOnlyOnItsOwnBytesSaid : Prop := fnNumberDependsOnlyOnItsOwnBytesRow.holds Trym.pinned (OpenSpec.ofChange fnNumberDependsOnlyOnItsOwnBytesSpec)

/-- ITS FALSE NEIGHBOUR: 'it returns false'. Refute it at one input. -/
def fnNumberDependsOnlyOnItsOwnBytesWrong : ChangeSpec := { name := "fnNumberDependsOnlyOnItsOwnBytes", fn := fun _ => fun
  | [d1, d2, d3] => { results := [.lit (.bool false)], args := [d1, d2, d3] }
  | _ => none }
def FnNumberDependsOnlyOnItsOwnBytesWrongFalsely : Prop := fnNumberDependsOnlyOnItsOwnBytesRow.holds Trym.pinned (OpenSpec.ofChange fnNumberDependsOnlyOnItsOwnBytesWrong)

/-- 'zzlaws_sessionlog_b1.FnWholeAgreesWithNumber': WHATEVER THE INPUT: true; the input reads as it did. -/
def fnWholeAgreesWithNumberSpec : ChangeSpec := { name := "fnWholeAgreesWithNumber", fn := fun _ => fun
  | [d1, d2, d3, d4] => { results := [.lit (.bool true)], args := [d1, d2, d3, d4] }
  | _ => none }
def fnWholeAgreesWithNumberRow : OpenClaim := { program := "qxb6001606amods", sum := "cc2b9ade8bc7061b123b01fab382e2c2ee3c039b4cf599f1e44996e9b043b237", func := "example.com/hearthworks/hearthworks/zzlaws_sessionlog_b1.FnWholeAgreesWithNumber", spec := "fnWholeAgreesWithNumber", make := .lifted ["publicsums"], apart := false }
def FnWholeAgreesWithNumberSaid : Prop := fnWholeAgreesWithNumberRow.holds Trym.pinned (OpenSpec.ofChange fnWholeAgreesWithNumberSpec)

/-- ITS FALSE NEIGHBOUR: 'it returns false'. Refute it at one input. -/
def fnWholeAgreesWithNumberWrong : ChangeSpec := { name := "fnWholeAgreesWithNumber", fn := fun _ => fun
  | [d1, d2, d3, d4] => { results := [.lit (.bool false)], args := [d1, d2, d3, d4] }
  | _ => none }
def FnWholeAgreesWithNumberWrongFalsely : Prop := fnWholeAgreesWithNumberRow.holds Trym.pinned (OpenSpec.ofChange fnWholeAgreesWithNumberWrong)

end Rows
end Go.Proofs.Qxb6001606aMods
