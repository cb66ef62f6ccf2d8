/-
  No cell of these rows narrows 'for every input' (looked for: loops, veiled, ifaces, maps, wideKeys, modest, calm, conditions, laid).
  DERIVED. THE GIVEN ROWS OF THIS SEAT. 3 by the template 'for every input the law returns true; each argument reads behind the call as it read before'; 0 by the template 'total and deterministic' (their statements: Qxb6001609aModsTotals.lean).
  GIVEN WITH THE SEED: the statements are not yours to turn. If you find one false, say at which input.
  Laid BY PROGRAM, IN A SANDBOX (cutbox-rows.mjs): the forced cells as the released guide's own fill.sh prints them over the translation 731be48a36023835… (all of the seat's roots in one cut). By AI agents, Wed Nov 11 2026. No macro, syntax, notation, axiom, sorry.
-/
import Derived.Test.Qxb6001609aModsChecked
import GoSem.Claim
import GoSem.ClaimJoined
import GoSem.ClaimMapViews
import Derived.JoinedTies
import Derived.KernelRfl
namespace Go.Proofs.Qxb6001609aMods
/- THE CELL 'sum', in the pinned program and in every row, IS THE sha256 OF THE DUMP (.gsa) THAT Qxb6001609aModsProg.lean LOADS. Nothing in Lean hashes anything: it is a label: what it is worth is what the hold of that sum in a sandbox is worth. -/
noncomputable def Trym.pinned : Pinned := { name := "qxb6001609amods", sum := "731be48a36023835c1a37a650b4b46191f6f54057d3dab056ffde87330abf0a6", checked := Trym.checked }
namespace Rows
def none {H : Type} : Left H := { results := [], args := [] }

/-- 'zzlaws_statement_b1.FnCutTagInvertsJoin': WHATEVER THE INPUT: true; the input reads as it did. -/
def fnCutTagInvertsJoinSpec : ChangeSpec := { name := "fnCutTagInvertsJoin", fn := fun _ => fun
  | [d1, d2] => { results := [.lit (.bool true)], args := [d1, d2] }
  | _ => none }
def fnCutTagInvertsJoinRow : OpenClaim := { program := "qxb6001609amods", sum := "731be48a36023835c1a37a650b4b46191f6f54057d3dab056ffde87330abf0a6", func := "example.com/offenbuch/offenbuch/zzlaws_statement_b1.FnCutTagInvertsJoin", spec := "fnCutTagInvertsJoin", make := .lifted ["publicsums"], apart := false }
def FnCutTagInvertsJoinSaid : Prop := fnCutTagInvertsJoinRow.holds Trym.pinned (OpenSpec.ofChange fnCutTagInvertsJoinSpec)

/-- ITS FALSE NEIGHBOUR: 'it returns false'. Refute it at one input. -/
def fnCutTagInvertsJoinWrong : ChangeSpec := { name := "fnCutTagInvertsJoin", fn := fun _ => fun
  | [d1, d2] => { results := [.lit (.bool false)], args := [d1, d2] }
  | _ => none }
def FnCutTagInvertsJoinWrongFalsely : Prop := fnCutTagInvertsJoinRow.holds Trym.pinned (OpenSpec.ofChange fnCutTagInvertsJoinWrong)

/-- 'zzlaws_statement_b1.FnCutTagAcceptedRebuildsLine': WHATEVER THE INPUT: true; the input reads as it did. -/
def fnCutTagAcceptedRebuildsLineSpec : ChangeSpec := { name := "fnCutTagAcceptedRebuildsLine", fn := fun _ => fun
  | [d] => { results := [.lit (.bool true)], args := [d] }
  | _ => none }
def fnCutTagAcceptedRebuildsLineRow : OpenClaim := { program := "qxb6001609amods", sum := "731be48a36023835c1a37a650b4b46191f6f54057d3dab056ffde87330abf0a6", func := "example.com/offenbuch/offenbuch/zzlaws_statement_b1.FnCutTagAcceptedRebuildsLine", spec := "fnCutTagAcceptedRebuildsLine", make := .lifted ["publicsums"], apart := false }
def FnCutTagAcceptedRebuildsLineSaid : Prop := fnCutTagAcceptedRebuildsLineRow.holds Trym.pinned (OpenSpec.ofChange fnCutTagAcceptedRebuildsLineSpec)

/-- ITS FALSE NEIGHBOUR: 'it returns false'. Refute it at one input. -/
def fnCutTagAcceptedRebuildsLineWrong : ChangeSpec := { name := "fnCutTagAcceptedRebuildsLine", fn := fun _ => fun
  | [d] => { results := [.lit (.bool false)], args := [d] }
  | _ => none }
def FnCutTagAcceptedRebuildsLineWrongFalsely : Prop := fnCutTagAcceptedRebuildsLineRow.holds Trym.pinned (OpenSpec.ofChange fnCutTagAcceptedRebuildsLineWrong)

/-- 'zzlaws_statement_b1.FnCutTagAcceptsExactly': WHATEVER THE INPUT: true; the input reads as it did. -/
def fnCutTagAcceptsExactlySpec : ChangeSpec := { name := "fnCutTagAcceptsExactly", fn := fun _ => fun
  | [d] => { results := [.lit (.bool true)], args := [d] }
  | _ => none }
def fnCutTagAcceptsExactlyRow : OpenClaim := { program := "qxb6001609amods", sum := "731be48a36023835c1a37a650b4b46191f6f54057d3dab056ffde87330abf0a6", func := "example.com/offenbuch/offenbuch/zzlaws_statement_b1.FnCutTagAcceptsExactly", spec := "fnCutTagAcceptsExactly", make := .lifted ["publicsums"], apart := false }
def FnCutTagAcceptsExactlySaid : Prop := fnCutTagAcceptsExactlyRow.holds Trym.pinned (OpenSpec.ofChange fnCutTagAcceptsExactlySpec)

/-- ITS FALSE NEIGHBOUR: 'it returns false'. Refute it at one input. -/
def fnCutTagAcceptsExactlyWrong : ChangeSpec := { name := "fnCutTagAcceptsExactly", fn := fun _ => fun
  | [d] => { results := [.lit (.bool false)], args := [d] }
  | _ => none }
def FnCutTagAcceptsExactlyWrongFalsely : Prop := fnCutTagAcceptsExactlyRow.holds Trym.pinned (OpenSpec.ofChange fnCutTagAcceptsExactlyWrong)

end Rows
end Go.Proofs.Qxb6001609aMods
