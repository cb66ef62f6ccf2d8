/-
  No cell of these rows narrows 'for every input' (looked for: loops, veiled, ifaces, maps, wideKeys, modest, calm, conditions, laid).
  DERIVED. THE GIVEN ROWS OF THIS SEAT. 3 by the template 'for every input the law returns true; each argument reads behind the call as it read before'; 0 by the template 'total and deterministic' (their statements: Qxb6001139aModsTotals.lean).
  GIVEN WITH THE SEED: the statements are not yours to turn. If you find one false, say at which input.
  Laid BY PROGRAM, IN A SANDBOX (cutbox-rows.mjs): the forced cells as the released guide's own fill.sh prints them over the translation abfdc3dade1a3de4… (all of the seat's roots in one cut). By AI agents, Wed Nov 11 2026. No macro, syntax, notation, axiom, sorry.
-/
import Derived.Test.Qxb6001139aModsChecked
import GoSem.Claim
import GoSem.ClaimJoined
import GoSem.ClaimMapViews
import Derived.JoinedTies
import Derived.KernelRfl
namespace Go.Proofs.Qxb6001139aMods
/- THE CELL 'sum', in the pinned program and in every row, IS THE sha256 OF THE DUMP (.gsa) THAT Qxb6001139aModsProg.lean LOADS. Nothing in Lean hashes anything: it is a label: what it is worth is what the hold of that sum in a sandbox is worth. -/
noncomputable def Trym.pinned : Pinned := { name := "qxb6001139amods", sum := "abfdc3dade1a3de4816879aa5347b2416d72376df8da1b61dfcb820b412099b6", checked := Trym.checked }
namespace Rows
def none {H : Type} : Left H := { results := [], args := [] }

/-- 'zzlaws_root_b1.FnIsNameAppendOneByte': WHATEVER THE INPUT: true; the input reads as it did. -/
def fnIsNameAppendOneByteSpec : ChangeSpec := { name := "fnIsNameAppendOneByte", fn := fun _ => fun
  | [d1, d2] => { results := [.lit (.bool true)], args := [d1, d2] }
  | _ => none }
def fnIsNameAppendOneByteRow : OpenClaim := { program := "qxb6001139amods", sum := "abfdc3dade1a3de4816879aa5347b2416d72376df8da1b61dfcb820b412099b6", func := "example.com/strict-batch/strict-batch/zzlaws_root_b1.FnIsNameAppendOneByte", spec := "fnIsNameAppendOneByte", make := .lifted ["publicsums"], apart := false }
def FnIsNameAppendOneByteSaid : Prop := fnIsNameAppendOneByteRow.holds Trym.pinned (OpenSpec.ofChange fnIsNameAppendOneByteSpec)

/-- ITS FALSE NEIGHBOUR: 'it returns false'. Refute it at one input. -/
def fnIsNameAppendOneByteWrong : ChangeSpec := { name := "fnIsNameAppendOneByte", fn := fun _ => fun
  | [d1, d2] => { results := [.lit (.bool false)], args := [d1, d2] }
  | _ => none }
def FnIsNameAppendOneByteWrongFalsely : Prop := fnIsNameAppendOneByteRow.holds Trym.pinned (OpenSpec.ofChange fnIsNameAppendOneByteWrong)

/-- 'zzlaws_root_b1.FnIsNameConcatSplits': WHATEVER THE INPUT: true; the input reads as it did. -/
def fnIsNameConcatSplitsSpec : ChangeSpec := { name := "fnIsNameConcatSplits", fn := fun _ => fun
  | [d1, d2] => { results := [.lit (.bool true)], args := [d1, d2] }
  | _ => none }
def fnIsNameConcatSplitsRow : OpenClaim := { program := "qxb6001139amods", sum := "abfdc3dade1a3de4816879aa5347b2416d72376df8da1b61dfcb820b412099b6", func := "example.com/strict-batch/strict-batch/zzlaws_root_b1.FnIsNameConcatSplits", spec := "fnIsNameConcatSplits", make := .lifted ["publicsums"], apart := false }
def FnIsNameConcatSplitsSaid : Prop := fnIsNameConcatSplitsRow.holds Trym.pinned (OpenSpec.ofChange fnIsNameConcatSplitsSpec)

/-- ITS FALSE NEIGHBOUR: 'it returns false'. Refute it at one input. -/
def fnIsNameConcatSplitsWrong : ChangeSpec := { name := "fnIsNameConcatSplits", fn := fun _ => fun
  | [d1, d2] => { results := [.lit (.bool false)], args := [d1, d2] }
  | _ => none }
def FnIsNameConcatSplitsWrongFalsely : Prop := fnIsNameConcatSplitsRow.holds Trym.pinned (OpenSpec.ofChange fnIsNameConcatSplitsWrong)

/-- 'zzlaws_root_b1.FnIsNamePrefixIsName': WHATEVER THE INPUT: true; the input reads as it did. -/
def fnIsNamePrefixIsNameSpec : ChangeSpec := { name := "fnIsNamePrefixIsName", fn := fun _ => fun
  | [d1, d2] => { results := [.lit (.bool true)], args := [d1, d2] }
  | _ => none }
def fnIsNamePrefixIsNameRow : OpenClaim := { program := "qxb6001139amods", sum := "abfdc3dade1a3de4816879aa5347b2416d72376df8da1b61dfcb820b412099b6", func := "example.com/strict-batch/strict-batch/zzlaws_root_b1.FnIsNamePrefixIsName", spec := "fnIsNamePrefixIsName", make := .lifted ["publicsums"], apart := false }
def FnIsNamePrefixIsNameSaid : Prop := fnIsNamePrefixIsNameRow.holds Trym.pinned (OpenSpec.ofChange fnIsNamePrefixIsNameSpec)

/-- ITS FALSE NEIGHBOUR: 'it returns false'. Refute it at one input. -/
def fnIsNamePrefixIsNameWrong : ChangeSpec := { name := "fnIsNamePrefixIsName", fn := fun _ => fun
  | [d1, d2] => { results := [.lit (.bool false)], args := [d1, d2] }
  | _ => none }
def FnIsNamePrefixIsNameWrongFalsely : Prop := fnIsNamePrefixIsNameRow.holds Trym.pinned (OpenSpec.ofChange fnIsNamePrefixIsNameWrong)

end Rows
end Go.Proofs.Qxb6001139aMods
