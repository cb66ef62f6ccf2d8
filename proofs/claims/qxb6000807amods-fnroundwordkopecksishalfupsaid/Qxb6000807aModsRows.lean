/-
  No cell of these rows narrows 'for every input' (looked for: loops, veiled, ifaces, maps, wideKeys, modest, calm, conditions, laid).
  DERIVED. THE GIVEN ROWS OF THIS SEAT. 5 by the template 'for every input the law returns true; each argument reads behind the call as it read before'; 0 by the template 'total and deterministic' (their statements: Qxb6000807aModsTotals.lean).
  GIVEN WITH THE SEED: the statements are not yours to turn. If you find one false, say at which input.
  Laid BY PROGRAM, IN A SANDBOX (cutbox-rows.mjs): the forced cells as the released guide's own fill.sh prints them over the translation 73f243f80959c628… (all of the seat's roots in one cut). By AI agents, Wed Nov 11 2026. No macro, syntax, notation, axiom, sorry.
-/
import Derived.Test.Qxb6000807aModsChecked
import GoSem.Claim
import GoSem.ClaimJoined
import GoSem.ClaimMapViews
import Derived.JoinedTies
import Derived.KernelRfl
namespace Go.Proofs.Qxb6000807aMods
/- THE CELL 'sum', in the pinned program and in every row, IS THE sha256 OF THE DUMP (.gsa) THAT Qxb6000807aModsProg.lean LOADS. Nothing in Lean hashes anything: it is a label: what it is worth is what the hold of that sum in a sandbox is worth. -/
noncomputable def Trym.pinned : Pinned := { name := "qxb6000807amods", sum := "73f243f80959c6281bf297b825eb03f7b62e040ef25de7b5e3309fd70b3c1b0b", checked := Trym.checked }
namespace Rows
def none {H : Type} : Left H := { results := [], args := [] }

/-- 'zzlaws_root_b1.FnRoundWordKopecksIsHalfUp': WHATEVER THE INPUT: true; the input reads as it did. -/
def fnRoundWordKopecksIsHalfUpSpec : ChangeSpec := { name := "fnRoundWordKopecksIsHalfUp", fn := fun _ => fun
  | [d1, d2] => { results := [.lit (.bool true)], args := [d1, d2] }
  | _ => none }
def fnRoundWordKopecksIsHalfUpRow : OpenClaim := { program := "qxb6000807amods", sum := "73f243f80959c6281bf297b825eb03f7b62e040ef25de7b5e3309fd70b3c1b0b", func := "example.com/kupon/kupon/zzlaws_root_b1.FnRoundWordKopecksIsHalfUp", spec := "fnRoundWordKopecksIsHalfUp", make := .lifted ["publicsums"], apart := false }
def FnRoundWordKopecksIsHalfUpSaid : Prop := fnRoundWordKopecksIsHalfUpRow.holds Trym.pinned (OpenSpec.ofChange fnRoundWordKopecksIsHalfUpSpec)

/-- ITS FALSE NEIGHBOUR: 'it returns false'. Refute it at one input. -/
def fnRoundWordKopecksIsHalfUpWrong : ChangeSpec := { name := "fnRoundWordKopecksIsHalfUp", fn := fun _ => fun
  | [d1, d2] => { results := [.lit (.bool false)], args := [d1, d2] }
  | _ => none }
def FnRoundWordKopecksIsHalfUpWrongFalsely : Prop := fnRoundWordKopecksIsHalfUpRow.holds Trym.pinned (OpenSpec.ofChange fnRoundWordKopecksIsHalfUpWrong)

/-- 'zzlaws_root_b1.FnRoundWordKopecksScaleFree': WHATEVER THE INPUT: true; the input reads as it did. -/
def fnRoundWordKopecksScaleFreeSpec : ChangeSpec := { name := "fnRoundWordKopecksScaleFree", fn := fun _ => fun
  | [d1, d2, d3] => { results := [.lit (.bool true)], args := [d1, d2, d3] }
  | _ => none }
def fnRoundWordKopecksScaleFreeRow : OpenClaim := { program := "qxb6000807amods", sum := "73f243f80959c6281bf297b825eb03f7b62e040ef25de7b5e3309fd70b3c1b0b", func := "example.com/kupon/kupon/zzlaws_root_b1.FnRoundWordKopecksScaleFree", spec := "fnRoundWordKopecksScaleFree", make := .lifted ["publicsums"], apart := false }
def FnRoundWordKopecksScaleFreeSaid : Prop := fnRoundWordKopecksScaleFreeRow.holds Trym.pinned (OpenSpec.ofChange fnRoundWordKopecksScaleFreeSpec)

/-- ITS FALSE NEIGHBOUR: 'it returns false'. Refute it at one input. -/
def fnRoundWordKopecksScaleFreeWrong : ChangeSpec := { name := "fnRoundWordKopecksScaleFree", fn := fun _ => fun
  | [d1, d2, d3] => { results := [.lit (.bool false)], args := [d1, d2, d3] }
  | _ => none }
def FnRoundWordKopecksScaleFreeWrongFalsely : Prop := fnRoundWordKopecksScaleFreeRow.holds Trym.pinned (OpenSpec.ofChange fnRoundWordKopecksScaleFreeWrong)

/-- 'zzlaws_root_b1.FnRoundWordKopecksMonotone': WHATEVER THE INPUT: true; the input reads as it did. -/
def fnRoundWordKopecksMonotoneSpec : ChangeSpec := { name := "fnRoundWordKopecksMonotone", fn := fun _ => fun
  | [d1, d2, d3, d4] => { results := [.lit (.bool true)], args := [d1, d2, d3, d4] }
  | _ => none }
def fnRoundWordKopecksMonotoneRow : OpenClaim := { program := "qxb6000807amods", sum := "73f243f80959c6281bf297b825eb03f7b62e040ef25de7b5e3309fd70b3c1b0b", func := "example.com/kupon/kupon/zzlaws_root_b1.FnRoundWordKopecksMonotone", spec := "fnRoundWordKopecksMonotone", make := .lifted ["publicsums"], apart := false }
def FnRoundWordKopecksMonotoneSaid : Prop := fnRoundWordKopecksMonotoneRow.holds Trym.pinned (OpenSpec.ofChange fnRoundWordKopecksMonotoneSpec)

/-- ITS FALSE NEIGHBOUR: 'it returns false'. Refute it at one input. -/
def fnRoundWordKopecksMonotoneWrong : ChangeSpec := { name := "fnRoundWordKopecksMonotone", fn := fun _ => fun
  | [d1, d2, d3, d4] => { results := [.lit (.bool false)], args := [d1, d2, d3, d4] }
  | _ => none }
def FnRoundWordKopecksMonotoneWrongFalsely : Prop := fnRoundWordKopecksMonotoneRow.holds Trym.pinned (OpenSpec.ofChange fnRoundWordKopecksMonotoneWrong)

/-- 'zzlaws_root_b1.FnStringEndBoundsAndStop': WHATEVER THE INPUT: true; the input reads as it did. -/
def fnStringEndBoundsAndStopSpec : ChangeSpec := { name := "fnStringEndBoundsAndStop", fn := fun _ => fun
  | [d1, d2, d3] => { results := [.lit (.bool true)], args := [d1, d2, d3] }
  | _ => none }
def fnStringEndBoundsAndStopRow : OpenClaim := { program := "qxb6000807amods", sum := "73f243f80959c6281bf297b825eb03f7b62e040ef25de7b5e3309fd70b3c1b0b", func := "example.com/kupon/kupon/zzlaws_root_b1.FnStringEndBoundsAndStop", spec := "fnStringEndBoundsAndStop", make := .lifted ["publicsums"], apart := false }
def FnStringEndBoundsAndStopSaid : Prop := fnStringEndBoundsAndStopRow.holds Trym.pinned (OpenSpec.ofChange fnStringEndBoundsAndStopSpec)

/-- ITS FALSE NEIGHBOUR: 'it returns false'. Refute it at one input. -/
def fnStringEndBoundsAndStopWrong : ChangeSpec := { name := "fnStringEndBoundsAndStop", fn := fun _ => fun
  | [d1, d2, d3] => { results := [.lit (.bool false)], args := [d1, d2, d3] }
  | _ => none }
def FnStringEndBoundsAndStopWrongFalsely : Prop := fnStringEndBoundsAndStopRow.holds Trym.pinned (OpenSpec.ofChange fnStringEndBoundsAndStopWrong)

/-- 'zzlaws_root_b1.FnStringEndDependsOnlyOnWhatItRead': WHATEVER THE INPUT: true; the input reads as it did. -/
def fnStringEndDependsOnlyOnWhatItReadSpec : ChangeSpec := { name := "fnStringEndDependsOnlyOnWhatItRead", fn := fun _ => fun
  | [d1, d2, d3, d4] => { results := [.lit (.bool true)], args := [d1, d2, d3, d4] }
  | _ => none }
def fnStringEndDependsOnlyOnWhatItReadRow : OpenClaim := { program := "qxb6000807amods", sum := "73f243f80959c6281bf297b825eb03f7b62e040ef25de7b5e3309fd70b3c1b0b", func := "example.com/kupon/kupon/zzlaws_root_b1.FnStringEndDependsOnlyOnWhatItRead", spec := "fnStringEndDependsOnlyOnWhatItRead", make := .lifted ["publicsums"], apart := false }
def FnStringEndDependsOnlyOnWhatItReadSaid : Prop := fnStringEndDependsOnlyOnWhatItReadRow.holds Trym.pinned (OpenSpec.ofChange fnStringEndDependsOnlyOnWhatItReadSpec)

/-- ITS FALSE NEIGHBOUR: 'it returns false'. Refute it at one input. -/
def fnStringEndDependsOnlyOnWhatItReadWrong : ChangeSpec := { name := "fnStringEndDependsOnlyOnWhatItRead", fn := fun _ => fun
  | [d1, d2, d3, d4] => { results := [.lit (.bool false)], args := [d1, d2, d3, d4] }
  | _ => none }
def FnStringEndDependsOnlyOnWhatItReadWrongFalsely : Prop := fnStringEndDependsOnlyOnWhatItReadRow.holds Trym.pinned (OpenSpec.ofChange fnStringEndDependsOnlyOnWhatItReadWrong)

end Rows
end Go.Proofs.Qxb6000807aMods
