/-
  No cell of these rows narrows 'for every input' (looked for: loops, veiled, ifaces, maps, wideKeys, modest, calm, conditions, laid).
  DERIVED. THE GIVEN ROWS OF THIS SEAT. 4 by the template 'for every input the law returns true; each argument reads behind the call as it read before'; 0 by the template 'total and deterministic' (their statements: Qxb6600203aModsTotals.lean).
  GIVEN WITH THE SEED: the statements are not yours to turn. If you find one false, say at which input.
  Laid BY PROGRAM, IN A SANDBOX (cutbox-rows.mjs): the forced cells as the released guide's own fill.sh prints them over the translation 6f3dd4beb3ad00a8… (all of the seat's roots in one cut). By AI agents, Wed Nov 11 2026. No macro, syntax, notation, axiom, sorry.
-/
import Derived.Test.Qxb6600203aModsChecked
import GoSem.Claim
import GoSem.ClaimJoined
import GoSem.ClaimMapViews
import Derived.JoinedTies
import Derived.KernelRfl
namespace Go.Proofs.Qxb6600203aMods
/- THE CELL 'sum', in the pinned program and in every row, IS THE sha256 OF THE DUMP (.gsa) THAT Qxb6600203aModsProg.lean LOADS. Nothing in Lean hashes anything: it is a label: what it is worth is what the hold of that sum in a sandbox is worth. -/
noncomputable def Trym.pinned : Pinned := { name := "qxb6600203amods", sum := "6f3dd4beb3ad00a8a631bc61ec38005dbcd63622f74bdb658b135ffca2bcb8dd", checked := Trym.checked }
namespace Rows
def none {H : Type} : Left H := { results := [], args := [] }

/-- 'zzlaws_root_b1.FnMissedLogBoundSignClasses': WHATEVER THE INPUT: true; the input reads as it did. -/
def fnMissedLogBoundSignClassesSpec : ChangeSpec := { name := "fnMissedLogBoundSignClasses", fn := fun _ => fun
  | [d] => { results := [.lit (.bool true)], args := [d] }
  | _ => none }
def fnMissedLogBoundSignClassesRow : OpenClaim := { program := "qxb6600203amods", sum := "6f3dd4beb3ad00a8a631bc61ec38005dbcd63622f74bdb658b135ffca2bcb8dd", func := "example.com/anamnesis/anamnesis/zzlaws_root_b1.FnMissedLogBoundSignClasses", spec := "fnMissedLogBoundSignClasses", make := .lifted ["publicsums"], apart := false }
def FnMissedLogBoundSignClassesSaid : Prop := fnMissedLogBoundSignClassesRow.holds Trym.pinned (OpenSpec.ofChange fnMissedLogBoundSignClassesSpec)

/-- ITS FALSE NEIGHBOUR: 'it returns false'. Refute it at one input. -/
def fnMissedLogBoundSignClassesWrong : ChangeSpec := { name := "fnMissedLogBoundSignClasses", fn := fun _ => fun
  | [d] => { results := [.lit (.bool false)], args := [d] }
  | _ => none }
def FnMissedLogBoundSignClassesWrongFalsely : Prop := fnMissedLogBoundSignClassesRow.holds Trym.pinned (OpenSpec.ofChange fnMissedLogBoundSignClassesWrong)

/-- 'zzlaws_root_b1.FnMissedLogBoundMonotone': WHATEVER THE INPUT: true; the input reads as it did. -/
def fnMissedLogBoundMonotoneSpec : ChangeSpec := { name := "fnMissedLogBoundMonotone", fn := fun _ => fun
  | [d1, d2] => { results := [.lit (.bool true)], args := [d1, d2] }
  | _ => none }
def fnMissedLogBoundMonotoneRow : OpenClaim := { program := "qxb6600203amods", sum := "6f3dd4beb3ad00a8a631bc61ec38005dbcd63622f74bdb658b135ffca2bcb8dd", func := "example.com/anamnesis/anamnesis/zzlaws_root_b1.FnMissedLogBoundMonotone", spec := "fnMissedLogBoundMonotone", make := .lifted ["publicsums"], apart := false }
def FnMissedLogBoundMonotoneSaid : Prop := fnMissedLogBoundMonotoneRow.holds Trym.pinned (OpenSpec.ofChange fnMissedLogBoundMonotoneSpec)

/-- ITS FALSE NEIGHBOUR: 'it returns false'. Refute it at one input. -/
def fnMissedLogBoundMonotoneWrong : ChangeSpec := { name := "fnMissedLogBoundMonotone", fn := fun _ => fun
  | [d1, d2] => { results := [.lit (.bool false)], args := [d1, d2] }
  | _ => none }
def FnMissedLogBoundMonotoneWrongFalsely : Prop := fnMissedLogBoundMonotoneRow.holds Trym.pinned (OpenSpec.ofChange fnMissedLogBoundMonotoneWrong)

/-- 'zzlaws_root_b1.FnNotServingAppliedMonotone': WHATEVER THE INPUT: true; the input reads as it did. -/
def fnNotServingAppliedMonotoneSpec : ChangeSpec := { name := "fnNotServingAppliedMonotone", fn := fun _ => fun
  | [d1, d2, d3, d4, d5, d6] => { results := [.lit (.bool true)], args := [d1, d2, d3, d4, d5, d6] }
  | _ => none }
def fnNotServingAppliedMonotoneRow : OpenClaim := { program := "qxb6600203amods", sum := "6f3dd4beb3ad00a8a631bc61ec38005dbcd63622f74bdb658b135ffca2bcb8dd", func := "example.com/anamnesis/anamnesis/zzlaws_root_b1.FnNotServingAppliedMonotone", spec := "fnNotServingAppliedMonotone", make := .lifted ["publicsums"], apart := false }
def FnNotServingAppliedMonotoneSaid : Prop := fnNotServingAppliedMonotoneRow.holds Trym.pinned (OpenSpec.ofChange fnNotServingAppliedMonotoneSpec)

/-- ITS FALSE NEIGHBOUR: 'it returns false'. Refute it at one input. -/
def fnNotServingAppliedMonotoneWrong : ChangeSpec := { name := "fnNotServingAppliedMonotone", fn := fun _ => fun
  | [d1, d2, d3, d4, d5, d6] => { results := [.lit (.bool false)], args := [d1, d2, d3, d4, d5, d6] }
  | _ => none }
def FnNotServingAppliedMonotoneWrongFalsely : Prop := fnNotServingAppliedMonotoneRow.holds Trym.pinned (OpenSpec.ofChange fnNotServingAppliedMonotoneWrong)

/-- 'zzlaws_root_b1.FnNotServingLastEpochOnly': WHATEVER THE INPUT: true; the input reads as it did. -/
def fnNotServingLastEpochOnlySpec : ChangeSpec := { name := "fnNotServingLastEpochOnly", fn := fun _ => fun
  | [d1, d2, d3, d4, d5] => { results := [.lit (.bool true)], args := [d1, d2, d3, d4, d5] }
  | _ => none }
def fnNotServingLastEpochOnlyRow : OpenClaim := { program := "qxb6600203amods", sum := "6f3dd4beb3ad00a8a631bc61ec38005dbcd63622f74bdb658b135ffca2bcb8dd", func := "example.com/anamnesis/anamnesis/zzlaws_root_b1.FnNotServingLastEpochOnly", spec := "fnNotServingLastEpochOnly", make := .lifted ["publicsums"], apart := false }
def FnNotServingLastEpochOnlySaid : Prop := fnNotServingLastEpochOnlyRow.holds Trym.pinned (OpenSpec.ofChange fnNotServingLastEpochOnlySpec)

/-- ITS FALSE NEIGHBOUR: 'it returns false'. Refute it at one input. -/
def fnNotServingLastEpochOnlyWrong : ChangeSpec := { name := "fnNotServingLastEpochOnly", fn := fun _ => fun
  | [d1, d2, d3, d4, d5] => { results := [.lit (.bool false)], args := [d1, d2, d3, d4, d5] }
  | _ => none }
def FnNotServingLastEpochOnlyWrongFalsely : Prop := fnNotServingLastEpochOnlyRow.holds Trym.pinned (OpenSpec.ofChange fnNotServingLastEpochOnlyWrong)

end Rows
end Go.Proofs.Qxb6600203aMods
