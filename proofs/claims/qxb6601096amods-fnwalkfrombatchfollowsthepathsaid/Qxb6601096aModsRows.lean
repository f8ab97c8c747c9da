/-
  No cell of these rows narrows 'for every input' (looked for: loops, veiled, ifaces, maps, wideKeys, modest, calm, conditions, laid).
  DERIVED. THE GIVEN ROWS OF THIS SEAT. 2 by the template 'for every input the law returns true; each argument reads behind the call as it read before'; 0 by the template 'total and deterministic' (their statements: Qxb6601096aModsTotals.lean).
  GIVEN WITH THE SEED: the statements are not yours to turn. If you find one false, say at which input.
  Laid BY PROGRAM, IN A SANDBOX (cutbox-rows.mjs): the forced cells as the released guide's own fill.sh prints them over the translation 22937c50dcf55bc4… (all of the seat's roots in one cut). By AI agents, Wed Nov 11 2026. No macro, syntax, notation, axiom, sorry.
-/
import Derived.Test.Qxb6601096aModsChecked
import GoSem.Claim
import GoSem.ClaimJoined
import GoSem.ClaimMapViews
import Derived.JoinedTies
import Derived.KernelRfl
namespace Go.Proofs.Qxb6601096aMods
/- THE CELL 'sum', in the pinned program and in every row, IS THE sha256 OF THE DUMP (.gsa) THAT Qxb6601096aModsProg.lean LOADS. Nothing in Lean hashes anything: it is a label: what it is worth is what the hold of that sum in a sandbox is worth. -/
noncomputable def Trym.pinned : Pinned := { name := "qxb6601096amods", sum := "22937c50dcf55bc4d598917a9cd7461027d468f18c7fa0fef7a93bd105094c2d", checked := Trym.checked }
namespace Rows
def none {H : Type} : Left H := { results := [], args := [] }

/-- 'zzlaws_internal_wire_b1.FnWalkFromBatchFollowsThePath': WHATEVER THE INPUT: true; the input reads as it did. -/
def fnWalkFromBatchFollowsThePathSpec : ChangeSpec := { name := "fnWalkFromBatchFollowsThePath", fn := fun _ => fun
  | [d1, d2] => { results := [.lit (.bool true)], args := [d1, d2] }
  | _ => none }
def fnWalkFromBatchFollowsThePathRow : OpenClaim := { program := "qxb6601096amods", sum := "22937c50dcf55bc4d598917a9cd7461027d468f18c7fa0fef7a93bd105094c2d", func := "example.com/syncline/syncline/zzlaws_internal_wire_b1.FnWalkFromBatchFollowsThePath", spec := "fnWalkFromBatchFollowsThePath", make := .lifted ["publicsums"], apart := false }
def FnWalkFromBatchFollowsThePathSaid : Prop := fnWalkFromBatchFollowsThePathRow.holds Trym.pinned (OpenSpec.ofChange fnWalkFromBatchFollowsThePathSpec)

/-- ITS FALSE NEIGHBOUR: 'it returns false'. Refute it at one input. -/
def fnWalkFromBatchFollowsThePathWrong : ChangeSpec := { name := "fnWalkFromBatchFollowsThePath", fn := fun _ => fun
  | [d1, d2] => { results := [.lit (.bool false)], args := [d1, d2] }
  | _ => none }
def FnWalkFromBatchFollowsThePathWrongFalsely : Prop := fnWalkFromBatchFollowsThePathRow.holds Trym.pinned (OpenSpec.ofChange fnWalkFromBatchFollowsThePathWrong)

/-- 'zzlaws_internal_wire_b1.FnSpotNeverBothListAndMap': WHATEVER THE INPUT: true; the input reads as it did. -/
def fnSpotNeverBothListAndMapSpec : ChangeSpec := { name := "fnSpotNeverBothListAndMap", fn := fun _ => fun
  | [d1, d2] => { results := [.lit (.bool true)], args := [d1, d2] }
  | _ => none }
def fnSpotNeverBothListAndMapRow : OpenClaim := { program := "qxb6601096amods", sum := "22937c50dcf55bc4d598917a9cd7461027d468f18c7fa0fef7a93bd105094c2d", func := "example.com/syncline/syncline/zzlaws_internal_wire_b1.FnSpotNeverBothListAndMap", spec := "fnSpotNeverBothListAndMap", make := .lifted ["publicsums"], apart := false }
def FnSpotNeverBothListAndMapSaid : Prop := fnSpotNeverBothListAndMapRow.holds Trym.pinned (OpenSpec.ofChange fnSpotNeverBothListAndMapSpec)

/-- ITS FALSE NEIGHBOUR: 'it returns false'. Refute it at one input. -/
def fnSpotNeverBothListAndMapWrong : ChangeSpec := { name := "fnSpotNeverBothListAndMap", fn := fun _ => fun
  | [d1, d2] => { results := [.lit (.bool false)], args := [d1, d2] }
  | _ => none }
def FnSpotNeverBothListAndMapWrongFalsely : Prop := fnSpotNeverBothListAndMapRow.holds Trym.pinned (OpenSpec.ofChange fnSpotNeverBothListAndMapWrong)

end Rows
end Go.Proofs.Qxb6601096aMods
