/-
  No cell of these rows narrows 'for every input' (looked for: loops, veiled, ifaces, maps, wideKeys, modest, calm, conditions, laid).
  DERIVED. THE GIVEN ROWS OF THIS SEAT. 2 by the template 'for every input the law returns true; each argument reads behind the call as it read before'; 0 by the template 'total and deterministic' (their statements: Qxb6001393aModsTotals.lean).
  GIVEN WITH THE SEED: the statements are not yours to turn. If you find one false, say at which input.
  Laid BY PROGRAM, IN A SANDBOX (cutbox-rows.mjs): the forced cells as the released guide's own fill.sh prints them over the translation eb82d5e07b0c2dfe… (all of the seat's roots in one cut). By AI agents, Wed Nov 11 2026. No macro, syntax, notation, axiom, sorry.
-/
import Derived.Test.Qxb6001393aModsChecked
import GoSem.Claim
import GoSem.ClaimJoined
import GoSem.ClaimMapViews
import Derived.JoinedTies
import Derived.KernelRfl
namespace Go.Proofs.Qxb6001393aMods
/- THE CELL 'sum', in the pinned program and in every row, IS THE sha256 OF THE DUMP (.gsa) THAT Qxb6001393aModsProg.lean LOADS. Nothing in Lean hashes anything: it is a label: what it is worth is what the hold of that sum in a sandbox is worth. -/
noncomputable def Trym.pinned : Pinned := { name := "qxb6001393amods", sum := "eb82d5e07b0c2dfea9cfaf036a8835709d85e90dbd7bb5cedf27d21b0ea766c6", checked := Trym.checked }
namespace Rows
def none {H : Type} : Left H := { results := [], args := [] }

/-- 'zzlaws_internal_redisstore_b1.FnHowDecodesToModeAndWait': WHATEVER THE INPUT: true; the input reads as it did. -/
def fnHowDecodesToModeAndWaitSpec : ChangeSpec := { name := "fnHowDecodesToModeAndWait", fn := fun _ => fun
  | [d1, d2] => { results := [.lit (.bool true)], args := [d1, d2] }
  | _ => none }
def fnHowDecodesToModeAndWaitRow : OpenClaim := { program := "qxb6001393amods", sum := "eb82d5e07b0c2dfea9cfaf036a8835709d85e90dbd7bb5cedf27d21b0ea766c6", func := "example.com/holdfast/holdfast/zzlaws_internal_redisstore_b1.FnHowDecodesToModeAndWait", spec := "fnHowDecodesToModeAndWait", make := .lifted ["publicsums"], apart := false }
def FnHowDecodesToModeAndWaitSaid : Prop := fnHowDecodesToModeAndWaitRow.holds Trym.pinned (OpenSpec.ofChange fnHowDecodesToModeAndWaitSpec)

/-- ITS FALSE NEIGHBOUR: 'it returns false'. Refute it at one input. -/
def fnHowDecodesToModeAndWaitWrong : ChangeSpec := { name := "fnHowDecodesToModeAndWait", fn := fun _ => fun
  | [d1, d2] => { results := [.lit (.bool false)], args := [d1, d2] }
  | _ => none }
def FnHowDecodesToModeAndWaitWrongFalsely : Prop := fnHowDecodesToModeAndWaitRow.holds Trym.pinned (OpenSpec.ofChange fnHowDecodesToModeAndWaitWrong)

/-- 'zzlaws_internal_redisstore_b1.FnHowInjective': WHATEVER THE INPUT: true; the input reads as it did. -/
def fnHowInjectiveSpec : ChangeSpec := { name := "fnHowInjective", fn := fun _ => fun
  | [d1, d2, d3, d4] => { results := [.lit (.bool true)], args := [d1, d2, d3, d4] }
  | _ => none }
def fnHowInjectiveRow : OpenClaim := { program := "qxb6001393amods", sum := "eb82d5e07b0c2dfea9cfaf036a8835709d85e90dbd7bb5cedf27d21b0ea766c6", func := "example.com/holdfast/holdfast/zzlaws_internal_redisstore_b1.FnHowInjective", spec := "fnHowInjective", make := .lifted ["publicsums"], apart := false }
def FnHowInjectiveSaid : Prop := fnHowInjectiveRow.holds Trym.pinned (OpenSpec.ofChange fnHowInjectiveSpec)

/-- ITS FALSE NEIGHBOUR: 'it returns false'. Refute it at one input. -/
def fnHowInjectiveWrong : ChangeSpec := { name := "fnHowInjective", fn := fun _ => fun
  | [d1, d2, d3, d4] => { results := [.lit (.bool false)], args := [d1, d2, d3, d4] }
  | _ => none }
def FnHowInjectiveWrongFalsely : Prop := fnHowInjectiveRow.holds Trym.pinned (OpenSpec.ofChange fnHowInjectiveWrong)

end Rows
end Go.Proofs.Qxb6001393aMods
