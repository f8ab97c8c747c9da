/-
  No cell of these rows narrows 'for every input' (looked for: loops, veiled, ifaces, maps, wideKeys, modest, calm, conditions, laid).
  DERIVED. THE GIVEN ROWS OF THIS SEAT. 3 by the template 'for every input the law returns true; each argument reads behind the call as it read before'; 0 by the template 'total and deterministic' (their statements: Qxb6001843aModsTotals.lean).
  GIVEN WITH THE SEED: the statements are not yours to turn. If you find one false, say at which input.
  Laid BY PROGRAM, IN A SANDBOX (cutbox-rows.mjs): the forced cells as the released guide's own fill.sh prints them over the translation dcf3beb100ddb68c… (all of the seat's roots in one cut). By AI agents, Wed Nov 11 2026. No macro, syntax, notation, axiom, sorry.
-/
import Derived.Test.Qxb6001843aModsChecked
import GoSem.Claim
import GoSem.ClaimJoined
import GoSem.ClaimMapViews
import Derived.JoinedTies
import Derived.KernelRfl
namespace Go.Proofs.Qxb6001843aMods
/- THE CELL 'sum', in the pinned program and in every row, IS THE sha256 OF THE DUMP (.gsa) THAT Qxb6001843aModsProg.lean LOADS. Nothing in Lean hashes anything: it is a label: what it is worth is what the hold of that sum in a sandbox is worth. -/
noncomputable def Trym.pinned : Pinned := { name := "qxb6001843amods", sum := "dcf3beb100ddb68ca18a60df89ae1395fcb5cb1913a58e98586952389fa8016a", checked := Trym.checked }
namespace Rows
def none {H : Type} : Left H := { results := [], args := [] }

/-- 'zzlaws_sqldb_b1.FnPostgresDescribeKeepsOtherFields': WHATEVER THE INPUT: true; the input reads as it did. -/
def fnPostgresDescribeKeepsOtherFieldsSpec : ChangeSpec := { name := "fnPostgresDescribeKeepsOtherFields", fn := fun _ => fun
  | [d1, d2, d3, d4, d5, d6, d7] => { results := [.lit (.bool true)], args := [d1, d2, d3, d4, d5, d6, d7] }
  | _ => none }
def fnPostgresDescribeKeepsOtherFieldsRow : OpenClaim := { program := "qxb6001843amods", sum := "dcf3beb100ddb68ca18a60df89ae1395fcb5cb1913a58e98586952389fa8016a", func := "example.com/shapewire/shapewire/zzlaws_sqldb_b1.FnPostgresDescribeKeepsOtherFields", spec := "fnPostgresDescribeKeepsOtherFields", make := .lifted ["publicsums"], apart := false }
def FnPostgresDescribeKeepsOtherFieldsSaid : Prop := fnPostgresDescribeKeepsOtherFieldsRow.holds Trym.pinned (OpenSpec.ofChange fnPostgresDescribeKeepsOtherFieldsSpec)

/-- ITS FALSE NEIGHBOUR: 'it returns false'. Refute it at one input. -/
def fnPostgresDescribeKeepsOtherFieldsWrong : ChangeSpec := { name := "fnPostgresDescribeKeepsOtherFields", fn := fun _ => fun
  | [d1, d2, d3, d4, d5, d6, d7] => { results := [.lit (.bool false)], args := [d1, d2, d3, d4, d5, d6, d7] }
  | _ => none }
def FnPostgresDescribeKeepsOtherFieldsWrongFalsely : Prop := fnPostgresDescribeKeepsOtherFieldsRow.holds Trym.pinned (OpenSpec.ofChange fnPostgresDescribeKeepsOtherFieldsWrong)

/-- 'zzlaws_sqldb_b1.FnPostgresDescribeIdempotent': WHATEVER THE INPUT: true; the input reads as it did. -/
def fnPostgresDescribeIdempotentSpec : ChangeSpec := { name := "fnPostgresDescribeIdempotent", fn := fun _ => fun
  | [d1, d2, d3, d4, d5, d6, d7] => { results := [.lit (.bool true)], args := [d1, d2, d3, d4, d5, d6, d7] }
  | _ => none }
def fnPostgresDescribeIdempotentRow : OpenClaim := { program := "qxb6001843amods", sum := "dcf3beb100ddb68ca18a60df89ae1395fcb5cb1913a58e98586952389fa8016a", func := "example.com/shapewire/shapewire/zzlaws_sqldb_b1.FnPostgresDescribeIdempotent", spec := "fnPostgresDescribeIdempotent", make := .lifted ["publicsums"], apart := false }
def FnPostgresDescribeIdempotentSaid : Prop := fnPostgresDescribeIdempotentRow.holds Trym.pinned (OpenSpec.ofChange fnPostgresDescribeIdempotentSpec)

/-- ITS FALSE NEIGHBOUR: 'it returns false'. Refute it at one input. -/
def fnPostgresDescribeIdempotentWrong : ChangeSpec := { name := "fnPostgresDescribeIdempotent", fn := fun _ => fun
  | [d1, d2, d3, d4, d5, d6, d7] => { results := [.lit (.bool false)], args := [d1, d2, d3, d4, d5, d6, d7] }
  | _ => none }
def FnPostgresDescribeIdempotentWrongFalsely : Prop := fnPostgresDescribeIdempotentRow.holds Trym.pinned (OpenSpec.ofChange fnPostgresDescribeIdempotentWrong)

/-- 'zzlaws_sqldb_b1.FnPostgresDescribeHangsOnTypeAlone': WHATEVER THE INPUT: true; the input reads as it did. -/
def fnPostgresDescribeHangsOnTypeAloneSpec : ChangeSpec := { name := "fnPostgresDescribeHangsOnTypeAlone", fn := fun _ => fun
  | [d1, d2, d3, d4, d5] => { results := [.lit (.bool true)], args := [d1, d2, d3, d4, d5] }
  | _ => none }
def fnPostgresDescribeHangsOnTypeAloneRow : OpenClaim := { program := "qxb6001843amods", sum := "dcf3beb100ddb68ca18a60df89ae1395fcb5cb1913a58e98586952389fa8016a", func := "example.com/shapewire/shapewire/zzlaws_sqldb_b1.FnPostgresDescribeHangsOnTypeAlone", spec := "fnPostgresDescribeHangsOnTypeAlone", make := .lifted ["publicsums"], apart := false }
def FnPostgresDescribeHangsOnTypeAloneSaid : Prop := fnPostgresDescribeHangsOnTypeAloneRow.holds Trym.pinned (OpenSpec.ofChange fnPostgresDescribeHangsOnTypeAloneSpec)

/-- ITS FALSE NEIGHBOUR: 'it returns false'. Refute it at one input. -/
def fnPostgresDescribeHangsOnTypeAloneWrong : ChangeSpec := { name := "fnPostgresDescribeHangsOnTypeAlone", fn := fun _ => fun
  | [d1, d2, d3, d4, d5] => { results := [.lit (.bool false)], args := [d1, d2, d3, d4, d5] }
  | _ => none }
def FnPostgresDescribeHangsOnTypeAloneWrongFalsely : Prop := fnPostgresDescribeHangsOnTypeAloneRow.holds Trym.pinned (OpenSpec.ofChange fnPostgresDescribeHangsOnTypeAloneWrong)

end Rows
end Go.Proofs.Qxb6001843aMods
