/-
  No cell of these rows narrows 'for every input' (looked for: loops, veiled, ifaces, maps, wideKeys, modest, calm, conditions, laid).
  DERIVED. THE GIVEN ROWS OF THIS SEAT. 3 by the template 'for every input the law returns true; each argument reads behind the call as it read before'; 0 by the template 'total and deterministic' (their statements: Qxb6600950aModsTotals.lean).
  GIVEN WITH THE SEED: the statements are not yours to turn. If you find one false, say at which input.
  Laid BY PROGRAM, IN A SANDBOX (cutbox-rows.mjs): the forced cells as the released guide's own fill.sh prints them over the translation 15e7b2633985e4d2… (all of the seat's roots in one cut). By AI agents, Wed Nov 11 2026. No macro, syntax, notation, axiom, sorry.
-/
import Derived.Test.Qxb6600950aModsChecked
import GoSem.Claim
import GoSem.ClaimJoined
import GoSem.ClaimMapViews
import Derived.JoinedTies
import Derived.KernelRfl
namespace Go.Proofs.Qxb6600950aMods
/- THE CELL 'sum', in the pinned program and in every row, IS THE sha256 OF THE DUMP (.gsa) THAT Qxb6600950aModsProg.lean LOADS. Nothing in Lean hashes anything: it is a label: what it is worth is what the hold of that sum in a sandbox is worth. -/
noncomputable def Trym.pinned : Pinned := { name := "qxb6600950amods", sum := "15e7b2633985e4d2d02a4888bb3aca0d04344a79c40797baafc4917202ffb8de", checked := Trym.checked }
namespace Rows
def none {H : Type} : Left H := { results := [], args := [] }

/-- 'zzlaws_internal_server_b1.FnStringLengthMatchesParityModel': WHATEVER THE INPUT: true; the input reads as it did. -/
def fnStringLengthMatchesParityModelSpec : ChangeSpec := { name := "fnStringLengthMatchesParityModel", fn := fun _ => fun
  | [d] => { results := [.lit (.bool true)], args := [d] }
  | _ => none }
def fnStringLengthMatchesParityModelRow : OpenClaim := { program := "qxb6600950amods", sum := "15e7b2633985e4d2d02a4888bb3aca0d04344a79c40797baafc4917202ffb8de", func := "example.com/latchkey/latchkey/zzlaws_internal_server_b1.FnStringLengthMatchesParityModel", spec := "fnStringLengthMatchesParityModel", make := .lifted ["publicsums"], apart := false }
def FnStringLengthMatchesParityModelSaid : Prop := fnStringLengthMatchesParityModelRow.holds Trym.pinned (OpenSpec.ofChange fnStringLengthMatchesParityModelSpec)

/-- ITS FALSE NEIGHBOUR: 'it returns false'. Refute it at one input. -/
def fnStringLengthMatchesParityModelWrong : ChangeSpec := { name := "fnStringLengthMatchesParityModel", fn := fun _ => fun
  | [d] => { results := [.lit (.bool false)], args := [d] }
  | _ => none }
def FnStringLengthMatchesParityModelWrongFalsely : Prop := fnStringLengthMatchesParityModelRow.holds Trym.pinned (OpenSpec.ofChange fnStringLengthMatchesParityModelWrong)

/-- 'zzlaws_internal_server_b1.FnStringLengthMeasuresEncodedString': WHATEVER THE INPUT: true; the input reads as it did. -/
def fnStringLengthMeasuresEncodedStringSpec : ChangeSpec := { name := "fnStringLengthMeasuresEncodedString", fn := fun _ => fun
  | [d1, d2] => { results := [.lit (.bool true)], args := [d1, d2] }
  | _ => none }
def fnStringLengthMeasuresEncodedStringRow : OpenClaim := { program := "qxb6600950amods", sum := "15e7b2633985e4d2d02a4888bb3aca0d04344a79c40797baafc4917202ffb8de", func := "example.com/latchkey/latchkey/zzlaws_internal_server_b1.FnStringLengthMeasuresEncodedString", spec := "fnStringLengthMeasuresEncodedString", make := .lifted ["publicsums"], apart := false }
def FnStringLengthMeasuresEncodedStringSaid : Prop := fnStringLengthMeasuresEncodedStringRow.holds Trym.pinned (OpenSpec.ofChange fnStringLengthMeasuresEncodedStringSpec)

/-- ITS FALSE NEIGHBOUR: 'it returns false'. Refute it at one input. -/
def fnStringLengthMeasuresEncodedStringWrong : ChangeSpec := { name := "fnStringLengthMeasuresEncodedString", fn := fun _ => fun
  | [d1, d2] => { results := [.lit (.bool false)], args := [d1, d2] }
  | _ => none }
def FnStringLengthMeasuresEncodedStringWrongFalsely : Prop := fnStringLengthMeasuresEncodedStringRow.holds Trym.pinned (OpenSpec.ofChange fnStringLengthMeasuresEncodedStringWrong)

/-- 'zzlaws_internal_server_b1.FnStringLengthGrowsOnlyWhenOpen': WHATEVER THE INPUT: true; the input reads as it did. -/
def fnStringLengthGrowsOnlyWhenOpenSpec : ChangeSpec := { name := "fnStringLengthGrowsOnlyWhenOpen", fn := fun _ => fun
  | [d1, d2] => { results := [.lit (.bool true)], args := [d1, d2] }
  | _ => none }
def fnStringLengthGrowsOnlyWhenOpenRow : OpenClaim := { program := "qxb6600950amods", sum := "15e7b2633985e4d2d02a4888bb3aca0d04344a79c40797baafc4917202ffb8de", func := "example.com/latchkey/latchkey/zzlaws_internal_server_b1.FnStringLengthGrowsOnlyWhenOpen", spec := "fnStringLengthGrowsOnlyWhenOpen", make := .lifted ["publicsums"], apart := false }
def FnStringLengthGrowsOnlyWhenOpenSaid : Prop := fnStringLengthGrowsOnlyWhenOpenRow.holds Trym.pinned (OpenSpec.ofChange fnStringLengthGrowsOnlyWhenOpenSpec)

/-- ITS FALSE NEIGHBOUR: 'it returns false'. Refute it at one input. -/
def fnStringLengthGrowsOnlyWhenOpenWrong : ChangeSpec := { name := "fnStringLengthGrowsOnlyWhenOpen", fn := fun _ => fun
  | [d1, d2] => { results := [.lit (.bool false)], args := [d1, d2] }
  | _ => none }
def FnStringLengthGrowsOnlyWhenOpenWrongFalsely : Prop := fnStringLengthGrowsOnlyWhenOpenRow.holds Trym.pinned (OpenSpec.ofChange fnStringLengthGrowsOnlyWhenOpenWrong)

end Rows
end Go.Proofs.Qxb6600950aMods
