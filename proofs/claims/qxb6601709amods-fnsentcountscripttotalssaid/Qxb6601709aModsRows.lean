/-
  No cell of these rows narrows 'for every input' (looked for: loops, veiled, ifaces, maps, wideKeys, modest, calm, conditions, laid).
  DERIVED. THE GIVEN ROWS OF THIS SEAT. 2 by the template 'for every input the law returns true; each argument reads behind the call as it read before'; 0 by the template 'total and deterministic' (their statements: Qxb6601709aModsTotals.lean).
  GIVEN WITH THE SEED: the statements are not yours to turn. If you find one false, say at which input.
  Laid BY PROGRAM, IN A SANDBOX (cutbox-rows.mjs): the forced cells as the released guide's own fill.sh prints them over the translation 7164799ef843aa63… (all of the seat's roots in one cut). By AI agents, Wed Nov 11 2026. No macro, syntax, notation, axiom, sorry.
-/
import Derived.Test.Qxb6601709aModsChecked
import GoSem.Claim
import GoSem.ClaimJoined
import GoSem.ClaimMapViews
import Derived.JoinedTies
import Derived.KernelRfl
namespace Go.Proofs.Qxb6601709aMods
/- THE CELL 'sum', in the pinned program and in every row, IS THE sha256 OF THE DUMP (.gsa) THAT Qxb6601709aModsProg.lean LOADS. Nothing in Lean hashes anything: it is a label: what it is worth is what the hold of that sum in a sandbox is worth. -/
noncomputable def Trym.pinned : Pinned := { name := "qxb6601709amods", sum := "7164799ef843aa6306bae2bec7c35e6467e1f25ea4d020aa03d787c6e3ac20d6", checked := Trym.checked }
namespace Rows
def none {H : Type} : Left H := { results := [], args := [] }

/-- 'zzlaws_root_b1.FnSentCountScriptTotals': WHATEVER THE INPUT: true; the input reads as it did. -/
def fnSentCountScriptTotalsSpec : ChangeSpec := { name := "fnSentCountScriptTotals", fn := fun _ => fun
  | [d1, d2] => { results := [.lit (.bool true)], args := [d1, d2] }
  | _ => none }
def fnSentCountScriptTotalsRow : OpenClaim := { program := "qxb6601709amods", sum := "7164799ef843aa6306bae2bec7c35e6467e1f25ea4d020aa03d787c6e3ac20d6", func := "example.com/kinbook/zzlaws_root_b1.FnSentCountScriptTotals", spec := "fnSentCountScriptTotals", make := .lifted ["publicsums"], apart := false }
def FnSentCountScriptTotalsSaid : Prop := fnSentCountScriptTotalsRow.holds Trym.pinned (OpenSpec.ofChange fnSentCountScriptTotalsSpec)

/-- ITS FALSE NEIGHBOUR: 'it returns false'. Refute it at one input. -/
def fnSentCountScriptTotalsWrong : ChangeSpec := { name := "fnSentCountScriptTotals", fn := fun _ => fun
  | [d1, d2] => { results := [.lit (.bool false)], args := [d1, d2] }
  | _ => none }
def FnSentCountScriptTotalsWrongFalsely : Prop := fnSentCountScriptTotalsRow.holds Trym.pinned (OpenSpec.ofChange fnSentCountScriptTotalsWrong)

/-- 'zzlaws_root_b1.FnSentCountOrderFree': WHATEVER THE INPUT: true; the input reads as it did. -/
def fnSentCountOrderFreeSpec : ChangeSpec := { name := "fnSentCountOrderFree", fn := fun _ => fun
  | [d1, d2] => { results := [.lit (.bool true)], args := [d1, d2] }
  | _ => none }
def fnSentCountOrderFreeRow : OpenClaim := { program := "qxb6601709amods", sum := "7164799ef843aa6306bae2bec7c35e6467e1f25ea4d020aa03d787c6e3ac20d6", func := "example.com/kinbook/zzlaws_root_b1.FnSentCountOrderFree", spec := "fnSentCountOrderFree", make := .lifted ["publicsums"], apart := false }
def FnSentCountOrderFreeSaid : Prop := fnSentCountOrderFreeRow.holds Trym.pinned (OpenSpec.ofChange fnSentCountOrderFreeSpec)

/-- ITS FALSE NEIGHBOUR: 'it returns false'. Refute it at one input. -/
def fnSentCountOrderFreeWrong : ChangeSpec := { name := "fnSentCountOrderFree", fn := fun _ => fun
  | [d1, d2] => { results := [.lit (.bool false)], args := [d1, d2] }
  | _ => none }
def FnSentCountOrderFreeWrongFalsely : Prop := fnSentCountOrderFreeRow.holds Trym.pinned (OpenSpec.ofChange fnSentCountOrderFreeWrong)

end Rows
end Go.Proofs.Qxb6601709aMods
