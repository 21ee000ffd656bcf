/-
  No cell of these rows narrows 'for every input' (looked for: loops, veiled, ifaces, maps, wideKeys, modest, calm, conditions, laid).
  DERIVED. THE GIVEN ROWS OF THIS SEAT. 3 by the template 'for every input the law returns true; each argument reads behind the call as it read before'; 0 by the template 'total and deterministic' (their statements: Qxb6601886aModsTotals.lean).
  GIVEN WITH THE SEED: the statements are not yours to turn. If you find one false, say at which input.
  Laid BY PROGRAM, IN A SANDBOX (cutbox-rows.mjs): the forced cells as the released guide's own fill.sh prints them over the translation 874e46c418c454ae… (all of the seat's roots in one cut). By AI agents, Wed Nov 11 2026. No macro, syntax, notation, axiom, sorry.
-/
import Derived.Test.Qxb6601886aModsChecked
import GoSem.Claim
import GoSem.ClaimJoined
import GoSem.ClaimMapViews
import Derived.JoinedTies
import Derived.KernelRfl
namespace Go.Proofs.Qxb6601886aMods
/- THE CELL 'sum', in the pinned program and in every row, IS THE sha256 OF THE DUMP (.gsa) THAT Qxb6601886aModsProg.lean LOADS. Nothing in Lean hashes anything: it is a label: what it is worth is what the hold of that sum in a sandbox is worth. -/
noncomputable def Trym.pinned : Pinned := { name := "qxb6601886amods", sum := "874e46c418c454ae3abfbd10f3a3ae9247fb928d1574acdf8df9a8dbcf839d7c", checked := Trym.checked }
namespace Rows
def none {H : Type} : Left H := { results := [], args := [] }

/-- 'zzlaws_root_b1.FnValidNameConcatenation': WHATEVER THE INPUT: true; the input reads as it did. -/
def fnValidNameConcatenationSpec : ChangeSpec := { name := "fnValidNameConcatenation", fn := fun _ => fun
  | [d1, d2] => { results := [.lit (.bool true)], args := [d1, d2] }
  | _ => none }
def fnValidNameConcatenationRow : OpenClaim := { program := "qxb6601886amods", sum := "874e46c418c454ae3abfbd10f3a3ae9247fb928d1574acdf8df9a8dbcf839d7c", func := "example.com/cairn/cairn/zzlaws_root_b1.FnValidNameConcatenation", spec := "fnValidNameConcatenation", unfollowed := true, recurses := true, make := .lifted ["publicsums"], apart := false }
def FnValidNameConcatenationSaid : Prop := fnValidNameConcatenationRow.holds Trym.pinned (OpenSpec.ofChange fnValidNameConcatenationSpec)

/-- ITS FALSE NEIGHBOUR: 'it returns false'. Refute it at one input. -/
def fnValidNameConcatenationWrong : ChangeSpec := { name := "fnValidNameConcatenation", fn := fun _ => fun
  | [d1, d2] => { results := [.lit (.bool false)], args := [d1, d2] }
  | _ => none }
def FnValidNameConcatenationWrongFalsely : Prop := fnValidNameConcatenationRow.holds Trym.pinned (OpenSpec.ofChange fnValidNameConcatenationWrong)

/-- 'zzlaws_root_b1.FnUnknownCallOfSplicesVerbatim': WHATEVER THE INPUT: true; the input reads as it did. -/
def fnUnknownCallOfSplicesVerbatimSpec : ChangeSpec := { name := "fnUnknownCallOfSplicesVerbatim", fn := fun _ => fun
  | [d] => { results := [.lit (.bool true)], args := [d] }
  | _ => none }
def fnUnknownCallOfSplicesVerbatimRow : OpenClaim := { program := "qxb6601886amods", sum := "874e46c418c454ae3abfbd10f3a3ae9247fb928d1574acdf8df9a8dbcf839d7c", func := "example.com/cairn/cairn/zzlaws_root_b1.FnUnknownCallOfSplicesVerbatim", spec := "fnUnknownCallOfSplicesVerbatim", make := .lifted ["publicsums"], apart := false }
def FnUnknownCallOfSplicesVerbatimSaid : Prop := fnUnknownCallOfSplicesVerbatimRow.holds Trym.pinned (OpenSpec.ofChange fnUnknownCallOfSplicesVerbatimSpec)

/-- ITS FALSE NEIGHBOUR: 'it returns false'. Refute it at one input. -/
def fnUnknownCallOfSplicesVerbatimWrong : ChangeSpec := { name := "fnUnknownCallOfSplicesVerbatim", fn := fun _ => fun
  | [d] => { results := [.lit (.bool false)], args := [d] }
  | _ => none }
def FnUnknownCallOfSplicesVerbatimWrongFalsely : Prop := fnUnknownCallOfSplicesVerbatimRow.holds Trym.pinned (OpenSpec.ofChange fnUnknownCallOfSplicesVerbatimWrong)

/-- 'zzlaws_root_b1.FnUnknownCallOfIsOneClosedCall': WHATEVER THE INPUT: true; the input reads as it did. -/
def fnUnknownCallOfIsOneClosedCallSpec : ChangeSpec := { name := "fnUnknownCallOfIsOneClosedCall", fn := fun _ => fun
  | [d] => { results := [.lit (.bool true)], args := [d] }
  | _ => none }
def fnUnknownCallOfIsOneClosedCallRow : OpenClaim := { program := "qxb6601886amods", sum := "874e46c418c454ae3abfbd10f3a3ae9247fb928d1574acdf8df9a8dbcf839d7c", func := "example.com/cairn/cairn/zzlaws_root_b1.FnUnknownCallOfIsOneClosedCall", spec := "fnUnknownCallOfIsOneClosedCall", make := .lifted ["publicsums"], apart := false }
def FnUnknownCallOfIsOneClosedCallSaid : Prop := fnUnknownCallOfIsOneClosedCallRow.holds Trym.pinned (OpenSpec.ofChange fnUnknownCallOfIsOneClosedCallSpec)

/-- ITS FALSE NEIGHBOUR: 'it returns false'. Refute it at one input. -/
def fnUnknownCallOfIsOneClosedCallWrong : ChangeSpec := { name := "fnUnknownCallOfIsOneClosedCall", fn := fun _ => fun
  | [d] => { results := [.lit (.bool false)], args := [d] }
  | _ => none }
def FnUnknownCallOfIsOneClosedCallWrongFalsely : Prop := fnUnknownCallOfIsOneClosedCallRow.holds Trym.pinned (OpenSpec.ofChange fnUnknownCallOfIsOneClosedCallWrong)

end Rows
end Go.Proofs.Qxb6601886aMods
