/-
  No cell of these rows narrows 'for every input' (looked for: loops, veiled, ifaces, maps, wideKeys, modest, calm, conditions, laid).
  DERIVED. THE GIVEN ROWS OF THIS SEAT. 6 by the template 'for every input the law returns true; each argument reads behind the call as it read before'; 0 by the template 'total and deterministic' (their statements: Qxb6601395aModsTotals.lean).
  GIVEN WITH THE SEED: the statements are not yours to turn. If you find one false, say at which input.
  Laid BY PROGRAM, IN A SANDBOX (cutbox-rows.mjs): the forced cells as the released guide's own fill.sh prints them over the translation 25ef07e4cabf6d6d… (all of the seat's roots in one cut). By AI agents, Wed Nov 11 2026. No macro, syntax, notation, axiom, sorry.
-/
import Derived.Test.Qxb6601395aModsChecked
import GoSem.Claim
import GoSem.ClaimJoined
import GoSem.ClaimMapViews
import Derived.JoinedTies
import Derived.KernelRfl
namespace Go.Proofs.Qxb6601395aMods
/- THE CELL 'sum', in the pinned program and in every row, IS THE sha256 OF THE DUMP (.gsa) THAT Qxb6601395aModsProg.lean LOADS. Nothing in Lean hashes anything: it is a label: what it is worth is what the hold of that sum in a sandbox is worth. -/
noncomputable def Trym.pinned : Pinned := { name := "qxb6601395amods", sum := "25ef07e4cabf6d6d78572bc5ae14ac6d4706398dccbe61b97eb9a6fbb663b91d", checked := Trym.checked }
namespace Rows
def none {H : Type} : Left H := { results := [], args := [] }

/-- 'zzlaws_pkg_store_b1.FnValidSaleIDExact': WHATEVER THE INPUT: true; the input reads as it did. -/
def fnValidSaleIDExactSpec : ChangeSpec := { name := "fnValidSaleIDExact", fn := fun _ => fun
  | [d] => { results := [.lit (.bool true)], args := [d] }
  | _ => none }
def fnValidSaleIDExactRow : OpenClaim := { program := "qxb6601395amods", sum := "25ef07e4cabf6d6d78572bc5ae14ac6d4706398dccbe61b97eb9a6fbb663b91d", func := "example.com/limstock/limstock/zzlaws_pkg_store_b1.FnValidSaleIDExact", spec := "fnValidSaleIDExact", make := .lifted ["publicsums"], apart := false }
def FnValidSaleIDExactSaid : Prop := fnValidSaleIDExactRow.holds Trym.pinned (OpenSpec.ofChange fnValidSaleIDExactSpec)

/-- ITS FALSE NEIGHBOUR: 'it returns false'. Refute it at one input. -/
def fnValidSaleIDExactWrong : ChangeSpec := { name := "fnValidSaleIDExact", fn := fun _ => fun
  | [d] => { results := [.lit (.bool false)], args := [d] }
  | _ => none }
def FnValidSaleIDExactWrongFalsely : Prop := fnValidSaleIDExactRow.holds Trym.pinned (OpenSpec.ofChange fnValidSaleIDExactWrong)

/-- 'zzlaws_pkg_store_b1.FnValidSaleIDConcat': WHATEVER THE INPUT: true; the input reads as it did. -/
def fnValidSaleIDConcatSpec : ChangeSpec := { name := "fnValidSaleIDConcat", fn := fun _ => fun
  | [d1, d2] => { results := [.lit (.bool true)], args := [d1, d2] }
  | _ => none }
def fnValidSaleIDConcatRow : OpenClaim := { program := "qxb6601395amods", sum := "25ef07e4cabf6d6d78572bc5ae14ac6d4706398dccbe61b97eb9a6fbb663b91d", func := "example.com/limstock/limstock/zzlaws_pkg_store_b1.FnValidSaleIDConcat", spec := "fnValidSaleIDConcat", make := .lifted ["publicsums"], apart := false }
def FnValidSaleIDConcatSaid : Prop := fnValidSaleIDConcatRow.holds Trym.pinned (OpenSpec.ofChange fnValidSaleIDConcatSpec)

/-- ITS FALSE NEIGHBOUR: 'it returns false'. Refute it at one input. -/
def fnValidSaleIDConcatWrong : ChangeSpec := { name := "fnValidSaleIDConcat", fn := fun _ => fun
  | [d1, d2] => { results := [.lit (.bool false)], args := [d1, d2] }
  | _ => none }
def FnValidSaleIDConcatWrongFalsely : Prop := fnValidSaleIDConcatRow.holds Trym.pinned (OpenSpec.ofChange fnValidSaleIDConcatWrong)

/-- 'zzlaws_pkg_store_b1.FnValidSaleIDKeepsHashTag': WHATEVER THE INPUT: true; the input reads as it did. -/
def fnValidSaleIDKeepsHashTagSpec : ChangeSpec := { name := "fnValidSaleIDKeepsHashTag", fn := fun _ => fun
  | [d] => { results := [.lit (.bool true)], args := [d] }
  | _ => none }
def fnValidSaleIDKeepsHashTagRow : OpenClaim := { program := "qxb6601395amods", sum := "25ef07e4cabf6d6d78572bc5ae14ac6d4706398dccbe61b97eb9a6fbb663b91d", func := "example.com/limstock/limstock/zzlaws_pkg_store_b1.FnValidSaleIDKeepsHashTag", spec := "fnValidSaleIDKeepsHashTag", make := .lifted ["publicsums"], apart := false }
def FnValidSaleIDKeepsHashTagSaid : Prop := fnValidSaleIDKeepsHashTagRow.holds Trym.pinned (OpenSpec.ofChange fnValidSaleIDKeepsHashTagSpec)

/-- ITS FALSE NEIGHBOUR: 'it returns false'. Refute it at one input. -/
def fnValidSaleIDKeepsHashTagWrong : ChangeSpec := { name := "fnValidSaleIDKeepsHashTag", fn := fun _ => fun
  | [d] => { results := [.lit (.bool false)], args := [d] }
  | _ => none }
def FnValidSaleIDKeepsHashTagWrongFalsely : Prop := fnValidSaleIDKeepsHashTagRow.holds Trym.pinned (OpenSpec.ofChange fnValidSaleIDKeepsHashTagWrong)

/-- 'zzlaws_pkg_store_b1.FnSplitGrabIDRoundTrip': WHATEVER THE INPUT: true; the input reads as it did. -/
def fnSplitGrabIDRoundTripSpec : ChangeSpec := { name := "fnSplitGrabIDRoundTrip", fn := fun _ => fun
  | [d1, d2] => { results := [.lit (.bool true)], args := [d1, d2] }
  | _ => none }
def fnSplitGrabIDRoundTripRow : OpenClaim := { program := "qxb6601395amods", sum := "25ef07e4cabf6d6d78572bc5ae14ac6d4706398dccbe61b97eb9a6fbb663b91d", func := "example.com/limstock/limstock/zzlaws_pkg_store_b1.FnSplitGrabIDRoundTrip", spec := "fnSplitGrabIDRoundTrip", inPlace := ["internal/bytealg.IndexByteString", "internal/bytealg.IndexString"], named := ["internal/bytealg.MaxLen"], make := .lifted ["publicsums"], apart := false }
def FnSplitGrabIDRoundTripSaid : Prop := fnSplitGrabIDRoundTripRow.holds Trym.pinned (OpenSpec.ofChange fnSplitGrabIDRoundTripSpec)

/-- ITS FALSE NEIGHBOUR: 'it returns false'. Refute it at one input. -/
def fnSplitGrabIDRoundTripWrong : ChangeSpec := { name := "fnSplitGrabIDRoundTrip", fn := fun _ => fun
  | [d1, d2] => { results := [.lit (.bool false)], args := [d1, d2] }
  | _ => none }
def FnSplitGrabIDRoundTripWrongFalsely : Prop := fnSplitGrabIDRoundTripRow.holds Trym.pinned (OpenSpec.ofChange fnSplitGrabIDRoundTripWrong)

/-- 'zzlaws_pkg_store_b1.FnSaleKeysHashTagExact': WHATEVER THE INPUT: true; the input reads as it did. -/
def fnSaleKeysHashTagExactSpec : ChangeSpec := { name := "fnSaleKeysHashTagExact", fn := fun _ => fun
  | [d] => { results := [.lit (.bool true)], args := [d] }
  | _ => none }
def fnSaleKeysHashTagExactRow : OpenClaim := { program := "qxb6601395amods", sum := "25ef07e4cabf6d6d78572bc5ae14ac6d4706398dccbe61b97eb9a6fbb663b91d", func := "example.com/limstock/limstock/zzlaws_pkg_store_b1.FnSaleKeysHashTagExact", spec := "fnSaleKeysHashTagExact", make := .lifted ["publicsums"], apart := false }
def FnSaleKeysHashTagExactSaid : Prop := fnSaleKeysHashTagExactRow.holds Trym.pinned (OpenSpec.ofChange fnSaleKeysHashTagExactSpec)

/-- ITS FALSE NEIGHBOUR: 'it returns false'. Refute it at one input. -/
def fnSaleKeysHashTagExactWrong : ChangeSpec := { name := "fnSaleKeysHashTagExact", fn := fun _ => fun
  | [d] => { results := [.lit (.bool false)], args := [d] }
  | _ => none }
def FnSaleKeysHashTagExactWrongFalsely : Prop := fnSaleKeysHashTagExactRow.holds Trym.pinned (OpenSpec.ofChange fnSaleKeysHashTagExactWrong)

/-- 'zzlaws_pkg_store_b1.FnSaleKeysNeverCollide': WHATEVER THE INPUT: true; the input reads as it did. -/
def fnSaleKeysNeverCollideSpec : ChangeSpec := { name := "fnSaleKeysNeverCollide", fn := fun _ => fun
  | [d1, d2] => { results := [.lit (.bool true)], args := [d1, d2] }
  | _ => none }
def fnSaleKeysNeverCollideRow : OpenClaim := { program := "qxb6601395amods", sum := "25ef07e4cabf6d6d78572bc5ae14ac6d4706398dccbe61b97eb9a6fbb663b91d", func := "example.com/limstock/limstock/zzlaws_pkg_store_b1.FnSaleKeysNeverCollide", spec := "fnSaleKeysNeverCollide", make := .lifted ["publicsums"], apart := false }
def FnSaleKeysNeverCollideSaid : Prop := fnSaleKeysNeverCollideRow.holds Trym.pinned (OpenSpec.ofChange fnSaleKeysNeverCollideSpec)

/-- ITS FALSE NEIGHBOUR: 'it returns false'. Refute it at one input. -/
def fnSaleKeysNeverCollideWrong : ChangeSpec := { name := "fnSaleKeysNeverCollide", fn := fun _ => fun
  | [d1, d2] => { results := [.lit (.bool false)], args := [d1, d2] }
  | _ => none }
def FnSaleKeysNeverCollideWrongFalsely : Prop := fnSaleKeysNeverCollideRow.holds Trym.pinned (OpenSpec.ofChange fnSaleKeysNeverCollideWrong)

end Rows
end Go.Proofs.Qxb6601395aMods
