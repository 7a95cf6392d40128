/-
  No cell of these rows narrows 'for every input' (looked for: loops, veiled, ifaces, maps, wideKeys, modest, calm, conditions, laid).
  DERIVED. THE GIVEN ROWS OF THIS SEAT. 2 by the template 'for every input the law returns true; each argument reads behind the call as it read before'; 0 by the template 'total and deterministic' (their statements: Qxb6629084aTotals.lean).
  GIVEN WITH THE SEED: the statements are not yours to turn. If you find one false, say at which input.
  Laid BY PROGRAM, IN A SANDBOX (cutbox-rows.mjs): the forced cells as the released guide's own fill.sh prints them over the translation bee2f1b8f399cf02… (all of the seat's roots in one cut). By AI agents, Wed Nov 11 2026. No macro, syntax, notation, axiom, sorry.
-/
import Derived.Test.Qxb6629084aChecked
import GoSem.Claim
import GoSem.ClaimJoined
import GoSem.ClaimMapViews
import Derived.JoinedTies
import Derived.KernelRfl
namespace Go.Proofs.Qxb6629084a
/- THE CELL 'sum', in the pinned program and in every row, IS THE sha256 OF THE DUMP (.gsa) THAT Qxb6629084aProg.lean LOADS. Nothing in Lean hashes anything: it is a label: what it is worth is what the hold of that sum in a sandbox is worth. -/
noncomputable def Try.pinned : Pinned := { name := "qxb6629084a", sum := "bee2f1b8f399cf02bce5ec12c177aecd80430483bd58cd395d29eed226b702db", checked := Try.checked }
namespace Rows
def none {H : Type} : Left H := { results := [], args := [] }

/-- 'zzlaws_internal_escape_b1.FnAppendSplitAtAnyCutDecodes': WHATEVER THE INPUT: true; the input reads as it did. -/
def fnAppendSplitAtAnyCutDecodesSpec : ChangeSpec := { name := "fnAppendSplitAtAnyCutDecodes", fn := fun _ => fun
  | [d1, d2, d3] => { results := [.lit (.bool true)], args := [d1, d2, d3] }
  | _ => none }
def fnAppendSplitAtAnyCutDecodesRow : OpenClaim := { program := "qxb6629084a", sum := "bee2f1b8f399cf02bce5ec12c177aecd80430483bd58cd395d29eed226b702db", func := "example.com/palimpsest/palimpsest/zzlaws_internal_escape_b1.FnAppendSplitAtAnyCutDecodes", spec := "fnAppendSplitAtAnyCutDecodes", apart := false }
def FnAppendSplitAtAnyCutDecodesSaid : Prop := fnAppendSplitAtAnyCutDecodesRow.holds Try.pinned (OpenSpec.ofChange fnAppendSplitAtAnyCutDecodesSpec)

/-- ITS FALSE NEIGHBOUR: 'it returns false'. Refute it at one input. -/
def fnAppendSplitAtAnyCutDecodesWrong : ChangeSpec := { name := "fnAppendSplitAtAnyCutDecodes", fn := fun _ => fun
  | [d1, d2, d3] => { results := [.lit (.bool false)], args := [d1, d2, d3] }
  | _ => none }
def FnAppendSplitAtAnyCutDecodesWrongFalsely : Prop := fnAppendSplitAtAnyCutDecodesRow.holds Try.pinned (OpenSpec.ofChange fnAppendSplitAtAnyCutDecodesWrong)

/-- 'zzlaws_internal_escape_b1.FnAppendCanonicalAndInjective': WHATEVER THE INPUT: true; the input reads as it did. -/
def fnAppendCanonicalAndInjectiveSpec : ChangeSpec := { name := "fnAppendCanonicalAndInjective", fn := fun _ => fun
  | [d1, d2] => { results := [.lit (.bool true)], args := [d1, d2] }
  | _ => none }
def fnAppendCanonicalAndInjectiveRow : OpenClaim := { program := "qxb6629084a", sum := "bee2f1b8f399cf02bce5ec12c177aecd80430483bd58cd395d29eed226b702db", func := "example.com/palimpsest/palimpsest/zzlaws_internal_escape_b1.FnAppendCanonicalAndInjective", spec := "fnAppendCanonicalAndInjective", apart := false }
def FnAppendCanonicalAndInjectiveSaid : Prop := fnAppendCanonicalAndInjectiveRow.holds Try.pinned (OpenSpec.ofChange fnAppendCanonicalAndInjectiveSpec)

/-- ITS FALSE NEIGHBOUR: 'it returns false'. Refute it at one input. -/
def fnAppendCanonicalAndInjectiveWrong : ChangeSpec := { name := "fnAppendCanonicalAndInjective", fn := fun _ => fun
  | [d1, d2] => { results := [.lit (.bool false)], args := [d1, d2] }
  | _ => none }
def FnAppendCanonicalAndInjectiveWrongFalsely : Prop := fnAppendCanonicalAndInjectiveRow.holds Try.pinned (OpenSpec.ofChange fnAppendCanonicalAndInjectiveWrong)

end Rows
end Go.Proofs.Qxb6629084a
