/-
  No cell of these rows narrows 'for every input' (looked for: loops, veiled, ifaces, maps, wideKeys, modest, calm, conditions, laid).
  DERIVED. THE GIVEN ROWS OF THIS SEAT. 2 by the template 'for every input the law returns true; each argument reads behind the call as it read before'; 0 by the template 'total and deterministic' (their statements: Qxb6629115aTotals.lean).
  GIVEN WITH THE SEED: the statements are not yours to turn. If you find one false, say at which input.
  Laid BY PROGRAM, IN A SANDBOX (cutbox-rows.mjs): the forced cells as the released guide's own fill.sh prints them over the translation 2dda66de10a5483f… (all of the seat's roots in one cut). By AI agents, Wed Nov 11 2026. No macro, syntax, notation, axiom, sorry.
-/
import Derived.Test.Qxb6629115aChecked
import GoSem.Claim
import GoSem.ClaimJoined
import GoSem.ClaimMapViews
import Derived.JoinedTies
import Derived.KernelRfl
namespace Go.Proofs.Qxb6629115a
/- THE CELL 'sum', in the pinned program and in every row, IS THE sha256 OF THE DUMP (.gsa) THAT Qxb6629115aProg.lean LOADS. Nothing in Lean hashes anything: it is a label: what it is worth is what the hold of that sum in a sandbox is worth. -/
noncomputable def Try.pinned : Pinned := { name := "qxb6629115a", sum := "2dda66de10a5483f80ffc0332f13e09a4692b1591f68d3fc2fa9d08e3743d146", checked := Try.checked }
namespace Rows
def none {H : Type} : Left H := { results := [], args := [] }

/-- 'zzlaws_internal_agreement_b1.FnBoundStringValueUnitAnyCut': WHATEVER THE INPUT: true; the input reads as it did. -/
def fnBoundStringValueUnitAnyCutSpec : ChangeSpec := { name := "fnBoundStringValueUnitAnyCut", fn := fun _ => fun
  | [d1, d2, d3, d4, d5, d6, d7] => { results := [.lit (.bool true)], args := [d1, d2, d3, d4, d5, d6, d7] }
  | _ => none }
def fnBoundStringValueUnitAnyCutRow : OpenClaim := { program := "qxb6629115a", sum := "2dda66de10a5483f80ffc0332f13e09a4692b1591f68d3fc2fa9d08e3743d146", func := "example.com/custoclause/custoclause/zzlaws_internal_agreement_b1.FnBoundStringValueUnitAnyCut", spec := "fnBoundStringValueUnitAnyCut", apart := false }
def FnBoundStringValueUnitAnyCutSaid : Prop := fnBoundStringValueUnitAnyCutRow.holds Try.pinned (OpenSpec.ofChange fnBoundStringValueUnitAnyCutSpec)

/-- ITS FALSE NEIGHBOUR: 'it returns false'. Refute it at one input. -/
def fnBoundStringValueUnitAnyCutWrong : ChangeSpec := { name := "fnBoundStringValueUnitAnyCut", fn := fun _ => fun
  | [d1, d2, d3, d4, d5, d6, d7] => { results := [.lit (.bool false)], args := [d1, d2, d3, d4, d5, d6, d7] }
  | _ => none }
def FnBoundStringValueUnitAnyCutWrongFalsely : Prop := fnBoundStringValueUnitAnyCutRow.holds Try.pinned (OpenSpec.ofChange fnBoundStringValueUnitAnyCutWrong)

/-- 'zzlaws_internal_agreement_b1.FnBoundStringReadsBackRelation': WHATEVER THE INPUT: true; the input reads as it did. -/
def fnBoundStringReadsBackRelationSpec : ChangeSpec := { name := "fnBoundStringReadsBackRelation", fn := fun _ => fun
  | [d1, d2, d3, d4, d5, d6] => { results := [.lit (.bool true)], args := [d1, d2, d3, d4, d5, d6] }
  | _ => none }
def fnBoundStringReadsBackRelationRow : OpenClaim := { program := "qxb6629115a", sum := "2dda66de10a5483f80ffc0332f13e09a4692b1591f68d3fc2fa9d08e3743d146", func := "example.com/custoclause/custoclause/zzlaws_internal_agreement_b1.FnBoundStringReadsBackRelation", spec := "fnBoundStringReadsBackRelation", apart := false }
def FnBoundStringReadsBackRelationSaid : Prop := fnBoundStringReadsBackRelationRow.holds Try.pinned (OpenSpec.ofChange fnBoundStringReadsBackRelationSpec)

/-- ITS FALSE NEIGHBOUR: 'it returns false'. Refute it at one input. -/
def fnBoundStringReadsBackRelationWrong : ChangeSpec := { name := "fnBoundStringReadsBackRelation", fn := fun _ => fun
  | [d1, d2, d3, d4, d5, d6] => { results := [.lit (.bool false)], args := [d1, d2, d3, d4, d5, d6] }
  | _ => none }
def FnBoundStringReadsBackRelationWrongFalsely : Prop := fnBoundStringReadsBackRelationRow.holds Try.pinned (OpenSpec.ofChange fnBoundStringReadsBackRelationWrong)

end Rows
end Go.Proofs.Qxb6629115a
