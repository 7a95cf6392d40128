/-
  No cell of these rows narrows 'for every input' (looked for: loops, veiled, ifaces, maps, wideKeys, modest, calm, conditions, laid).
  DERIVED. THE GIVEN ROWS OF THIS SEAT. 2 by the template 'for every input the law returns true; each argument reads behind the call as it read before'; 0 by the template 'total and deterministic' (their statements: Qxb6629191aTotals.lean).
  GIVEN WITH THE SEED: the statements are not yours to turn. If you find one false, say at which input.
  Laid BY PROGRAM, IN A SANDBOX (cutbox-rows.mjs): the forced cells as the released guide's own fill.sh prints them over the translation 36c599d493b62474… (all of the seat's roots in one cut). By AI agents, Wed Nov 11 2026. No macro, syntax, notation, axiom, sorry.
-/
import Derived.Test.Qxb6629191aChecked
import GoSem.Claim
import GoSem.ClaimJoined
import GoSem.ClaimMapViews
import Derived.JoinedTies
import Derived.KernelRfl
namespace Go.Proofs.Qxb6629191a
/- THE CELL 'sum', in the pinned program and in every row, IS THE sha256 OF THE DUMP (.gsa) THAT Qxb6629191aProg.lean LOADS. Nothing in Lean hashes anything: it is a label: what it is worth is what the hold of that sum in a sandbox is worth. -/
noncomputable def Try.pinned : Pinned := { name := "qxb6629191a", sum := "36c599d493b62474e332b7bb4ca04619f09b3529785d26cbe44d1a8e60864503", checked := Try.checked }
namespace Rows
def none {H : Type} : Left H := { results := [], args := [] }

/-- 'zzlaws_root_b1.FnSignersCutAndInsert': WHATEVER THE INPUT: true; the input reads as it did. -/
def fnSignersCutAndInsertSpec : ChangeSpec := { name := "fnSignersCutAndInsert", fn := fun _ => fun
  | [d1, d2, d3, d4, d5] => { results := [.lit (.bool true)], args := [d1, d2, d3, d4, d5] }
  | _ => none }
def fnSignersCutAndInsertRow : OpenClaim := { program := "qxb6629191a", sum := "36c599d493b62474e332b7bb4ca04619f09b3529785d26cbe44d1a8e60864503", func := "example.com/portcullis/portcullis/zzlaws_root_b1.FnSignersCutAndInsert", spec := "fnSignersCutAndInsert", apart := false }
def FnSignersCutAndInsertSaid : Prop := fnSignersCutAndInsertRow.holds Try.pinned (OpenSpec.ofChange fnSignersCutAndInsertSpec)

/-- ITS FALSE NEIGHBOUR: 'it returns false'. Refute it at one input. -/
def fnSignersCutAndInsertWrong : ChangeSpec := { name := "fnSignersCutAndInsert", fn := fun _ => fun
  | [d1, d2, d3, d4, d5] => { results := [.lit (.bool false)], args := [d1, d2, d3, d4, d5] }
  | _ => none }
def FnSignersCutAndInsertWrongFalsely : Prop := fnSignersCutAndInsertRow.holds Try.pinned (OpenSpec.ofChange fnSignersCutAndInsertWrong)

/-- 'zzlaws_root_b1.FnSignersKeysOnceIgnoringDecisionViasAndRuleSets': WHATEVER THE INPUT: true; the input reads as it did. -/
def fnSignersKeysOnceIgnoringDecisionViasAndRuleSetsSpec : ChangeSpec := { name := "fnSignersKeysOnceIgnoringDecisionViasAndRuleSets", fn := fun _ => fun
  | [d1, d2, d3] => { results := [.lit (.bool true)], args := [d1, d2, d3] }
  | _ => none }
def fnSignersKeysOnceIgnoringDecisionViasAndRuleSetsRow : OpenClaim := { program := "qxb6629191a", sum := "36c599d493b62474e332b7bb4ca04619f09b3529785d26cbe44d1a8e60864503", func := "example.com/portcullis/portcullis/zzlaws_root_b1.FnSignersKeysOnceIgnoringDecisionViasAndRuleSets", spec := "fnSignersKeysOnceIgnoringDecisionViasAndRuleSets", apart := false }
def FnSignersKeysOnceIgnoringDecisionViasAndRuleSetsSaid : Prop := fnSignersKeysOnceIgnoringDecisionViasAndRuleSetsRow.holds Try.pinned (OpenSpec.ofChange fnSignersKeysOnceIgnoringDecisionViasAndRuleSetsSpec)

/-- ITS FALSE NEIGHBOUR: 'it returns false'. Refute it at one input. -/
def fnSignersKeysOnceIgnoringDecisionViasAndRuleSetsWrong : ChangeSpec := { name := "fnSignersKeysOnceIgnoringDecisionViasAndRuleSets", fn := fun _ => fun
  | [d1, d2, d3] => { results := [.lit (.bool false)], args := [d1, d2, d3] }
  | _ => none }
def FnSignersKeysOnceIgnoringDecisionViasAndRuleSetsWrongFalsely : Prop := fnSignersKeysOnceIgnoringDecisionViasAndRuleSetsRow.holds Try.pinned (OpenSpec.ofChange fnSignersKeysOnceIgnoringDecisionViasAndRuleSetsWrong)

end Rows
end Go.Proofs.Qxb6629191a
