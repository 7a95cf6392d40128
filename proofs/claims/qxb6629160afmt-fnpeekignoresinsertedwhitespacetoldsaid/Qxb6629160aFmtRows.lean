/-
  No cell of these rows narrows 'for every input' (looked for: loops, veiled, ifaces, maps, wideKeys, modest, calm, conditions, laid).
  DERIVED. THE GIVEN ROWS OF THIS SEAT. 2 by the template 'for every input the law returns true; each argument reads behind the call as it read before'; 0 by the template 'total and deterministic' (their statements: Qxb6629160aFmtTotals.lean).
  GIVEN WITH THE SEED: the statements are not yours to turn. If you find one false, say at which input.
  Laid BY PROGRAM, IN A SANDBOX (cutbox-rows.mjs): the forced cells as the released guide's own fill.sh prints them over the translation 5466562fe16ed437… (all of the seat's roots in one cut). By AI agents, Wed Nov 11 2026. No macro, syntax, notation, axiom, sorry.
-/
import Derived.Test.Qxb6629160aFmtChecked
import GoSem.Claim
import GoSem.ClaimJoined
import GoSem.ClaimMapViews
import Derived.JoinedTies
import Derived.KernelRfl
namespace Go.Proofs.Qxb6629160aFmt
/- THE CELL 'sum', in the pinned program and in every row, IS THE sha256 OF THE DUMP (.gsa) THAT Qxb6629160aFmtProg.lean LOADS. Nothing in Lean hashes anything: it is a label: what it is worth is what the hold of that sum in a sandbox is worth. -/
noncomputable def Tryf.pinned : Pinned := { name := "qxb6629160afmt", sum := "5466562fe16ed437bfd393024c1df167bf6760c25b4155856b6ec6d30ffa7206", checked := Tryf.checked }
namespace Rows
def none {H : Type} : Left H := { results := [], args := [] }

/-- 'zzlaws_internal_jsonread_b1.FnPeekIgnoresInsertedWhiteSpace': WHATEVER THE INPUT: true; the input reads as it did. -/
def fnPeekIgnoresInsertedWhiteSpaceSpec : ChangeSpec := { name := "fnPeekIgnoresInsertedWhiteSpace", fn := fun _ => fun
  | [d1, d2, d3, d4, d5, d6] => { results := [.lit (.bool true)], args := [d1, d2, d3, d4, d5, d6] }
  | _ => none }
def fnPeekIgnoresInsertedWhiteSpaceRow : OpenClaim := { program := "qxb6629160afmt", sum := "5466562fe16ed437bfd393024c1df167bf6760c25b4155856b6ec6d30ffa7206", func := "example.com/cochero/cochero/zzlaws_internal_jsonread_b1.FnPeekIgnoresInsertedWhiteSpace", spec := "fnPeekIgnoresInsertedWhiteSpace", stops := ["fmt.Sprintf", "fmt.errorf"], inPlace := ["fmt.errorf", "fmt.Sprintf"], apart := false }
/-- NO THEOREM (fmt's text is open here; it may be false): for the released tool's asking of the row's closed facts alone. THE STATEMENT IS 'FnPeekIgnoresInsertedWhiteSpaceToldSaid' (Qxb6629160aFmtCards.lean). -/
def FnPeekIgnoresInsertedWhiteSpaceFormAsk : Prop := fnPeekIgnoresInsertedWhiteSpaceRow.holds Tryf.pinned (OpenSpec.ofChange fnPeekIgnoresInsertedWhiteSpaceSpec)

/-- ITS FALSE NEIGHBOUR: 'it returns false'. Refute it at one input. -/
def fnPeekIgnoresInsertedWhiteSpaceWrong : ChangeSpec := { name := "fnPeekIgnoresInsertedWhiteSpace", fn := fun _ => fun
  | [d1, d2, d3, d4, d5, d6] => { results := [.lit (.bool false)], args := [d1, d2, d3, d4, d5, d6] }
  | _ => none }
def FnPeekIgnoresInsertedWhiteSpaceWrongFormAsk : Prop := fnPeekIgnoresInsertedWhiteSpaceRow.holds Tryf.pinned (OpenSpec.ofChange fnPeekIgnoresInsertedWhiteSpaceWrong)

/-- 'zzlaws_internal_jsonread_b1.FnPeekTwiceAnswersSameAndRefusesExactly': WHATEVER THE INPUT: true; the input reads as it did. -/
def fnPeekTwiceAnswersSameAndRefusesExactlySpec : ChangeSpec := { name := "fnPeekTwiceAnswersSameAndRefusesExactly", fn := fun _ => fun
  | [d1, d2, d3, d4, d5] => { results := [.lit (.bool true)], args := [d1, d2, d3, d4, d5] }
  | _ => none }
def fnPeekTwiceAnswersSameAndRefusesExactlyRow : OpenClaim := { program := "qxb6629160afmt", sum := "5466562fe16ed437bfd393024c1df167bf6760c25b4155856b6ec6d30ffa7206", func := "example.com/cochero/cochero/zzlaws_internal_jsonread_b1.FnPeekTwiceAnswersSameAndRefusesExactly", spec := "fnPeekTwiceAnswersSameAndRefusesExactly", stops := ["fmt.Sprintf", "fmt.errorf"], inPlace := ["fmt.errorf", "fmt.Sprintf"], apart := false }
/-- NO THEOREM (fmt's text is open here; it may be false): for the released tool's asking of the row's closed facts alone. THE STATEMENT IS 'FnPeekTwiceAnswersSameAndRefusesExactlyToldSaid' (Qxb6629160aFmtCards.lean). -/
def FnPeekTwiceAnswersSameAndRefusesExactlyFormAsk : Prop := fnPeekTwiceAnswersSameAndRefusesExactlyRow.holds Tryf.pinned (OpenSpec.ofChange fnPeekTwiceAnswersSameAndRefusesExactlySpec)

/-- ITS FALSE NEIGHBOUR: 'it returns false'. Refute it at one input. -/
def fnPeekTwiceAnswersSameAndRefusesExactlyWrong : ChangeSpec := { name := "fnPeekTwiceAnswersSameAndRefusesExactly", fn := fun _ => fun
  | [d1, d2, d3, d4, d5] => { results := [.lit (.bool false)], args := [d1, d2, d3, d4, d5] }
  | _ => none }
def FnPeekTwiceAnswersSameAndRefusesExactlyWrongFormAsk : Prop := fnPeekTwiceAnswersSameAndRefusesExactlyRow.holds Tryf.pinned (OpenSpec.ofChange fnPeekTwiceAnswersSameAndRefusesExactlyWrong)

end Rows
end Go.Proofs.Qxb6629160aFmt
