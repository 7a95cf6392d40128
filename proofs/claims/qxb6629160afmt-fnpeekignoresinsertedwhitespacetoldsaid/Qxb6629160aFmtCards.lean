/-
  DERIVED. GIVEN WITH THE SEED: THE CARDS: each row of Qxb6629160aFmtRows.lean that lists a variable, with what it lists TIED to the program's text (the seventh form; the later family's looks); each row that meets fmt, with fmt's text TOLD by the authors' own Lean function (tested against real Go, not proved from fmt's source: count such statements apart). THE CARD IS WHAT COUNTS. Prove the row's statement (the work); the ties are given (Qxb6629160aFmtTie.lean); close each card by the builder's one call (the guide's Derived/Test/ToyasCard.lean, 'card_holds'). Laid BY PROGRAM, IN A SANDBOX (cutbox-door.mjs). By AI agents, Wed Nov 11 2026. No macro, syntax, notation, axiom, sorry.
-/
import Derived.Test.Qxb6629160aFmtRows
import GoSem.ClaimSeven
namespace Go.Proofs.Qxb6629160aFmt
namespace Rows

/-- THE TOLD CARD OF 'zzlaws_internal_jsonread_b1.FnPeekIgnoresInsertedWhiteSpace'. -/
def fnPeekIgnoresInsertedWhiteSpaceCard : Claim7 := { stood := { row := fnPeekIgnoresInsertedWhiteSpaceRow, standIns := [], harness := (true, "9b9576adf35fec913613eb402d38213f6135e58fbdf7b9542cbf3630dd54112b"), looks := false }, told := true, goes := false }
def FnPeekIgnoresInsertedWhiteSpaceToldSaid : Prop := Claim7.holds Tryf.pinned (.plain (OpenSpec.ofChange fnPeekIgnoresInsertedWhiteSpaceSpec)) fnPeekIgnoresInsertedWhiteSpaceCard
/-- ITS FALSE NEIGHBOUR. Refute it at one input. -/
def FnPeekIgnoresInsertedWhiteSpaceToldWrongFalsely : Prop := Claim7.holds Tryf.pinned (.plain (OpenSpec.ofChange fnPeekIgnoresInsertedWhiteSpaceWrong)) fnPeekIgnoresInsertedWhiteSpaceCard

/-- THE TOLD CARD OF 'zzlaws_internal_jsonread_b1.FnPeekTwiceAnswersSameAndRefusesExactly'. -/
def fnPeekTwiceAnswersSameAndRefusesExactlyCard : Claim7 := { stood := { row := fnPeekTwiceAnswersSameAndRefusesExactlyRow, standIns := [], harness := (true, "9b9576adf35fec913613eb402d38213f6135e58fbdf7b9542cbf3630dd54112b"), looks := false }, told := true, goes := false }
def FnPeekTwiceAnswersSameAndRefusesExactlyToldSaid : Prop := Claim7.holds Tryf.pinned (.plain (OpenSpec.ofChange fnPeekTwiceAnswersSameAndRefusesExactlySpec)) fnPeekTwiceAnswersSameAndRefusesExactlyCard
/-- ITS FALSE NEIGHBOUR. Refute it at one input. -/
def FnPeekTwiceAnswersSameAndRefusesExactlyToldWrongFalsely : Prop := Claim7.holds Tryf.pinned (.plain (OpenSpec.ofChange fnPeekTwiceAnswersSameAndRefusesExactlyWrong)) fnPeekTwiceAnswersSameAndRefusesExactlyCard
end Rows
end Go.Proofs.Qxb6629160aFmt
