/-
  DERIVED. GIVEN WITH THE SEED: THE CARDS: each row of Qxb6603897aDoorRows.lean that lists a variable, with what it lists TIED to the program's text (the seventh form; the later family's looks); each row that meets fmt, with fmt's text TOLD by the authors' own Lean function (tested against real Go, not proved from fmt's source: count such statements apart). THE CARD IS WHAT COUNTS. Prove the row's statement (the work); the ties are given (Qxb6603897aDoorTie.lean); close each card by the builder's one call (the guide's Derived/Test/ToyasCard.lean, 'card_holds'). Laid BY PROGRAM, IN A SANDBOX (cutbox-door.mjs). By AI agents, Wed Nov 11 2026. No macro, syntax, notation, axiom, sorry.
-/
import Derived.Test.Qxb6603897aDoorRows
import GoSem.ClaimSeven
namespace Go.Proofs.Qxb6603897aDoor
namespace Rows

/-- THE TIED CARD OF 'zzlaws_question_b1.FnSpanWholeNumbersInDigits'. -/
def fnSpanWholeNumbersInDigitsCard : Claim7 := { stood := { row := fnSpanWholeNumbersInDigitsRow, standIns := [], harness := (true, "3684d02d71cd0ab3ad02dfa8324638233740646363a4ae0a2da7992f505f69fc"), looks := false }, kinds := [], alts := [], laidByText := true, laidKinds := [.data, .data, .data, .data, .pinned, .pinned], laidTests := true, laidLooks := .later }
def FnSpanWholeNumbersInDigitsCardSaid : Prop := Claim7.holds Tryd.pinned (.plain (OpenSpec.ofChange fnSpanWholeNumbersInDigitsSpec)) fnSpanWholeNumbersInDigitsCard

/-- THE TIED CARD OF 'zzlaws_question_b1.FnOfEndsInUnit'. -/
def fnOfEndsInUnitCard : Claim7 := { stood := { row := fnOfEndsInUnitRow, standIns := [], harness := (true, "3684d02d71cd0ab3ad02dfa8324638233740646363a4ae0a2da7992f505f69fc"), looks := false }, kinds := [], alts := [], laidByText := true, laidKinds := [.data, .data, .data, .data, .pinned, .pinned], laidTests := true, laidLooks := .later }
def FnOfEndsInUnitCardSaid : Prop := Claim7.holds Tryd.pinned (.plain (OpenSpec.ofChange fnOfEndsInUnitSpec)) fnOfEndsInUnitCard
end Rows
end Go.Proofs.Qxb6603897aDoor
