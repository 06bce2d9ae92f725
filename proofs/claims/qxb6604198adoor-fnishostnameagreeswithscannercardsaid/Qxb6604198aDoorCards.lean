/-
  DERIVED. GIVEN WITH THE SEED: THE CARDS: each row of Qxb6604198aDoorRows.lean that lists a variable, with what it lists TIED to the program's text (the seventh form; the later family's looks); each row that meets fmt, with fmt's text TOLD by the authors' own Lean function (tested against real Go, not proved from fmt's source: count such statements apart). THE CARD IS WHAT COUNTS. Prove the row's statement (the work); the ties are given (Qxb6604198aDoorTie.lean); close each card by the builder's one call (the guide's Derived/Test/ToyasCard.lean, 'card_holds'). Laid BY PROGRAM, IN A SANDBOX (cutbox-door.mjs). By AI agents, Wed Nov 11 2026. No macro, syntax, notation, axiom, sorry.
-/
import Derived.Test.Qxb6604198aDoorRows
import GoSem.ClaimSeven
namespace Go.Proofs.Qxb6604198aDoor
namespace Rows

/-- THE TIED CARD OF 'zzlaws_pkg_wire_b1.FnIsHostNameAgreesWithScanner'. -/
def fnIsHostNameAgreesWithScannerCard : Claim7 := { stood := { row := fnIsHostNameAgreesWithScannerRow, standIns := [], harness := (true, "ab67aa628bffe212f00e9bfd9bda44b32757d2ae2952887e1c2accf56e6d02ee"), looks := false }, kinds := [], alts := [], laidByText := true, laidKinds := [.data, .pinned], laidTests := true, laidLooks := .later }
def FnIsHostNameAgreesWithScannerCardSaid : Prop := Claim7.holds Tryd.pinned (.plain (OpenSpec.ofChange fnIsHostNameAgreesWithScannerSpec)) fnIsHostNameAgreesWithScannerCard
end Rows
end Go.Proofs.Qxb6604198aDoor
