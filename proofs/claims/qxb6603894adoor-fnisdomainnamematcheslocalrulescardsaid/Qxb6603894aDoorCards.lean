/-
  DERIVED. GIVEN WITH THE SEED: THE CARDS: each row of Qxb6603894aDoorRows.lean that lists a variable, with what it lists TIED to the program's text (the seventh form; the later family's looks); each row that meets fmt, with fmt's text TOLD by the authors' own Lean function (tested against real Go, not proved from fmt's source: count such statements apart). THE CARD IS WHAT COUNTS. Prove the row's statement (the work); the ties are given (Qxb6603894aDoorTie.lean); close each card by the builder's one call (the guide's Derived/Test/ToyasCard.lean, 'card_holds'). Laid BY PROGRAM, IN A SANDBOX (cutbox-door.mjs). By AI agents, Wed Nov 11 2026. No macro, syntax, notation, axiom, sorry.
-/
import Derived.Test.Qxb6603894aDoorRows
import GoSem.ClaimSeven
namespace Go.Proofs.Qxb6603894aDoor
namespace Rows

/-- THE TIED CARD OF 'zzlaws_internal_hostname_b1.FnIsDomainNameMatchesLocalRules'. -/
def fnIsDomainNameMatchesLocalRulesCard : Claim7 := { stood := { row := fnIsDomainNameMatchesLocalRulesRow, standIns := [], harness := (true, "406b02ea8f9694770e5cfdd8f24b7f436233ce5470b3e84d5c7a43ca60caea13"), looks := false }, kinds := [], alts := [], laidByText := true, laidKinds := [.data, .pinned], laidTests := true, laidLooks := .later }
def FnIsDomainNameMatchesLocalRulesCardSaid : Prop := Claim7.holds Tryd.pinned (.plain (OpenSpec.ofChange fnIsDomainNameMatchesLocalRulesSpec)) fnIsDomainNameMatchesLocalRulesCard
end Rows
end Go.Proofs.Qxb6603894aDoor
