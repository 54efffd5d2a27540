/-
  DERIVED. GIVEN WITH THE SEED: THE CARDS: each row of YtnhhjhkeiplmpaaDoorRows.lean that lists a variable, with what it lists TIED to the program's text (the seventh form; the later family's looks); each row that meets fmt, with fmt's text TOLD by the authors' own Lean function (tested against real Go, not proved from fmt's source: count such statements apart). THE CARD IS WHAT COUNTS. Prove the row's statement (the work); the ties are given (YtnhhjhkeiplmpaaDoorTie.lean); close each card by the builder's one call (the guide's Derived/Test/ToyasCard.lean, 'card_holds'). Laid BY PROGRAM, IN A SANDBOX (cutbox-door.mjs). By AI agents, Wed Nov 11 2026. No macro, syntax, notation, axiom, sorry.
-/
import Derived.Test.YtnhhjhkeiplmpaaDoorRows
import GoSem.ClaimSeven
namespace Go.Proofs.YtnhhjhkeiplmpaaDoor
namespace Rows

/-- THE TIED CARD OF 'laws.FnNrCanonical'. -/
def fnNrCanonicalCard : Claim7 := { stood := { row := fnNrCanonicalRow, standIns := [], harness := (true, "3b5a3590ade5d25267d206cea97e6f8551ea0460ce16e4800a459a35dfab4336"), looks := false }, kinds := [], alts := [], laidByText := true, laidKinds := [.sentinel], laidTests := true, laidLooks := .later }
def FnNrCanonicalCardSaid : Prop := Claim7.holds Tryd.pinned (.plain (OpenSpec.ofChange fnNrCanonicalSpec)) fnNrCanonicalCard

/-- THE SECOND FORM's CARD OF 'laws.FnNrCanonical'. -/
def fnNrCanonicalUptoCard : Claim7 := { stood := { row := fnNrCanonicalUptoRow, standIns := [], harness := (true, "3b5a3590ade5d25267d206cea97e6f8551ea0460ce16e4800a459a35dfab4336"), looks := false }, kinds := [], alts := [], laidByText := true, laidKinds := [.sentinel], laidTests := true, laidLooks := .later }
def FnNrCanonicalUptoCardSaid : Prop := Claim7.holds Tryd.pinned (.plain (OpenSpec.upto fnNrCanonicalSpec)) fnNrCanonicalUptoCard
end Rows
end Go.Proofs.YtnhhjhkeiplmpaaDoor
