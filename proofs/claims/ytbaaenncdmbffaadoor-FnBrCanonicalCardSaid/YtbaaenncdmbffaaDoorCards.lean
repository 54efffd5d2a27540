/-
  DERIVED. GIVEN WITH THE SEED: THE CARDS: each row of YtbaaenncdmbffaaDoorRows.lean that lists a variable, with what it lists TIED to the program's text (the seventh form; the later family's looks); each row that meets fmt, with fmt's text TOLD by the authors' own Lean function (tested against real Go, not proved from fmt's source: count such statements apart). THE CARD IS WHAT COUNTS. Prove the row's statement (the work); the ties are given (YtbaaenncdmbffaaDoorTie.lean); close each card by the builder's one call (the guide's Derived/Test/ToyasCard.lean, 'card_holds'). Laid BY PROGRAM, IN A SANDBOX (cutbox-door.mjs). By AI agents, Wed Nov 11 2026. No macro, syntax, notation, axiom, sorry.
-/
import Derived.Test.YtbaaenncdmbffaaDoorRows
import GoSem.ClaimSeven
namespace Go.Proofs.YtbaaenncdmbffaaDoor
namespace Rows

/-- THE TIED CARD OF 'laws.FnBrCanonical'. -/
def fnBrCanonicalCard : Claim7 := { stood := { row := fnBrCanonicalRow, standIns := [], harness := (true, "9a19c2901182526b450a0961e38beb87688cf901149ab21eb8d074c338e3ef6b"), looks := false }, kinds := [], alts := [], laidByText := true, laidKinds := [.sentinel], laidTests := true, laidLooks := .later }
def FnBrCanonicalCardSaid : Prop := Claim7.holds Tryd.pinned (.plain (OpenSpec.ofChange fnBrCanonicalSpec)) fnBrCanonicalCard

/-- THE SECOND FORM's CARD OF 'laws.FnBrCanonical'. -/
def fnBrCanonicalUptoCard : Claim7 := { stood := { row := fnBrCanonicalUptoRow, standIns := [], harness := (true, "9a19c2901182526b450a0961e38beb87688cf901149ab21eb8d074c338e3ef6b"), looks := false }, kinds := [], alts := [], laidByText := true, laidKinds := [.sentinel], laidTests := true, laidLooks := .later }
def FnBrCanonicalUptoCardSaid : Prop := Claim7.holds Tryd.pinned (.plain (OpenSpec.upto fnBrCanonicalSpec)) fnBrCanonicalUptoCard
end Rows
end Go.Proofs.YtbaaenncdmbffaaDoor
