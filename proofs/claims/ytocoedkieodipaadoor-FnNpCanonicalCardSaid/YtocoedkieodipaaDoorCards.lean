/-
  DERIVED. GIVEN WITH THE SEED: THE CARDS: each row of YtocoedkieodipaaDoorRows.lean that lists a variable, with what it lists TIED to the program's text (the seventh form; the later family's looks); each row that meets fmt, with fmt's text TOLD by the authors' own Lean function (tested against real Go, not proved from fmt's source: count such statements apart). THE CARD IS WHAT COUNTS. Prove the row's statement (the work); the ties are given (YtocoedkieodipaaDoorTie.lean); close each card by the builder's one call (the guide's Derived/Test/ToyasCard.lean, 'card_holds'). Laid BY PROGRAM, IN A SANDBOX (cutbox-door.mjs). By AI agents, Wed Nov 11 2026. No macro, syntax, notation, axiom, sorry.
-/
import Derived.Test.YtocoedkieodipaaDoorRows
import GoSem.ClaimSeven
namespace Go.Proofs.YtocoedkieodipaaDoor
namespace Rows

/-- THE TIED CARD OF 'laws.FnNpCanonical'. -/
def fnNpCanonicalCard : Claim7 := { stood := { row := fnNpCanonicalRow, standIns := [], harness := (true, "0c1d8dcfc1a427f994ece0b30085fe3bafded99c46994031ad1a5cbefcecd06f"), looks := false }, kinds := [], alts := [], laidByText := true, laidKinds := [.sentinel], laidTests := true, laidLooks := .later }
def FnNpCanonicalCardSaid : Prop := Claim7.holds Tryd.pinned (.plain (OpenSpec.ofChange fnNpCanonicalSpec)) fnNpCanonicalCard

/-- THE SECOND FORM's CARD OF 'laws.FnNpCanonical'. -/
def fnNpCanonicalUptoCard : Claim7 := { stood := { row := fnNpCanonicalUptoRow, standIns := [], harness := (true, "0c1d8dcfc1a427f994ece0b30085fe3bafded99c46994031ad1a5cbefcecd06f"), looks := false }, kinds := [], alts := [], laidByText := true, laidKinds := [.sentinel], laidTests := true, laidLooks := .later }
def FnNpCanonicalUptoCardSaid : Prop := Claim7.holds Tryd.pinned (.plain (OpenSpec.upto fnNpCanonicalSpec)) fnNpCanonicalUptoCard
end Rows
end Go.Proofs.YtocoedkieodipaaDoor
