/-
  DERIVED. GIVEN WITH THE SEED: THE CARDS: each row of YtajhellohcibiaaDoorRows.lean that lists a variable, with what it lists TIED to the program's text (the seventh form; the later family's looks); each row that meets fmt, with fmt's text TOLD by the authors' own Lean function (tested against real Go, not proved from fmt's source: count such statements apart). THE CARD IS WHAT COUNTS. Prove the row's statement (the work); the ties are given (YtajhellohcibiaaDoorTie.lean); close each card by the builder's one call (the guide's Derived/Test/ToyasCard.lean, 'card_holds'). Laid BY PROGRAM, IN A SANDBOX (cutbox-door.mjs). By AI agents, Wed Nov 11 2026. No macro, syntax, notation, axiom, sorry.
-/
import Derived.Test.YtajhellohcibiaaDoorRows
import GoSem.ClaimSeven
namespace Go.Proofs.YtajhellohcibiaaDoor
namespace Rows

/-- THE TIED CARD OF 'laws.FnNrSqrt'. -/
def fnNrSqrtCard : Claim7 := { stood := { row := fnNrSqrtRow, standIns := [], harness := (true, "5ae40d92ddcca4d0f564044a529c408249b8dd70aa0568bdcdd971ab1b6c31d0"), looks := false }, kinds := [], alts := [], laidByText := true, laidKinds := [.data, .data], laidTests := true, laidLooks := .later }
def FnNrSqrtCardSaid : Prop := Claim7.holds Tryd.pinned (.plain (OpenSpec.ofChange fnNrSqrtSpec)) fnNrSqrtCard

/-- THE SECOND FORM's CARD OF 'laws.FnNrSqrt'. -/
def fnNrSqrtUptoCard : Claim7 := { stood := { row := fnNrSqrtUptoRow, standIns := [], harness := (true, "5ae40d92ddcca4d0f564044a529c408249b8dd70aa0568bdcdd971ab1b6c31d0"), looks := false }, kinds := [], alts := [], laidByText := true, laidKinds := [.data, .data], laidTests := true, laidLooks := .later }
def FnNrSqrtUptoCardSaid : Prop := Claim7.holds Tryd.pinned (.plain (OpenSpec.upto fnNrSqrtSpec)) fnNrSqrtUptoCard
end Rows
end Go.Proofs.YtajhellohcibiaaDoor
