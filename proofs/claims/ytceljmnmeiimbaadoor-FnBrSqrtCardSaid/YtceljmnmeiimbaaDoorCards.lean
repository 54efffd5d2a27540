/-
  DERIVED. GIVEN WITH THE SEED: THE CARDS: each row of YtceljmnmeiimbaaDoorRows.lean that lists a variable, with what it lists TIED to the program's text (the seventh form; the later family's looks); each row that meets fmt, with fmt's text TOLD by the authors' own Lean function (tested against real Go, not proved from fmt's source: count such statements apart). THE CARD IS WHAT COUNTS. Prove the row's statement (the work); the ties are given (YtceljmnmeiimbaaDoorTie.lean); close each card by the builder's one call (the guide's Derived/Test/ToyasCard.lean, 'card_holds'). Laid BY PROGRAM, IN A SANDBOX (cutbox-door.mjs). By AI agents, Wed Nov 11 2026. No macro, syntax, notation, axiom, sorry.
-/
import Derived.Test.YtceljmnmeiimbaaDoorRows
import GoSem.ClaimSeven
namespace Go.Proofs.YtceljmnmeiimbaaDoor
namespace Rows

/-- THE TIED CARD OF 'laws.FnBrSqrt'. -/
def fnBrSqrtCard : Claim7 := { stood := { row := fnBrSqrtRow, standIns := [], harness := (true, "0b346814091e6cefcb50bf74418a86d91f0575bf53e2efc0523f0a2f7aa36558"), looks := false }, kinds := [], alts := [], laidByText := true, laidKinds := [.data, .data], laidTests := true, laidLooks := .later }
def FnBrSqrtCardSaid : Prop := Claim7.holds Tryd.pinned (.plain (OpenSpec.ofChange fnBrSqrtSpec)) fnBrSqrtCard

/-- THE SECOND FORM's CARD OF 'laws.FnBrSqrt'. -/
def fnBrSqrtUptoCard : Claim7 := { stood := { row := fnBrSqrtUptoRow, standIns := [], harness := (true, "0b346814091e6cefcb50bf74418a86d91f0575bf53e2efc0523f0a2f7aa36558"), looks := false }, kinds := [], alts := [], laidByText := true, laidKinds := [.data, .data], laidTests := true, laidLooks := .later }
def FnBrSqrtUptoCardSaid : Prop := Claim7.holds Tryd.pinned (.plain (OpenSpec.upto fnBrSqrtSpec)) fnBrSqrtUptoCard
end Rows
end Go.Proofs.YtceljmnmeiimbaaDoor
