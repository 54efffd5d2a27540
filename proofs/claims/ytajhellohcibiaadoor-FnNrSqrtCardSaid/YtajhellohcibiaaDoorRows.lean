/-
  NARROWER THAN 'FOR EVERY INPUT', by the rows' own cells (each row's printed sentence says how): FnNrSqrt: laid.
  DERIVED. THE GIVEN ROWS OF THIS SEAT. 1 by the template 'for every input the law returns true; each argument reads behind the call as it read before'; 0 by the template 'total and deterministic' (their statements: YtajhellohcibiaaDoorTotals.lean).
  GIVEN WITH THE SEED: the statements are not yours to turn. If you find one false, say at which input.
  Laid BY PROGRAM, IN A SANDBOX (cutbox-rows.mjs): the forced cells as the released guide's own fill.sh prints them over the translation 37d7d3f506aa1aa8… (all of the seat's roots in one cut). By AI agents, Wed Nov 11 2026. No macro, syntax, notation, axiom, sorry.
-/
import Derived.Test.YtajhellohcibiaaDoorChecked
import GoSem.Claim
import GoSem.ClaimJoined
import GoSem.ClaimMapViews
import Derived.JoinedTies
import Derived.KernelRfl
namespace Go.Proofs.YtajhellohcibiaaDoor
/- THE CELL 'sum', in the pinned program and in every row, IS THE sha256 OF THE DUMP (.gsa) THAT YtajhellohcibiaaDoorProg.lean LOADS. Nothing in Lean hashes anything: it is a label: what it is worth is what the hold of that sum in a sandbox is worth. -/
noncomputable def Tryd.pinned : Pinned := { name := "ytajhellohcibiaadoor", sum := "37d7d3f506aa1aa839ed4e7a0692c004025a2a852f56ad65b5f4d00bd3ec96a6", checked := Tryd.checked }
namespace Rows
def none {H : Type} : Left H := { results := [], args := [] }

/- WHAT THE LISTED PACKAGE-LEVEL VARIABLES READ AS WHEN THE CALL BEGINS. Each datum BY PROGRAM (the guide's laid-datum.mjs) off the statement by which the dump's own 'gosem.cut.vars' lays the variable. In a bare row this is a premise. The card (YtajhellohcibiaaDoorCards.lean) ties it to the program's text. -/
def laid_loop_example_pub_g03342_pub_gnarkcrypto_ecc_bn254_fr_sarkarL {H : Type} : DataW H := .agg [.lit (.int .u64 5), .lit (.int .u64 5), .lit (.int .u64 5), .lit (.int .u64 6), .lit (.int .u64 6)]
def laid_loop_example_pub_g03342_pub_gnarkcrypto_ecc_bn254_fr_sarkarG {H : Type} : DataW H := .agg [.lit (.int .u64 7164790868263648668), .lit (.int .u64 11685701338293206998), .lit (.int .u64 6216421865291908056), .lit (.int .u64 1756667274303109607)]

/-- 'laws.FnNrSqrt': WHATEVER THE INPUT: true; the input reads as it did. -/
def fnNrSqrtSpec : ChangeSpec := { name := "fnNrSqrt", vars := ["loop.example/pub-g03342/pub/gnarkcrypto/ecc/bn254/fr.sarkarL", "loop.example/pub-g03342/pub/gnarkcrypto/ecc/bn254/fr.sarkarG"], fn := fun _ => fun
  | [d, g1, g2] => { results := [.lit (.bool true)], args := [d], vars := [g1, g2] }
  | _ => none }
def fnNrSqrtRow : OpenClaim := { program := "ytajhellohcibiaadoor", sum := "37d7d3f506aa1aa839ed4e7a0692c004025a2a852f56ad65b5f4d00bd3ec96a6", func := "loop.example/pub-g03342/laws.FnNrSqrt", spec := "fnNrSqrt", inPlace := ["math/bits.Add64", "math/bits.Sub64"], named := ["loop.example/pub-g03342/pub/gnarkcrypto/ecc/bn254/fr.sarkarL", "loop.example/pub-g03342/pub/gnarkcrypto/ecc/bn254/fr.sarkarG"], apart := false, laid := [("loop.example/pub-g03342/pub/gnarkcrypto/ecc/bn254/fr.sarkarL", laid_loop_example_pub_g03342_pub_gnarkcrypto_ecc_bn254_fr_sarkarL), ("loop.example/pub-g03342/pub/gnarkcrypto/ecc/bn254/fr.sarkarG", laid_loop_example_pub_g03342_pub_gnarkcrypto_ecc_bn254_fr_sarkarG)] }
def FnNrSqrtSaid : Prop := fnNrSqrtRow.holds Tryd.pinned (OpenSpec.ofChange fnNrSqrtSpec)

/-- ITS FALSE NEIGHBOUR: 'it returns false'. Refute it at one input. -/
def fnNrSqrtWrong : ChangeSpec := { name := "fnNrSqrt", vars := ["loop.example/pub-g03342/pub/gnarkcrypto/ecc/bn254/fr.sarkarL", "loop.example/pub-g03342/pub/gnarkcrypto/ecc/bn254/fr.sarkarG"], fn := fun _ => fun
  | [d, g1, g2] => { results := [.lit (.bool false)], args := [d], vars := [g1, g2] }
  | _ => none }
def FnNrSqrtWrongFalsely : Prop := fnNrSqrtRow.holds Tryd.pinned (OpenSpec.ofChange fnNrSqrtWrong)

/- THE SECOND FORM. 'bulk': how many values and letters a reading holds, each counted each time it is reached (what is shared counts as often as it is met; a slice's spare places count too). A statement '..UptoSaid' is the law's where the arguments, and the package variables that the reading takes, are together of bulk at most 1048576: NARROWER than '..Said'. Prove '..Said' where nothing that the law and all that it calls make is longer than what came in: it says more and counts as full. Else prove '..UptoSaid'. A law counts once. -/
mutual
def uptoBulk {H : Type} : DataW H → Nat
  | .lit (.string bytes) => bytes.length + 1
  | .lit _ => 1
  | .nil => 1
  | .ptr d => uptoBulk d + 1
  | .slice elems spare => uptoBulkAll elems + uptoBulkAll spare + 1
  | .agg parts => uptoBulkAll parts + 1
  | .iface _ d => uptoBulk d + 1
  | .map entries => uptoBulkEntries entries + 1
  | .held _ => 1
def uptoBulkAll {H : Type} : List (DataW H) → Nat
  | [] => 0
  | d :: r => uptoBulk d + uptoBulkAll r
def uptoBulkEntries {H : Type} : List (Lit × DataW H) → Nat
  | [] => 0
  | x :: r => uptoBulkEntry x + uptoBulkEntries r
def uptoBulkEntry {H : Type} : Lit × DataW H → Nat
  | (.string bytes, d) => bytes.length + uptoBulk d + 1
  | (_, d) => uptoBulk d + 1
 end
def uptoSmall : (H : Type) → List (DataW H) → Bool := fun _ ds => decide (uptoBulkAll ds ≤ 1048576)
def OpenSpec.upto (s : _root_.Go.ChangeSpec) : _root_.Go.OpenSpec := { _root_.Go.OpenSpec.ofChange s with cond := some uptoSmall }

/-- 'laws.FnNrSqrt', WHERE WHAT IT READS IS OF BULK AT MOST 1048576: true; the input reads as it did. -/
def fnNrSqrtUptoRow : OpenClaim := { program := "ytajhellohcibiaadoor", sum := "37d7d3f506aa1aa839ed4e7a0692c004025a2a852f56ad65b5f4d00bd3ec96a6", func := "loop.example/pub-g03342/laws.FnNrSqrt", spec := "fnNrSqrt", inPlace := ["math/bits.Add64", "math/bits.Sub64"], named := ["loop.example/pub-g03342/pub/gnarkcrypto/ecc/bn254/fr.sarkarL", "loop.example/pub-g03342/pub/gnarkcrypto/ecc/bn254/fr.sarkarG"], apart := false, laid := [("loop.example/pub-g03342/pub/gnarkcrypto/ecc/bn254/fr.sarkarL", laid_loop_example_pub_g03342_pub_gnarkcrypto_ecc_bn254_fr_sarkarL), ("loop.example/pub-g03342/pub/gnarkcrypto/ecc/bn254/fr.sarkarG", laid_loop_example_pub_g03342_pub_gnarkcrypto_ecc_bn254_fr_sarkarG)], narrowed := true }
def FnNrSqrtUptoSaid : Prop := fnNrSqrtUptoRow.holds Tryd.pinned (OpenSpec.upto fnNrSqrtSpec)

end Rows
end Go.Proofs.YtajhellohcibiaaDoor
