/-
  NARROWER THAN 'FOR EVERY INPUT', by the rows' own cells (each row's printed sentence says how): FnNpCanonical: ifaces, laid.
  DERIVED. THE GIVEN ROWS OF THIS SEAT. 1 by the template 'for every input the law returns true; each argument reads behind the call as it read before'; 0 by the template 'total and deterministic' (their statements: YtocoedkieodipaaDoorTotals.lean).
  GIVEN WITH THE SEED: the statements are not yours to turn. If you find one false, say at which input.
  Laid BY PROGRAM, IN A SANDBOX (cutbox-rows.mjs): the forced cells as the released guide's own fill.sh prints them over the translation 8fd27c7aae4ace1d… (all of the seat's roots in one cut). By AI agents, Wed Nov 11 2026. No macro, syntax, notation, axiom, sorry.
-/
import Derived.Test.YtocoedkieodipaaDoorChecked
import GoSem.Claim
import GoSem.ClaimJoined
import GoSem.ClaimMapViews
import Derived.JoinedTies
import Derived.KernelRfl
namespace Go.Proofs.YtocoedkieodipaaDoor
/- THE CELL 'sum', in the pinned program and in every row, IS THE sha256 OF THE DUMP (.gsa) THAT YtocoedkieodipaaDoorProg.lean LOADS. Nothing in Lean hashes anything: it is a label: what it is worth is what the hold of that sum in a sandbox is worth. -/
noncomputable def Tryd.pinned : Pinned := { name := "ytocoedkieodipaadoor", sum := "8fd27c7aae4ace1d0baa17300c35bb1488a3e7753fc91c818ae8a5c6c1801564", checked := Tryd.checked }
namespace Rows
def none {H : Type} : Left H := { results := [], args := [] }

/- WHAT THE LISTED PACKAGE-LEVEL VARIABLES READ AS WHEN THE CALL BEGINS. Each datum BY PROGRAM (the guide's laid-datum.mjs) off the statement by which the dump's own 'gosem.cut.vars' lays the variable. In a bare row this is a premise. The card (YtocoedkieodipaaDoorCards.lean) ties it to the program's text. -/
def laid_loop_example_pub_g03342_pub_gnarkcrypto_ecc_bn254_fp_errInvalidEncoding {H : Type} : DataW H := .iface "*errors.errorString" (.ptr (.agg [.lit (.string [105, 110, 118, 97, 108, 105, 100, 32, 102, 112, 46, 69, 108, 101, 109, 101, 110, 116, 32, 101, 110, 99, 111, 100, 105, 110, 103])]))

/-- 'laws.FnNpCanonical': WHATEVER THE INPUT: true; the input reads as it did. -/
def fnNpCanonicalSpec : ChangeSpec := { name := "fnNpCanonical", vars := ["loop.example/pub-g03342/pub/gnarkcrypto/ecc/bn254/fp.errInvalidEncoding"], fn := fun _ => fun
  | [d, g1] => { results := [.lit (.bool true)], args := [d], vars := [g1] }
  | _ => none }
def fnNpCanonicalRow : OpenClaim := { program := "ytocoedkieodipaadoor", sum := "8fd27c7aae4ace1d0baa17300c35bb1488a3e7753fc91c818ae8a5c6c1801564", func := "loop.example/pub-g03342/laws.FnNpCanonical", spec := "fnNpCanonical", inPlace := ["math/bits.Add64", "math/bits.Sub64"], named := ["loop.example/pub-g03342/pub/gnarkcrypto/ecc/bn254/fp.errInvalidEncoding"], ifaces := true, apart := false, laid := [("loop.example/pub-g03342/pub/gnarkcrypto/ecc/bn254/fp.errInvalidEncoding", laid_loop_example_pub_g03342_pub_gnarkcrypto_ecc_bn254_fp_errInvalidEncoding)] }
def FnNpCanonicalSaid : Prop := fnNpCanonicalRow.holds Tryd.pinned (OpenSpec.ofChange fnNpCanonicalSpec)

/-- ITS FALSE NEIGHBOUR: 'it returns false'. Refute it at one input. -/
def fnNpCanonicalWrong : ChangeSpec := { name := "fnNpCanonical", vars := ["loop.example/pub-g03342/pub/gnarkcrypto/ecc/bn254/fp.errInvalidEncoding"], fn := fun _ => fun
  | [d, g1] => { results := [.lit (.bool false)], args := [d], vars := [g1] }
  | _ => none }
def FnNpCanonicalWrongFalsely : Prop := fnNpCanonicalRow.holds Tryd.pinned (OpenSpec.ofChange fnNpCanonicalWrong)

/- THE SECOND FORM. 'bulk': how many values and letters a reading holds, each counted each time it is reached (what is shared counts as often as it is met; a slice's spare places count too). A statement '..UptoSaid' is the law's where the arguments, and the package variables that the reading takes, are together of bulk at most 1048576: NARROWER than '..Said'. Prove '..Said' where nothing that the law and all that it calls make is longer than what came in: it says more and counts as full. Else prove '..UptoSaid'. A law counts once. -/
mutual
def uptoBulk {H : Type} : DataW H → Nat
  | .lit (.string bytes) => bytes.length + 1
  | .lit _ => 1
  | .nil => 1
  | .ptr d => uptoBulk d + 1
  | .slice elems spare => uptoBulkAll elems + uptoBulkAll spare + 1
  | .agg parts => uptoBulkAll parts + 1
  | .iface _ d => uptoBulk d + 1
  | .map entries => uptoBulkEntries entries + 1
  | .held _ => 1
def uptoBulkAll {H : Type} : List (DataW H) → Nat
  | [] => 0
  | d :: r => uptoBulk d + uptoBulkAll r
def uptoBulkEntries {H : Type} : List (Lit × DataW H) → Nat
  | [] => 0
  | x :: r => uptoBulkEntry x + uptoBulkEntries r
def uptoBulkEntry {H : Type} : Lit × DataW H → Nat
  | (.string bytes, d) => bytes.length + uptoBulk d + 1
  | (_, d) => uptoBulk d + 1
 end
def uptoSmall : (H : Type) → List (DataW H) → Bool := fun _ ds => decide (uptoBulkAll ds ≤ 1048576)
def OpenSpec.upto (s : _root_.Go.ChangeSpec) : _root_.Go.OpenSpec := { _root_.Go.OpenSpec.ofChange s with cond := some uptoSmall }

/-- 'laws.FnNpCanonical', WHERE WHAT IT READS IS OF BULK AT MOST 1048576: true; the input reads as it did. -/
def fnNpCanonicalUptoRow : OpenClaim := { program := "ytocoedkieodipaadoor", sum := "8fd27c7aae4ace1d0baa17300c35bb1488a3e7753fc91c818ae8a5c6c1801564", func := "loop.example/pub-g03342/laws.FnNpCanonical", spec := "fnNpCanonical", inPlace := ["math/bits.Add64", "math/bits.Sub64"], named := ["loop.example/pub-g03342/pub/gnarkcrypto/ecc/bn254/fp.errInvalidEncoding"], ifaces := true, apart := false, laid := [("loop.example/pub-g03342/pub/gnarkcrypto/ecc/bn254/fp.errInvalidEncoding", laid_loop_example_pub_g03342_pub_gnarkcrypto_ecc_bn254_fp_errInvalidEncoding)], narrowed := true }
def FnNpCanonicalUptoSaid : Prop := fnNpCanonicalUptoRow.holds Tryd.pinned (OpenSpec.upto fnNpCanonicalSpec)

end Rows
end Go.Proofs.YtocoedkieodipaaDoor
