/-
  NARROWER THAN 'FOR EVERY INPUT', by the rows' own cells (each row's printed sentence says how): FnNrCanonical: ifaces, laid.
  DERIVED. THE GIVEN ROWS OF THIS SEAT. 1 by the template 'for every input the law returns true; each argument reads behind the call as it read before'; 0 by the template 'total and deterministic' (their statements: YtnhhjhkeiplmpaaDoorTotals.lean).
  GIVEN WITH THE SEED: the statements are not yours to turn. If you find one false, say at which input.
  Laid BY PROGRAM, IN A SANDBOX (cutbox-rows.mjs): the forced cells as the released guide's own fill.sh prints them over the translation aa19c35e924e37e3… (all of the seat's roots in one cut). By AI agents, Wed Nov 11 2026. No macro, syntax, notation, axiom, sorry.
-/
import Derived.Test.YtnhhjhkeiplmpaaDoorChecked
import GoSem.Claim
import GoSem.ClaimJoined
import GoSem.ClaimMapViews
import Derived.JoinedTies
import Derived.KernelRfl
namespace Go.Proofs.YtnhhjhkeiplmpaaDoor
/- THE CELL 'sum', in the pinned program and in every row, IS THE sha256 OF THE DUMP (.gsa) THAT YtnhhjhkeiplmpaaDoorProg.lean LOADS. Nothing in Lean hashes anything: it is a label: what it is worth is what the hold of that sum in a sandbox is worth. -/
noncomputable def Tryd.pinned : Pinned := { name := "ytnhhjhkeiplmpaadoor", sum := "aa19c35e924e37e3682aa0e99f6d1bc79de34b71080674ad1b3b31aadb3879af", checked := Tryd.checked }
namespace Rows
def none {H : Type} : Left H := { results := [], args := [] }

/- WHAT THE LISTED PACKAGE-LEVEL VARIABLES READ AS WHEN THE CALL BEGINS. Each datum BY PROGRAM (the guide's laid-datum.mjs) off the statement by which the dump's own 'gosem.cut.vars' lays the variable. In a bare row this is a premise. The card (YtnhhjhkeiplmpaaDoorCards.lean) ties it to the program's text. -/
def laid_loop_example_pub_g03342_pub_gnarkcrypto_ecc_bn254_fr_errInvalidEncoding {H : Type} : DataW H := .iface "*errors.errorString" (.ptr (.agg [.lit (.string [105, 110, 118, 97, 108, 105, 100, 32, 102, 114, 46, 69, 108, 101, 109, 101, 110, 116, 32, 101, 110, 99, 111, 100, 105, 110, 103])]))

/-- 'laws.FnNrCanonical': WHATEVER THE INPUT: true; the input reads as it did. -/
def fnNrCanonicalSpec : ChangeSpec := { name := "fnNrCanonical", vars := ["loop.example/pub-g03342/pub/gnarkcrypto/ecc/bn254/fr.errInvalidEncoding"], fn := fun _ => fun
  | [d, g1] => { results := [.lit (.bool true)], args := [d], vars := [g1] }
  | _ => none }
def fnNrCanonicalRow : OpenClaim := { program := "ytnhhjhkeiplmpaadoor", sum := "aa19c35e924e37e3682aa0e99f6d1bc79de34b71080674ad1b3b31aadb3879af", func := "loop.example/pub-g03342/laws.FnNrCanonical", spec := "fnNrCanonical", inPlace := ["math/bits.Add64", "math/bits.Sub64"], named := ["loop.example/pub-g03342/pub/gnarkcrypto/ecc/bn254/fr.errInvalidEncoding"], ifaces := true, apart := false, laid := [("loop.example/pub-g03342/pub/gnarkcrypto/ecc/bn254/fr.errInvalidEncoding", laid_loop_example_pub_g03342_pub_gnarkcrypto_ecc_bn254_fr_errInvalidEncoding)] }
def FnNrCanonicalSaid : Prop := fnNrCanonicalRow.holds Tryd.pinned (OpenSpec.ofChange fnNrCanonicalSpec)

/-- ITS FALSE NEIGHBOUR: 'it returns false'. Refute it at one input. -/
def fnNrCanonicalWrong : ChangeSpec := { name := "fnNrCanonical", vars := ["loop.example/pub-g03342/pub/gnarkcrypto/ecc/bn254/fr.errInvalidEncoding"], fn := fun _ => fun
  | [d, g1] => { results := [.lit (.bool false)], args := [d], vars := [g1] }
  | _ => none }
def FnNrCanonicalWrongFalsely : Prop := fnNrCanonicalRow.holds Tryd.pinned (OpenSpec.ofChange fnNrCanonicalWrong)

/- THE SECOND FORM. 'bulk': how many values and letters a reading holds, each counted each time it is reached (what is shared counts as often as it is met; a slice's spare places count too). A statement '..UptoSaid' is the law's where the arguments, and the package variables that the reading takes, are together of bulk at most 1048576: NARROWER than '..Said'. Prove '..Said' where nothing that the law and all that it calls make is longer than what came in: it says more and counts as full. Else prove '..UptoSaid'. A law counts once. -/
mutual
def uptoBulk {H : Type} : DataW H → Nat
  | .lit (.string bytes) => bytes.length + 1
  | .lit _ => 1
  | .nil => 1
  | .ptr d => uptoBulk d + 1
  | .slice elems spare => uptoBulkAll elems + uptoBulkAll spare + 1
  | .agg parts => uptoBulkAll parts + 1
  | .iface _ d => uptoBulk d + 1
  | .map entries => uptoBulkEntries entries + 1
  | .held _ => 1
def uptoBulkAll {H : Type} : List (DataW H) → Nat
  | [] => 0
  | d :: r => uptoBulk d + uptoBulkAll r
def uptoBulkEntries {H : Type} : List (Lit × DataW H) → Nat
  | [] => 0
  | x :: r => uptoBulkEntry x + uptoBulkEntries r
def uptoBulkEntry {H : Type} : Lit × DataW H → Nat
  | (.string bytes, d) => bytes.length + uptoBulk d + 1
  | (_, d) => uptoBulk d + 1
 end
def uptoSmall : (H : Type) → List (DataW H) → Bool := fun _ ds => decide (uptoBulkAll ds ≤ 1048576)
def OpenSpec.upto (s : _root_.Go.ChangeSpec) : _root_.Go.OpenSpec := { _root_.Go.OpenSpec.ofChange s with cond := some uptoSmall }

/-- 'laws.FnNrCanonical', WHERE WHAT IT READS IS OF BULK AT MOST 1048576: true; the input reads as it did. -/
def fnNrCanonicalUptoRow : OpenClaim := { program := "ytnhhjhkeiplmpaadoor", sum := "aa19c35e924e37e3682aa0e99f6d1bc79de34b71080674ad1b3b31aadb3879af", func := "loop.example/pub-g03342/laws.FnNrCanonical", spec := "fnNrCanonical", inPlace := ["math/bits.Add64", "math/bits.Sub64"], named := ["loop.example/pub-g03342/pub/gnarkcrypto/ecc/bn254/fr.errInvalidEncoding"], ifaces := true, apart := false, laid := [("loop.example/pub-g03342/pub/gnarkcrypto/ecc/bn254/fr.errInvalidEncoding", laid_loop_example_pub_g03342_pub_gnarkcrypto_ecc_bn254_fr_errInvalidEncoding)], narrowed := true }
def FnNrCanonicalUptoSaid : Prop := fnNrCanonicalUptoRow.holds Tryd.pinned (OpenSpec.upto fnNrCanonicalSpec)

end Rows
end Go.Proofs.YtnhhjhkeiplmpaaDoor
