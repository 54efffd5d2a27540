/-
  No cell of these rows narrows 'for every input' (looked for: loops, veiled, ifaces, maps, wideKeys, modest, calm, conditions, laid).
  DERIVED. THE GIVEN ROWS OF THIS SEAT. 6 by the template 'for every input the law returns true; each argument reads behind the call as it read before'; 0 by the template 'total and deterministic' (their statements: YtjjmlliiclfpeaaTotals.lean).
  GIVEN WITH THE SEED: the statements are not yours to turn. If you find one false, say at which input.
  Laid BY PROGRAM, IN A SANDBOX (cutbox-rows.mjs): the forced cells as the released guide's own fill.sh prints them over the translation 8a5cb68a7d37909b… (all of the seat's roots in one cut). By AI agents, Wed Nov 11 2026. No macro, syntax, notation, axiom, sorry.
-/
import Derived.Test.YtjjmlliiclfpeaaChecked
import GoSem.Claim
import GoSem.ClaimJoined
import GoSem.ClaimMapViews
import Derived.JoinedTies
import Derived.KernelRfl
namespace Go.Proofs.Ytjjmlliiclfpeaa
/- THE CELL 'sum', in the pinned program and in every row, IS THE sha256 OF THE DUMP (.gsa) THAT YtjjmlliiclfpeaaProg.lean LOADS. Nothing in Lean hashes anything: it is a label: what it is worth is what the hold of that sum in a sandbox is worth. -/
noncomputable def Try.pinned : Pinned := { name := "ytjjmlliiclfpeaa", sum := "8a5cb68a7d37909b03d56e883ef09f8d115bf8a1b5fc12dad008606fc72f7a67", checked := Try.checked }
namespace Rows
def none {H : Type} : Left H := { results := [], args := [] }

/-- 'laws.FnBpEqual': WHATEVER THE INPUT: true; the input reads as it did. -/
def fnBpEqualSpec : ChangeSpec := { name := "fnBpEqual", fn := fun _ => fun
  | [d1, d2] => { results := [.lit (.bool true)], args := [d1, d2] }
  | _ => none }
def fnBpEqualRow : OpenClaim := { program := "ytjjmlliiclfpeaa", sum := "8a5cb68a7d37909b03d56e883ef09f8d115bf8a1b5fc12dad008606fc72f7a67", func := "loop.example/pub-g03342/laws.FnBpEqual", spec := "fnBpEqual", apart := false }
def FnBpEqualSaid : Prop := fnBpEqualRow.holds Try.pinned (OpenSpec.ofChange fnBpEqualSpec)

/-- ITS FALSE NEIGHBOUR: 'it returns false'. Refute it at one input. -/
def fnBpEqualWrong : ChangeSpec := { name := "fnBpEqual", fn := fun _ => fun
  | [d1, d2] => { results := [.lit (.bool false)], args := [d1, d2] }
  | _ => none }
def FnBpEqualWrongFalsely : Prop := fnBpEqualRow.holds Try.pinned (OpenSpec.ofChange fnBpEqualWrong)

/-- 'laws.FnBpSub': WHATEVER THE INPUT: true; the input reads as it did. -/
def fnBpSubSpec : ChangeSpec := { name := "fnBpSub", fn := fun _ => fun
  | [d1, d2] => { results := [.lit (.bool true)], args := [d1, d2] }
  | _ => none }
def fnBpSubRow : OpenClaim := { program := "ytjjmlliiclfpeaa", sum := "8a5cb68a7d37909b03d56e883ef09f8d115bf8a1b5fc12dad008606fc72f7a67", func := "loop.example/pub-g03342/laws.FnBpSub", spec := "fnBpSub", inPlace := ["math/bits.Sub64", "math/bits.Add64"], apart := false }
def FnBpSubSaid : Prop := fnBpSubRow.holds Try.pinned (OpenSpec.ofChange fnBpSubSpec)

/-- ITS FALSE NEIGHBOUR: 'it returns false'. Refute it at one input. -/
def fnBpSubWrong : ChangeSpec := { name := "fnBpSub", fn := fun _ => fun
  | [d1, d2] => { results := [.lit (.bool false)], args := [d1, d2] }
  | _ => none }
def FnBpSubWrongFalsely : Prop := fnBpSubRow.holds Try.pinned (OpenSpec.ofChange fnBpSubWrong)

/-- 'laws.FnBpDouble': WHATEVER THE INPUT: true; the input reads as it did. -/
def fnBpDoubleSpec : ChangeSpec := { name := "fnBpDouble", fn := fun _ => fun
  | [d] => { results := [.lit (.bool true)], args := [d] }
  | _ => none }
def fnBpDoubleRow : OpenClaim := { program := "ytjjmlliiclfpeaa", sum := "8a5cb68a7d37909b03d56e883ef09f8d115bf8a1b5fc12dad008606fc72f7a67", func := "loop.example/pub-g03342/laws.FnBpDouble", spec := "fnBpDouble", inPlace := ["math/bits.Add64", "math/bits.Sub64"], apart := false }
def FnBpDoubleSaid : Prop := fnBpDoubleRow.holds Try.pinned (OpenSpec.ofChange fnBpDoubleSpec)

/-- ITS FALSE NEIGHBOUR: 'it returns false'. Refute it at one input. -/
def fnBpDoubleWrong : ChangeSpec := { name := "fnBpDouble", fn := fun _ => fun
  | [d] => { results := [.lit (.bool false)], args := [d] }
  | _ => none }
def FnBpDoubleWrongFalsely : Prop := fnBpDoubleRow.holds Try.pinned (OpenSpec.ofChange fnBpDoubleWrong)

/-- 'laws.FnBpMulBy3': WHATEVER THE INPUT: true; the input reads as it did. -/
def fnBpMulBy3Spec : ChangeSpec := { name := "fnBpMulBy3", fn := fun _ => fun
  | [d] => { results := [.lit (.bool true)], args := [d] }
  | _ => none }
def fnBpMulBy3Row : OpenClaim := { program := "ytjjmlliiclfpeaa", sum := "8a5cb68a7d37909b03d56e883ef09f8d115bf8a1b5fc12dad008606fc72f7a67", func := "loop.example/pub-g03342/laws.FnBpMulBy3", spec := "fnBpMulBy3", inPlace := ["math/bits.Add64", "math/bits.Sub64"], apart := false }
def FnBpMulBy3Said : Prop := fnBpMulBy3Row.holds Try.pinned (OpenSpec.ofChange fnBpMulBy3Spec)

/-- ITS FALSE NEIGHBOUR: 'it returns false'. Refute it at one input. -/
def fnBpMulBy3Wrong : ChangeSpec := { name := "fnBpMulBy3", fn := fun _ => fun
  | [d] => { results := [.lit (.bool false)], args := [d] }
  | _ => none }
def FnBpMulBy3WrongFalsely : Prop := fnBpMulBy3Row.holds Try.pinned (OpenSpec.ofChange fnBpMulBy3Wrong)

/-- 'laws.FnBpButterfly': WHATEVER THE INPUT: true; the input reads as it did. -/
def fnBpButterflySpec : ChangeSpec := { name := "fnBpButterfly", fn := fun _ => fun
  | [d1, d2] => { results := [.lit (.bool true)], args := [d1, d2] }
  | _ => none }
def fnBpButterflyRow : OpenClaim := { program := "ytjjmlliiclfpeaa", sum := "8a5cb68a7d37909b03d56e883ef09f8d115bf8a1b5fc12dad008606fc72f7a67", func := "loop.example/pub-g03342/laws.FnBpButterfly", spec := "fnBpButterfly", inPlace := ["math/bits.Add64", "math/bits.Sub64"], apart := false }
def FnBpButterflySaid : Prop := fnBpButterflyRow.holds Try.pinned (OpenSpec.ofChange fnBpButterflySpec)

/-- ITS FALSE NEIGHBOUR: 'it returns false'. Refute it at one input. -/
def fnBpButterflyWrong : ChangeSpec := { name := "fnBpButterfly", fn := fun _ => fun
  | [d1, d2] => { results := [.lit (.bool false)], args := [d1, d2] }
  | _ => none }
def FnBpButterflyWrongFalsely : Prop := fnBpButterflyRow.holds Try.pinned (OpenSpec.ofChange fnBpButterflyWrong)

/-- 'laws.FnBpBytes': WHATEVER THE INPUT: true; the input reads as it did. -/
def fnBpBytesSpec : ChangeSpec := { name := "fnBpBytes", fn := fun _ => fun
  | [d] => { results := [.lit (.bool true)], args := [d] }
  | _ => none }
def fnBpBytesRow : OpenClaim := { program := "ytjjmlliiclfpeaa", sum := "8a5cb68a7d37909b03d56e883ef09f8d115bf8a1b5fc12dad008606fc72f7a67", func := "loop.example/pub-g03342/laws.FnBpBytes", spec := "fnBpBytes", inPlace := ["math/bits.Add64", "math/bits.Sub64"], apart := false }
def FnBpBytesSaid : Prop := fnBpBytesRow.holds Try.pinned (OpenSpec.ofChange fnBpBytesSpec)

/-- ITS FALSE NEIGHBOUR: 'it returns false'. Refute it at one input. -/
def fnBpBytesWrong : ChangeSpec := { name := "fnBpBytes", fn := fun _ => fun
  | [d] => { results := [.lit (.bool false)], args := [d] }
  | _ => none }
def FnBpBytesWrongFalsely : Prop := fnBpBytesRow.holds Try.pinned (OpenSpec.ofChange fnBpBytesWrong)

/- THE SECOND FORM. 'bulk': how many values and letters a reading holds, each counted each time it is reached (what is shared counts as often as it is met; a slice's spare places count too). A statement '..UptoSaid' is the law's where the arguments, and the package variables that the reading takes, are together of bulk at most 1048576: NARROWER than '..Said'. Prove '..Said' where nothing that the law and all that it calls make is longer than what came in: it says more and counts as full. Else prove '..UptoSaid'. A law counts once. -/
mutual
def uptoBulk {H : Type} : DataW H → Nat
  | .lit (.string bytes) => bytes.length + 1
  | .lit _ => 1
  | .nil => 1
  | .ptr d => uptoBulk d + 1
  | .slice elems spare => uptoBulkAll elems + uptoBulkAll spare + 1
  | .agg parts => uptoBulkAll parts + 1
  | .iface _ d => uptoBulk d + 1
  | .map entries => uptoBulkEntries entries + 1
  | .held _ => 1
def uptoBulkAll {H : Type} : List (DataW H) → Nat
  | [] => 0
  | d :: r => uptoBulk d + uptoBulkAll r
def uptoBulkEntries {H : Type} : List (Lit × DataW H) → Nat
  | [] => 0
  | x :: r => uptoBulkEntry x + uptoBulkEntries r
def uptoBulkEntry {H : Type} : Lit × DataW H → Nat
  | (.string bytes, d) => bytes.length + uptoBulk d + 1
  | (_, d) => uptoBulk d + 1
 end
def uptoSmall : (H : Type) → List (DataW H) → Bool := fun _ ds => decide (uptoBulkAll ds ≤ 1048576)
def OpenSpec.upto (s : _root_.Go.ChangeSpec) : _root_.Go.OpenSpec := { _root_.Go.OpenSpec.ofChange s with cond := some uptoSmall }

/-- 'laws.FnBpEqual', WHERE WHAT IT READS IS OF BULK AT MOST 1048576: true; the input reads as it did. -/
def fnBpEqualUptoRow : OpenClaim := { program := "ytjjmlliiclfpeaa", sum := "8a5cb68a7d37909b03d56e883ef09f8d115bf8a1b5fc12dad008606fc72f7a67", func := "loop.example/pub-g03342/laws.FnBpEqual", spec := "fnBpEqual", apart := false, narrowed := true }
def FnBpEqualUptoSaid : Prop := fnBpEqualUptoRow.holds Try.pinned (OpenSpec.upto fnBpEqualSpec)

/-- 'laws.FnBpSub', WHERE WHAT IT READS IS OF BULK AT MOST 1048576: true; the input reads as it did. -/
def fnBpSubUptoRow : OpenClaim := { program := "ytjjmlliiclfpeaa", sum := "8a5cb68a7d37909b03d56e883ef09f8d115bf8a1b5fc12dad008606fc72f7a67", func := "loop.example/pub-g03342/laws.FnBpSub", spec := "fnBpSub", inPlace := ["math/bits.Sub64", "math/bits.Add64"], apart := false, narrowed := true }
def FnBpSubUptoSaid : Prop := fnBpSubUptoRow.holds Try.pinned (OpenSpec.upto fnBpSubSpec)

/-- 'laws.FnBpDouble', WHERE WHAT IT READS IS OF BULK AT MOST 1048576: true; the input reads as it did. -/
def fnBpDoubleUptoRow : OpenClaim := { program := "ytjjmlliiclfpeaa", sum := "8a5cb68a7d37909b03d56e883ef09f8d115bf8a1b5fc12dad008606fc72f7a67", func := "loop.example/pub-g03342/laws.FnBpDouble", spec := "fnBpDouble", inPlace := ["math/bits.Add64", "math/bits.Sub64"], apart := false, narrowed := true }
def FnBpDoubleUptoSaid : Prop := fnBpDoubleUptoRow.holds Try.pinned (OpenSpec.upto fnBpDoubleSpec)

/-- 'laws.FnBpMulBy3', WHERE WHAT IT READS IS OF BULK AT MOST 1048576: true; the input reads as it did. -/
def fnBpMulBy3UptoRow : OpenClaim := { program := "ytjjmlliiclfpeaa", sum := "8a5cb68a7d37909b03d56e883ef09f8d115bf8a1b5fc12dad008606fc72f7a67", func := "loop.example/pub-g03342/laws.FnBpMulBy3", spec := "fnBpMulBy3", inPlace := ["math/bits.Add64", "math/bits.Sub64"], apart := false, narrowed := true }
def FnBpMulBy3UptoSaid : Prop := fnBpMulBy3UptoRow.holds Try.pinned (OpenSpec.upto fnBpMulBy3Spec)

/-- 'laws.FnBpButterfly', WHERE WHAT IT READS IS OF BULK AT MOST 1048576: true; the input reads as it did. -/
def fnBpButterflyUptoRow : OpenClaim := { program := "ytjjmlliiclfpeaa", sum := "8a5cb68a7d37909b03d56e883ef09f8d115bf8a1b5fc12dad008606fc72f7a67", func := "loop.example/pub-g03342/laws.FnBpButterfly", spec := "fnBpButterfly", inPlace := ["math/bits.Add64", "math/bits.Sub64"], apart := false, narrowed := true }
def FnBpButterflyUptoSaid : Prop := fnBpButterflyUptoRow.holds Try.pinned (OpenSpec.upto fnBpButterflySpec)

/-- 'laws.FnBpBytes', WHERE WHAT IT READS IS OF BULK AT MOST 1048576: true; the input reads as it did. -/
def fnBpBytesUptoRow : OpenClaim := { program := "ytjjmlliiclfpeaa", sum := "8a5cb68a7d37909b03d56e883ef09f8d115bf8a1b5fc12dad008606fc72f7a67", func := "loop.example/pub-g03342/laws.FnBpBytes", spec := "fnBpBytes", inPlace := ["math/bits.Add64", "math/bits.Sub64"], apart := false, narrowed := true }
def FnBpBytesUptoSaid : Prop := fnBpBytesUptoRow.holds Try.pinned (OpenSpec.upto fnBpBytesSpec)

end Rows
end Go.Proofs.Ytjjmlliiclfpeaa
