/-
  No cell of these rows narrows 'for every input' (looked for: loops, veiled, ifaces, maps, wideKeys, modest, calm, conditions, laid).
  DERIVED. THE GIVEN ROWS OF THIS SEAT. 6 by the template 'for every input the law returns true; each argument reads behind the call as it read before'; 0 by the template 'total and deterministic' (their statements: YtbiodllemlgppaaTotals.lean).
  GIVEN WITH THE SEED: the statements are not yours to turn. If you find one false, say at which input.
  Laid BY PROGRAM, IN A SANDBOX (cutbox-rows.mjs): the forced cells as the released guide's own fill.sh prints them over the translation ab26c9b1bd3328bd… (all of the seat's roots in one cut). By AI agents, Wed Nov 11 2026. No macro, syntax, notation, axiom, sorry.
-/
import Derived.Test.YtbiodllemlgppaaChecked
import GoSem.Claim
import GoSem.ClaimJoined
import GoSem.ClaimMapViews
import Derived.JoinedTies
import Derived.KernelRfl
namespace Go.Proofs.Ytbiodllemlgppaa
/- THE CELL 'sum', in the pinned program and in every row, IS THE sha256 OF THE DUMP (.gsa) THAT YtbiodllemlgppaaProg.lean LOADS. Nothing in Lean hashes anything: it is a label: what it is worth is what the hold of that sum in a sandbox is worth. -/
noncomputable def Try.pinned : Pinned := { name := "ytbiodllemlgppaa", sum := "ab26c9b1bd3328bd7510d30b82ce545145005a5077dd0b3cd1a376db31e640e6", checked := Try.checked }
namespace Rows
def none {H : Type} : Left H := { results := [], args := [] }

/-- 'laws.FnBrEqual': WHATEVER THE INPUT: true; the input reads as it did. -/
def fnBrEqualSpec : ChangeSpec := { name := "fnBrEqual", fn := fun _ => fun
  | [d1, d2] => { results := [.lit (.bool true)], args := [d1, d2] }
  | _ => none }
def fnBrEqualRow : OpenClaim := { program := "ytbiodllemlgppaa", sum := "ab26c9b1bd3328bd7510d30b82ce545145005a5077dd0b3cd1a376db31e640e6", func := "loop.example/pub-g03342/laws.FnBrEqual", spec := "fnBrEqual", apart := false }
def FnBrEqualSaid : Prop := fnBrEqualRow.holds Try.pinned (OpenSpec.ofChange fnBrEqualSpec)

/-- ITS FALSE NEIGHBOUR: 'it returns false'. Refute it at one input. -/
def fnBrEqualWrong : ChangeSpec := { name := "fnBrEqual", fn := fun _ => fun
  | [d1, d2] => { results := [.lit (.bool false)], args := [d1, d2] }
  | _ => none }
def FnBrEqualWrongFalsely : Prop := fnBrEqualRow.holds Try.pinned (OpenSpec.ofChange fnBrEqualWrong)

/-- 'laws.FnBrSub': WHATEVER THE INPUT: true; the input reads as it did. -/
def fnBrSubSpec : ChangeSpec := { name := "fnBrSub", fn := fun _ => fun
  | [d1, d2] => { results := [.lit (.bool true)], args := [d1, d2] }
  | _ => none }
def fnBrSubRow : OpenClaim := { program := "ytbiodllemlgppaa", sum := "ab26c9b1bd3328bd7510d30b82ce545145005a5077dd0b3cd1a376db31e640e6", func := "loop.example/pub-g03342/laws.FnBrSub", spec := "fnBrSub", inPlace := ["math/bits.Sub64", "math/bits.Add64"], apart := false }
def FnBrSubSaid : Prop := fnBrSubRow.holds Try.pinned (OpenSpec.ofChange fnBrSubSpec)

/-- ITS FALSE NEIGHBOUR: 'it returns false'. Refute it at one input. -/
def fnBrSubWrong : ChangeSpec := { name := "fnBrSub", fn := fun _ => fun
  | [d1, d2] => { results := [.lit (.bool false)], args := [d1, d2] }
  | _ => none }
def FnBrSubWrongFalsely : Prop := fnBrSubRow.holds Try.pinned (OpenSpec.ofChange fnBrSubWrong)

/-- 'laws.FnBrDouble': WHATEVER THE INPUT: true; the input reads as it did. -/
def fnBrDoubleSpec : ChangeSpec := { name := "fnBrDouble", fn := fun _ => fun
  | [d] => { results := [.lit (.bool true)], args := [d] }
  | _ => none }
def fnBrDoubleRow : OpenClaim := { program := "ytbiodllemlgppaa", sum := "ab26c9b1bd3328bd7510d30b82ce545145005a5077dd0b3cd1a376db31e640e6", func := "loop.example/pub-g03342/laws.FnBrDouble", spec := "fnBrDouble", inPlace := ["math/bits.Add64", "math/bits.Sub64"], apart := false }
def FnBrDoubleSaid : Prop := fnBrDoubleRow.holds Try.pinned (OpenSpec.ofChange fnBrDoubleSpec)

/-- ITS FALSE NEIGHBOUR: 'it returns false'. Refute it at one input. -/
def fnBrDoubleWrong : ChangeSpec := { name := "fnBrDouble", fn := fun _ => fun
  | [d] => { results := [.lit (.bool false)], args := [d] }
  | _ => none }
def FnBrDoubleWrongFalsely : Prop := fnBrDoubleRow.holds Try.pinned (OpenSpec.ofChange fnBrDoubleWrong)

/-- 'laws.FnBrMulBy3': WHATEVER THE INPUT: true; the input reads as it did. -/
def fnBrMulBy3Spec : ChangeSpec := { name := "fnBrMulBy3", fn := fun _ => fun
  | [d] => { results := [.lit (.bool true)], args := [d] }
  | _ => none }
def fnBrMulBy3Row : OpenClaim := { program := "ytbiodllemlgppaa", sum := "ab26c9b1bd3328bd7510d30b82ce545145005a5077dd0b3cd1a376db31e640e6", func := "loop.example/pub-g03342/laws.FnBrMulBy3", spec := "fnBrMulBy3", inPlace := ["math/bits.Add64", "math/bits.Sub64"], apart := false }
def FnBrMulBy3Said : Prop := fnBrMulBy3Row.holds Try.pinned (OpenSpec.ofChange fnBrMulBy3Spec)

/-- ITS FALSE NEIGHBOUR: 'it returns false'. Refute it at one input. -/
def fnBrMulBy3Wrong : ChangeSpec := { name := "fnBrMulBy3", fn := fun _ => fun
  | [d] => { results := [.lit (.bool false)], args := [d] }
  | _ => none }
def FnBrMulBy3WrongFalsely : Prop := fnBrMulBy3Row.holds Try.pinned (OpenSpec.ofChange fnBrMulBy3Wrong)

/-- 'laws.FnBrButterfly': WHATEVER THE INPUT: true; the input reads as it did. -/
def fnBrButterflySpec : ChangeSpec := { name := "fnBrButterfly", fn := fun _ => fun
  | [d1, d2] => { results := [.lit (.bool true)], args := [d1, d2] }
  | _ => none }
def fnBrButterflyRow : OpenClaim := { program := "ytbiodllemlgppaa", sum := "ab26c9b1bd3328bd7510d30b82ce545145005a5077dd0b3cd1a376db31e640e6", func := "loop.example/pub-g03342/laws.FnBrButterfly", spec := "fnBrButterfly", inPlace := ["math/bits.Add64", "math/bits.Sub64"], apart := false }
def FnBrButterflySaid : Prop := fnBrButterflyRow.holds Try.pinned (OpenSpec.ofChange fnBrButterflySpec)

/-- ITS FALSE NEIGHBOUR: 'it returns false'. Refute it at one input. -/
def fnBrButterflyWrong : ChangeSpec := { name := "fnBrButterfly", fn := fun _ => fun
  | [d1, d2] => { results := [.lit (.bool false)], args := [d1, d2] }
  | _ => none }
def FnBrButterflyWrongFalsely : Prop := fnBrButterflyRow.holds Try.pinned (OpenSpec.ofChange fnBrButterflyWrong)

/-- 'laws.FnBrBytes': WHATEVER THE INPUT: true; the input reads as it did. -/
def fnBrBytesSpec : ChangeSpec := { name := "fnBrBytes", fn := fun _ => fun
  | [d] => { results := [.lit (.bool true)], args := [d] }
  | _ => none }
def fnBrBytesRow : OpenClaim := { program := "ytbiodllemlgppaa", sum := "ab26c9b1bd3328bd7510d30b82ce545145005a5077dd0b3cd1a376db31e640e6", func := "loop.example/pub-g03342/laws.FnBrBytes", spec := "fnBrBytes", inPlace := ["math/bits.Add64", "math/bits.Sub64"], apart := false }
def FnBrBytesSaid : Prop := fnBrBytesRow.holds Try.pinned (OpenSpec.ofChange fnBrBytesSpec)

/-- ITS FALSE NEIGHBOUR: 'it returns false'. Refute it at one input. -/
def fnBrBytesWrong : ChangeSpec := { name := "fnBrBytes", fn := fun _ => fun
  | [d] => { results := [.lit (.bool false)], args := [d] }
  | _ => none }
def FnBrBytesWrongFalsely : Prop := fnBrBytesRow.holds Try.pinned (OpenSpec.ofChange fnBrBytesWrong)

/- THE SECOND FORM. 'bulk': how many values and letters a reading holds, each counted each time it is reached (what is shared counts as often as it is met; a slice's spare places count too). A statement '..UptoSaid' is the law's where the arguments, and the package variables that the reading takes, are together of bulk at most 1048576: NARROWER than '..Said'. Prove '..Said' where nothing that the law and all that it calls make is longer than what came in: it says more and counts as full. Else prove '..UptoSaid'. A law counts once. -/
mutual
def uptoBulk {H : Type} : DataW H → Nat
  | .lit (.string bytes) => bytes.length + 1
  | .lit _ => 1
  | .nil => 1
  | .ptr d => uptoBulk d + 1
  | .slice elems spare => uptoBulkAll elems + uptoBulkAll spare + 1
  | .agg parts => uptoBulkAll parts + 1
  | .iface _ d => uptoBulk d + 1
  | .map entries => uptoBulkEntries entries + 1
  | .held _ => 1
def uptoBulkAll {H : Type} : List (DataW H) → Nat
  | [] => 0
  | d :: r => uptoBulk d + uptoBulkAll r
def uptoBulkEntries {H : Type} : List (Lit × DataW H) → Nat
  | [] => 0
  | x :: r => uptoBulkEntry x + uptoBulkEntries r
def uptoBulkEntry {H : Type} : Lit × DataW H → Nat
  | (.string bytes, d) => bytes.length + uptoBulk d + 1
  | (_, d) => uptoBulk d + 1
 end
def uptoSmall : (H : Type) → List (DataW H) → Bool := fun _ ds => decide (uptoBulkAll ds ≤ 1048576)
def OpenSpec.upto (s : _root_.Go.ChangeSpec) : _root_.Go.OpenSpec := { _root_.Go.OpenSpec.ofChange s with cond := some uptoSmall }

/-- 'laws.FnBrEqual', WHERE WHAT IT READS IS OF BULK AT MOST 1048576: true; the input reads as it did. -/
def fnBrEqualUptoRow : OpenClaim := { program := "ytbiodllemlgppaa", sum := "ab26c9b1bd3328bd7510d30b82ce545145005a5077dd0b3cd1a376db31e640e6", func := "loop.example/pub-g03342/laws.FnBrEqual", spec := "fnBrEqual", apart := false, narrowed := true }
def FnBrEqualUptoSaid : Prop := fnBrEqualUptoRow.holds Try.pinned (OpenSpec.upto fnBrEqualSpec)

/-- 'laws.FnBrSub', WHERE WHAT IT READS IS OF BULK AT MOST 1048576: true; the input reads as it did. -/
def fnBrSubUptoRow : OpenClaim := { program := "ytbiodllemlgppaa", sum := "ab26c9b1bd3328bd7510d30b82ce545145005a5077dd0b3cd1a376db31e640e6", func := "loop.example/pub-g03342/laws.FnBrSub", spec := "fnBrSub", inPlace := ["math/bits.Sub64", "math/bits.Add64"], apart := false, narrowed := true }
def FnBrSubUptoSaid : Prop := fnBrSubUptoRow.holds Try.pinned (OpenSpec.upto fnBrSubSpec)

/-- 'laws.FnBrDouble', WHERE WHAT IT READS IS OF BULK AT MOST 1048576: true; the input reads as it did. -/
def fnBrDoubleUptoRow : OpenClaim := { program := "ytbiodllemlgppaa", sum := "ab26c9b1bd3328bd7510d30b82ce545145005a5077dd0b3cd1a376db31e640e6", func := "loop.example/pub-g03342/laws.FnBrDouble", spec := "fnBrDouble", inPlace := ["math/bits.Add64", "math/bits.Sub64"], apart := false, narrowed := true }
def FnBrDoubleUptoSaid : Prop := fnBrDoubleUptoRow.holds Try.pinned (OpenSpec.upto fnBrDoubleSpec)

/-- 'laws.FnBrMulBy3', WHERE WHAT IT READS IS OF BULK AT MOST 1048576: true; the input reads as it did. -/
def fnBrMulBy3UptoRow : OpenClaim := { program := "ytbiodllemlgppaa", sum := "ab26c9b1bd3328bd7510d30b82ce545145005a5077dd0b3cd1a376db31e640e6", func := "loop.example/pub-g03342/laws.FnBrMulBy3", spec := "fnBrMulBy3", inPlace := ["math/bits.Add64", "math/bits.Sub64"], apart := false, narrowed := true }
def FnBrMulBy3UptoSaid : Prop := fnBrMulBy3UptoRow.holds Try.pinned (OpenSpec.upto fnBrMulBy3Spec)

/-- 'laws.FnBrButterfly', WHERE WHAT IT READS IS OF BULK AT MOST 1048576: true; the input reads as it did. -/
def fnBrButterflyUptoRow : OpenClaim := { program := "ytbiodllemlgppaa", sum := "ab26c9b1bd3328bd7510d30b82ce545145005a5077dd0b3cd1a376db31e640e6", func := "loop.example/pub-g03342/laws.FnBrButterfly", spec := "fnBrButterfly", inPlace := ["math/bits.Add64", "math/bits.Sub64"], apart := false, narrowed := true }
def FnBrButterflyUptoSaid : Prop := fnBrButterflyUptoRow.holds Try.pinned (OpenSpec.upto fnBrButterflySpec)

/-- 'laws.FnBrBytes', WHERE WHAT IT READS IS OF BULK AT MOST 1048576: true; the input reads as it did. -/
def fnBrBytesUptoRow : OpenClaim := { program := "ytbiodllemlgppaa", sum := "ab26c9b1bd3328bd7510d30b82ce545145005a5077dd0b3cd1a376db31e640e6", func := "loop.example/pub-g03342/laws.FnBrBytes", spec := "fnBrBytes", inPlace := ["math/bits.Add64", "math/bits.Sub64"], apart := false, narrowed := true }
def FnBrBytesUptoSaid : Prop := fnBrBytesUptoRow.holds Try.pinned (OpenSpec.upto fnBrBytesSpec)

end Rows
end Go.Proofs.Ytbiodllemlgppaa
