/-
  No cell of these rows narrows 'for every input' (looked for: loops, veiled, ifaces, maps, wideKeys, modest, calm, conditions, laid).
  DERIVED. THE GIVEN ROWS OF THIS SEAT. 6 by the template 'for every input the law returns true; each argument reads behind the call as it read before'; 0 by the template 'total and deterministic' (their statements: YtjlinnlagghkjaaTotals.lean).
  GIVEN WITH THE SEED: the statements are not yours to turn. If you find one false, say at which input.
  Laid BY PROGRAM, IN A SANDBOX (cutbox-rows.mjs): the forced cells as the released guide's own fill.sh prints them over the translation 723d89b3320855e6… (all of the seat's roots in one cut). By AI agents, Wed Nov 11 2026. No macro, syntax, notation, axiom, sorry.
-/
import Derived.Test.YtjlinnlagghkjaaChecked
import GoSem.Claim
import GoSem.ClaimJoined
import GoSem.ClaimMapViews
import Derived.JoinedTies
import Derived.KernelRfl
namespace Go.Proofs.Ytjlinnlagghkjaa
/- THE CELL 'sum', in the pinned program and in every row, IS THE sha256 OF THE DUMP (.gsa) THAT YtjlinnlagghkjaaProg.lean LOADS. Nothing in Lean hashes anything: it is a label: what it is worth is what the hold of that sum in a sandbox is worth. -/
noncomputable def Try.pinned : Pinned := { name := "ytjlinnlagghkjaa", sum := "723d89b3320855e6cfd511b534f133c604acabe19598f639362d8dc0ffc0f466", checked := Try.checked }
namespace Rows
def none {H : Type} : Left H := { results := [], args := [] }

/-- 'laws.FnNpEqual': WHATEVER THE INPUT: true; the input reads as it did. -/
def fnNpEqualSpec : ChangeSpec := { name := "fnNpEqual", fn := fun _ => fun
  | [d1, d2] => { results := [.lit (.bool true)], args := [d1, d2] }
  | _ => none }
def fnNpEqualRow : OpenClaim := { program := "ytjlinnlagghkjaa", sum := "723d89b3320855e6cfd511b534f133c604acabe19598f639362d8dc0ffc0f466", func := "loop.example/pub-g03342/laws.FnNpEqual", spec := "fnNpEqual", apart := false }
def FnNpEqualSaid : Prop := fnNpEqualRow.holds Try.pinned (OpenSpec.ofChange fnNpEqualSpec)

/-- ITS FALSE NEIGHBOUR: 'it returns false'. Refute it at one input. -/
def fnNpEqualWrong : ChangeSpec := { name := "fnNpEqual", fn := fun _ => fun
  | [d1, d2] => { results := [.lit (.bool false)], args := [d1, d2] }
  | _ => none }
def FnNpEqualWrongFalsely : Prop := fnNpEqualRow.holds Try.pinned (OpenSpec.ofChange fnNpEqualWrong)

/-- 'laws.FnNpSub': WHATEVER THE INPUT: true; the input reads as it did. -/
def fnNpSubSpec : ChangeSpec := { name := "fnNpSub", fn := fun _ => fun
  | [d1, d2] => { results := [.lit (.bool true)], args := [d1, d2] }
  | _ => none }
def fnNpSubRow : OpenClaim := { program := "ytjlinnlagghkjaa", sum := "723d89b3320855e6cfd511b534f133c604acabe19598f639362d8dc0ffc0f466", func := "loop.example/pub-g03342/laws.FnNpSub", spec := "fnNpSub", inPlace := ["math/bits.Sub64", "math/bits.Add64"], apart := false }
def FnNpSubSaid : Prop := fnNpSubRow.holds Try.pinned (OpenSpec.ofChange fnNpSubSpec)

/-- ITS FALSE NEIGHBOUR: 'it returns false'. Refute it at one input. -/
def fnNpSubWrong : ChangeSpec := { name := "fnNpSub", fn := fun _ => fun
  | [d1, d2] => { results := [.lit (.bool false)], args := [d1, d2] }
  | _ => none }
def FnNpSubWrongFalsely : Prop := fnNpSubRow.holds Try.pinned (OpenSpec.ofChange fnNpSubWrong)

/-- 'laws.FnNpDouble': WHATEVER THE INPUT: true; the input reads as it did. -/
def fnNpDoubleSpec : ChangeSpec := { name := "fnNpDouble", fn := fun _ => fun
  | [d] => { results := [.lit (.bool true)], args := [d] }
  | _ => none }
def fnNpDoubleRow : OpenClaim := { program := "ytjlinnlagghkjaa", sum := "723d89b3320855e6cfd511b534f133c604acabe19598f639362d8dc0ffc0f466", func := "loop.example/pub-g03342/laws.FnNpDouble", spec := "fnNpDouble", inPlace := ["math/bits.Add64", "math/bits.Sub64"], apart := false }
def FnNpDoubleSaid : Prop := fnNpDoubleRow.holds Try.pinned (OpenSpec.ofChange fnNpDoubleSpec)

/-- ITS FALSE NEIGHBOUR: 'it returns false'. Refute it at one input. -/
def fnNpDoubleWrong : ChangeSpec := { name := "fnNpDouble", fn := fun _ => fun
  | [d] => { results := [.lit (.bool false)], args := [d] }
  | _ => none }
def FnNpDoubleWrongFalsely : Prop := fnNpDoubleRow.holds Try.pinned (OpenSpec.ofChange fnNpDoubleWrong)

/-- 'laws.FnNpMulBy3': WHATEVER THE INPUT: true; the input reads as it did. -/
def fnNpMulBy3Spec : ChangeSpec := { name := "fnNpMulBy3", fn := fun _ => fun
  | [d] => { results := [.lit (.bool true)], args := [d] }
  | _ => none }
def fnNpMulBy3Row : OpenClaim := { program := "ytjlinnlagghkjaa", sum := "723d89b3320855e6cfd511b534f133c604acabe19598f639362d8dc0ffc0f466", func := "loop.example/pub-g03342/laws.FnNpMulBy3", spec := "fnNpMulBy3", inPlace := ["math/bits.Add64", "math/bits.Sub64"], apart := false }
def FnNpMulBy3Said : Prop := fnNpMulBy3Row.holds Try.pinned (OpenSpec.ofChange fnNpMulBy3Spec)

/-- ITS FALSE NEIGHBOUR: 'it returns false'. Refute it at one input. -/
def fnNpMulBy3Wrong : ChangeSpec := { name := "fnNpMulBy3", fn := fun _ => fun
  | [d] => { results := [.lit (.bool false)], args := [d] }
  | _ => none }
def FnNpMulBy3WrongFalsely : Prop := fnNpMulBy3Row.holds Try.pinned (OpenSpec.ofChange fnNpMulBy3Wrong)

/-- 'laws.FnNpButterfly': WHATEVER THE INPUT: true; the input reads as it did. -/
def fnNpButterflySpec : ChangeSpec := { name := "fnNpButterfly", fn := fun _ => fun
  | [d1, d2] => { results := [.lit (.bool true)], args := [d1, d2] }
  | _ => none }
def fnNpButterflyRow : OpenClaim := { program := "ytjlinnlagghkjaa", sum := "723d89b3320855e6cfd511b534f133c604acabe19598f639362d8dc0ffc0f466", func := "loop.example/pub-g03342/laws.FnNpButterfly", spec := "fnNpButterfly", inPlace := ["math/bits.Add64", "math/bits.Sub64"], apart := false }
def FnNpButterflySaid : Prop := fnNpButterflyRow.holds Try.pinned (OpenSpec.ofChange fnNpButterflySpec)

/-- ITS FALSE NEIGHBOUR: 'it returns false'. Refute it at one input. -/
def fnNpButterflyWrong : ChangeSpec := { name := "fnNpButterfly", fn := fun _ => fun
  | [d1, d2] => { results := [.lit (.bool false)], args := [d1, d2] }
  | _ => none }
def FnNpButterflyWrongFalsely : Prop := fnNpButterflyRow.holds Try.pinned (OpenSpec.ofChange fnNpButterflyWrong)

/-- 'laws.FnNpBytes': WHATEVER THE INPUT: true; the input reads as it did. -/
def fnNpBytesSpec : ChangeSpec := { name := "fnNpBytes", fn := fun _ => fun
  | [d] => { results := [.lit (.bool true)], args := [d] }
  | _ => none }
def fnNpBytesRow : OpenClaim := { program := "ytjlinnlagghkjaa", sum := "723d89b3320855e6cfd511b534f133c604acabe19598f639362d8dc0ffc0f466", func := "loop.example/pub-g03342/laws.FnNpBytes", spec := "fnNpBytes", inPlace := ["math/bits.Add64", "math/bits.Sub64"], apart := false }
def FnNpBytesSaid : Prop := fnNpBytesRow.holds Try.pinned (OpenSpec.ofChange fnNpBytesSpec)

/-- ITS FALSE NEIGHBOUR: 'it returns false'. Refute it at one input. -/
def fnNpBytesWrong : ChangeSpec := { name := "fnNpBytes", fn := fun _ => fun
  | [d] => { results := [.lit (.bool false)], args := [d] }
  | _ => none }
def FnNpBytesWrongFalsely : Prop := fnNpBytesRow.holds Try.pinned (OpenSpec.ofChange fnNpBytesWrong)

/- THE SECOND FORM. 'bulk': how many values and letters a reading holds, each counted each time it is reached (what is shared counts as often as it is met; a slice's spare places count too). A statement '..UptoSaid' is the law's where the arguments, and the package variables that the reading takes, are together of bulk at most 1048576: NARROWER than '..Said'. Prove '..Said' where nothing that the law and all that it calls make is longer than what came in: it says more and counts as full. Else prove '..UptoSaid'. A law counts once. -/
mutual
def uptoBulk {H : Type} : DataW H → Nat
  | .lit (.string bytes) => bytes.length + 1
  | .lit _ => 1
  | .nil => 1
  | .ptr d => uptoBulk d + 1
  | .slice elems spare => uptoBulkAll elems + uptoBulkAll spare + 1
  | .agg parts => uptoBulkAll parts + 1
  | .iface _ d => uptoBulk d + 1
  | .map entries => uptoBulkEntries entries + 1
  | .held _ => 1
def uptoBulkAll {H : Type} : List (DataW H) → Nat
  | [] => 0
  | d :: r => uptoBulk d + uptoBulkAll r
def uptoBulkEntries {H : Type} : List (Lit × DataW H) → Nat
  | [] => 0
  | x :: r => uptoBulkEntry x + uptoBulkEntries r
def uptoBulkEntry {H : Type} : Lit × DataW H → Nat
  | (.string bytes, d) => bytes.length + uptoBulk d + 1
  | (_, d) => uptoBulk d + 1
 end
def uptoSmall : (H : Type) → List (DataW H) → Bool := fun _ ds => decide (uptoBulkAll ds ≤ 1048576)
def OpenSpec.upto (s : _root_.Go.ChangeSpec) : _root_.Go.OpenSpec := { _root_.Go.OpenSpec.ofChange s with cond := some uptoSmall }

/-- 'laws.FnNpEqual', WHERE WHAT IT READS IS OF BULK AT MOST 1048576: true; the input reads as it did. -/
def fnNpEqualUptoRow : OpenClaim := { program := "ytjlinnlagghkjaa", sum := "723d89b3320855e6cfd511b534f133c604acabe19598f639362d8dc0ffc0f466", func := "loop.example/pub-g03342/laws.FnNpEqual", spec := "fnNpEqual", apart := false, narrowed := true }
def FnNpEqualUptoSaid : Prop := fnNpEqualUptoRow.holds Try.pinned (OpenSpec.upto fnNpEqualSpec)

/-- 'laws.FnNpSub', WHERE WHAT IT READS IS OF BULK AT MOST 1048576: true; the input reads as it did. -/
def fnNpSubUptoRow : OpenClaim := { program := "ytjlinnlagghkjaa", sum := "723d89b3320855e6cfd511b534f133c604acabe19598f639362d8dc0ffc0f466", func := "loop.example/pub-g03342/laws.FnNpSub", spec := "fnNpSub", inPlace := ["math/bits.Sub64", "math/bits.Add64"], apart := false, narrowed := true }
def FnNpSubUptoSaid : Prop := fnNpSubUptoRow.holds Try.pinned (OpenSpec.upto fnNpSubSpec)

/-- 'laws.FnNpDouble', WHERE WHAT IT READS IS OF BULK AT MOST 1048576: true; the input reads as it did. -/
def fnNpDoubleUptoRow : OpenClaim := { program := "ytjlinnlagghkjaa", sum := "723d89b3320855e6cfd511b534f133c604acabe19598f639362d8dc0ffc0f466", func := "loop.example/pub-g03342/laws.FnNpDouble", spec := "fnNpDouble", inPlace := ["math/bits.Add64", "math/bits.Sub64"], apart := false, narrowed := true }
def FnNpDoubleUptoSaid : Prop := fnNpDoubleUptoRow.holds Try.pinned (OpenSpec.upto fnNpDoubleSpec)

/-- 'laws.FnNpMulBy3', WHERE WHAT IT READS IS OF BULK AT MOST 1048576: true; the input reads as it did. -/
def fnNpMulBy3UptoRow : OpenClaim := { program := "ytjlinnlagghkjaa", sum := "723d89b3320855e6cfd511b534f133c604acabe19598f639362d8dc0ffc0f466", func := "loop.example/pub-g03342/laws.FnNpMulBy3", spec := "fnNpMulBy3", inPlace := ["math/bits.Add64", "math/bits.Sub64"], apart := false, narrowed := true }
def FnNpMulBy3UptoSaid : Prop := fnNpMulBy3UptoRow.holds Try.pinned (OpenSpec.upto fnNpMulBy3Spec)

/-- 'laws.FnNpButterfly', WHERE WHAT IT READS IS OF BULK AT MOST 1048576: true; the input reads as it did. -/
def fnNpButterflyUptoRow : OpenClaim := { program := "ytjlinnlagghkjaa", sum := "723d89b3320855e6cfd511b534f133c604acabe19598f639362d8dc0ffc0f466", func := "loop.example/pub-g03342/laws.FnNpButterfly", spec := "fnNpButterfly", inPlace := ["math/bits.Add64", "math/bits.Sub64"], apart := false, narrowed := true }
def FnNpButterflyUptoSaid : Prop := fnNpButterflyUptoRow.holds Try.pinned (OpenSpec.upto fnNpButterflySpec)

/-- 'laws.FnNpBytes', WHERE WHAT IT READS IS OF BULK AT MOST 1048576: true; the input reads as it did. -/
def fnNpBytesUptoRow : OpenClaim := { program := "ytjlinnlagghkjaa", sum := "723d89b3320855e6cfd511b534f133c604acabe19598f639362d8dc0ffc0f466", func := "loop.example/pub-g03342/laws.FnNpBytes", spec := "fnNpBytes", inPlace := ["math/bits.Add64", "math/bits.Sub64"], apart := false, narrowed := true }
def FnNpBytesUptoSaid : Prop := fnNpBytesUptoRow.holds Try.pinned (OpenSpec.upto fnNpBytesSpec)

end Rows
end Go.Proofs.Ytjlinnlagghkjaa
