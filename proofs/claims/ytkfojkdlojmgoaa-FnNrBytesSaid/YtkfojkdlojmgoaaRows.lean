/-
  No cell of these rows narrows 'for every input' (looked for: loops, veiled, ifaces, maps, wideKeys, modest, calm, conditions, laid).
  DERIVED. THE GIVEN ROWS OF THIS SEAT. 6 by the template 'for every input the law returns true; each argument reads behind the call as it read before'; 0 by the template 'total and deterministic' (their statements: YtkfojkdlojmgoaaTotals.lean).
  GIVEN WITH THE SEED: the statements are not yours to turn. If you find one false, say at which input.
  Laid BY PROGRAM, IN A SANDBOX (cutbox-rows.mjs): the forced cells as the released guide's own fill.sh prints them over the translation ed8f27d96acabded… (all of the seat's roots in one cut). By AI agents, Wed Nov 11 2026. No macro, syntax, notation, axiom, sorry.
-/
import Derived.Test.YtkfojkdlojmgoaaChecked
import GoSem.Claim
import GoSem.ClaimJoined
import GoSem.ClaimMapViews
import Derived.JoinedTies
import Derived.KernelRfl
namespace Go.Proofs.Ytkfojkdlojmgoaa
/- THE CELL 'sum', in the pinned program and in every row, IS THE sha256 OF THE DUMP (.gsa) THAT YtkfojkdlojmgoaaProg.lean LOADS. Nothing in Lean hashes anything: it is a label: what it is worth is what the hold of that sum in a sandbox is worth. -/
noncomputable def Try.pinned : Pinned := { name := "ytkfojkdlojmgoaa", sum := "ed8f27d96acabded4d463adc370bf226fe3ef5f04224001d4aaadbc35dffae36", checked := Try.checked }
namespace Rows
def none {H : Type} : Left H := { results := [], args := [] }

/-- 'laws.FnNrEqual': WHATEVER THE INPUT: true; the input reads as it did. -/
def fnNrEqualSpec : ChangeSpec := { name := "fnNrEqual", fn := fun _ => fun
  | [d1, d2] => { results := [.lit (.bool true)], args := [d1, d2] }
  | _ => none }
def fnNrEqualRow : OpenClaim := { program := "ytkfojkdlojmgoaa", sum := "ed8f27d96acabded4d463adc370bf226fe3ef5f04224001d4aaadbc35dffae36", func := "loop.example/pub-g03342/laws.FnNrEqual", spec := "fnNrEqual", apart := false }
def FnNrEqualSaid : Prop := fnNrEqualRow.holds Try.pinned (OpenSpec.ofChange fnNrEqualSpec)

/-- ITS FALSE NEIGHBOUR: 'it returns false'. Refute it at one input. -/
def fnNrEqualWrong : ChangeSpec := { name := "fnNrEqual", fn := fun _ => fun
  | [d1, d2] => { results := [.lit (.bool false)], args := [d1, d2] }
  | _ => none }
def FnNrEqualWrongFalsely : Prop := fnNrEqualRow.holds Try.pinned (OpenSpec.ofChange fnNrEqualWrong)

/-- 'laws.FnNrSub': WHATEVER THE INPUT: true; the input reads as it did. -/
def fnNrSubSpec : ChangeSpec := { name := "fnNrSub", fn := fun _ => fun
  | [d1, d2] => { results := [.lit (.bool true)], args := [d1, d2] }
  | _ => none }
def fnNrSubRow : OpenClaim := { program := "ytkfojkdlojmgoaa", sum := "ed8f27d96acabded4d463adc370bf226fe3ef5f04224001d4aaadbc35dffae36", func := "loop.example/pub-g03342/laws.FnNrSub", spec := "fnNrSub", inPlace := ["math/bits.Sub64", "math/bits.Add64"], apart := false }
def FnNrSubSaid : Prop := fnNrSubRow.holds Try.pinned (OpenSpec.ofChange fnNrSubSpec)

/-- ITS FALSE NEIGHBOUR: 'it returns false'. Refute it at one input. -/
def fnNrSubWrong : ChangeSpec := { name := "fnNrSub", fn := fun _ => fun
  | [d1, d2] => { results := [.lit (.bool false)], args := [d1, d2] }
  | _ => none }
def FnNrSubWrongFalsely : Prop := fnNrSubRow.holds Try.pinned (OpenSpec.ofChange fnNrSubWrong)

/-- 'laws.FnNrDouble': WHATEVER THE INPUT: true; the input reads as it did. -/
def fnNrDoubleSpec : ChangeSpec := { name := "fnNrDouble", fn := fun _ => fun
  | [d] => { results := [.lit (.bool true)], args := [d] }
  | _ => none }
def fnNrDoubleRow : OpenClaim := { program := "ytkfojkdlojmgoaa", sum := "ed8f27d96acabded4d463adc370bf226fe3ef5f04224001d4aaadbc35dffae36", func := "loop.example/pub-g03342/laws.FnNrDouble", spec := "fnNrDouble", inPlace := ["math/bits.Add64", "math/bits.Sub64"], apart := false }
def FnNrDoubleSaid : Prop := fnNrDoubleRow.holds Try.pinned (OpenSpec.ofChange fnNrDoubleSpec)

/-- ITS FALSE NEIGHBOUR: 'it returns false'. Refute it at one input. -/
def fnNrDoubleWrong : ChangeSpec := { name := "fnNrDouble", fn := fun _ => fun
  | [d] => { results := [.lit (.bool false)], args := [d] }
  | _ => none }
def FnNrDoubleWrongFalsely : Prop := fnNrDoubleRow.holds Try.pinned (OpenSpec.ofChange fnNrDoubleWrong)

/-- 'laws.FnNrMulBy3': WHATEVER THE INPUT: true; the input reads as it did. -/
def fnNrMulBy3Spec : ChangeSpec := { name := "fnNrMulBy3", fn := fun _ => fun
  | [d] => { results := [.lit (.bool true)], args := [d] }
  | _ => none }
def fnNrMulBy3Row : OpenClaim := { program := "ytkfojkdlojmgoaa", sum := "ed8f27d96acabded4d463adc370bf226fe3ef5f04224001d4aaadbc35dffae36", func := "loop.example/pub-g03342/laws.FnNrMulBy3", spec := "fnNrMulBy3", inPlace := ["math/bits.Add64", "math/bits.Sub64"], apart := false }
def FnNrMulBy3Said : Prop := fnNrMulBy3Row.holds Try.pinned (OpenSpec.ofChange fnNrMulBy3Spec)

/-- ITS FALSE NEIGHBOUR: 'it returns false'. Refute it at one input. -/
def fnNrMulBy3Wrong : ChangeSpec := { name := "fnNrMulBy3", fn := fun _ => fun
  | [d] => { results := [.lit (.bool false)], args := [d] }
  | _ => none }
def FnNrMulBy3WrongFalsely : Prop := fnNrMulBy3Row.holds Try.pinned (OpenSpec.ofChange fnNrMulBy3Wrong)

/-- 'laws.FnNrButterfly': WHATEVER THE INPUT: true; the input reads as it did. -/
def fnNrButterflySpec : ChangeSpec := { name := "fnNrButterfly", fn := fun _ => fun
  | [d1, d2] => { results := [.lit (.bool true)], args := [d1, d2] }
  | _ => none }
def fnNrButterflyRow : OpenClaim := { program := "ytkfojkdlojmgoaa", sum := "ed8f27d96acabded4d463adc370bf226fe3ef5f04224001d4aaadbc35dffae36", func := "loop.example/pub-g03342/laws.FnNrButterfly", spec := "fnNrButterfly", inPlace := ["math/bits.Add64", "math/bits.Sub64"], apart := false }
def FnNrButterflySaid : Prop := fnNrButterflyRow.holds Try.pinned (OpenSpec.ofChange fnNrButterflySpec)

/-- ITS FALSE NEIGHBOUR: 'it returns false'. Refute it at one input. -/
def fnNrButterflyWrong : ChangeSpec := { name := "fnNrButterfly", fn := fun _ => fun
  | [d1, d2] => { results := [.lit (.bool false)], args := [d1, d2] }
  | _ => none }
def FnNrButterflyWrongFalsely : Prop := fnNrButterflyRow.holds Try.pinned (OpenSpec.ofChange fnNrButterflyWrong)

/-- 'laws.FnNrBytes': WHATEVER THE INPUT: true; the input reads as it did. -/
def fnNrBytesSpec : ChangeSpec := { name := "fnNrBytes", fn := fun _ => fun
  | [d] => { results := [.lit (.bool true)], args := [d] }
  | _ => none }
def fnNrBytesRow : OpenClaim := { program := "ytkfojkdlojmgoaa", sum := "ed8f27d96acabded4d463adc370bf226fe3ef5f04224001d4aaadbc35dffae36", func := "loop.example/pub-g03342/laws.FnNrBytes", spec := "fnNrBytes", inPlace := ["math/bits.Add64", "math/bits.Sub64"], apart := false }
def FnNrBytesSaid : Prop := fnNrBytesRow.holds Try.pinned (OpenSpec.ofChange fnNrBytesSpec)

/-- ITS FALSE NEIGHBOUR: 'it returns false'. Refute it at one input. -/
def fnNrBytesWrong : ChangeSpec := { name := "fnNrBytes", fn := fun _ => fun
  | [d] => { results := [.lit (.bool false)], args := [d] }
  | _ => none }
def FnNrBytesWrongFalsely : Prop := fnNrBytesRow.holds Try.pinned (OpenSpec.ofChange fnNrBytesWrong)

/- THE SECOND FORM. 'bulk': how many values and letters a reading holds, each counted each time it is reached (what is shared counts as often as it is met; a slice's spare places count too). A statement '..UptoSaid' is the law's where the arguments, and the package variables that the reading takes, are together of bulk at most 1048576: NARROWER than '..Said'. Prove '..Said' where nothing that the law and all that it calls make is longer than what came in: it says more and counts as full. Else prove '..UptoSaid'. A law counts once. -/
mutual
def uptoBulk {H : Type} : DataW H → Nat
  | .lit (.string bytes) => bytes.length + 1
  | .lit _ => 1
  | .nil => 1
  | .ptr d => uptoBulk d + 1
  | .slice elems spare => uptoBulkAll elems + uptoBulkAll spare + 1
  | .agg parts => uptoBulkAll parts + 1
  | .iface _ d => uptoBulk d + 1
  | .map entries => uptoBulkEntries entries + 1
  | .held _ => 1
def uptoBulkAll {H : Type} : List (DataW H) → Nat
  | [] => 0
  | d :: r => uptoBulk d + uptoBulkAll r
def uptoBulkEntries {H : Type} : List (Lit × DataW H) → Nat
  | [] => 0
  | x :: r => uptoBulkEntry x + uptoBulkEntries r
def uptoBulkEntry {H : Type} : Lit × DataW H → Nat
  | (.string bytes, d) => bytes.length + uptoBulk d + 1
  | (_, d) => uptoBulk d + 1
 end
def uptoSmall : (H : Type) → List (DataW H) → Bool := fun _ ds => decide (uptoBulkAll ds ≤ 1048576)
def OpenSpec.upto (s : _root_.Go.ChangeSpec) : _root_.Go.OpenSpec := { _root_.Go.OpenSpec.ofChange s with cond := some uptoSmall }

/-- 'laws.FnNrEqual', WHERE WHAT IT READS IS OF BULK AT MOST 1048576: true; the input reads as it did. -/
def fnNrEqualUptoRow : OpenClaim := { program := "ytkfojkdlojmgoaa", sum := "ed8f27d96acabded4d463adc370bf226fe3ef5f04224001d4aaadbc35dffae36", func := "loop.example/pub-g03342/laws.FnNrEqual", spec := "fnNrEqual", apart := false, narrowed := true }
def FnNrEqualUptoSaid : Prop := fnNrEqualUptoRow.holds Try.pinned (OpenSpec.upto fnNrEqualSpec)

/-- 'laws.FnNrSub', WHERE WHAT IT READS IS OF BULK AT MOST 1048576: true; the input reads as it did. -/
def fnNrSubUptoRow : OpenClaim := { program := "ytkfojkdlojmgoaa", sum := "ed8f27d96acabded4d463adc370bf226fe3ef5f04224001d4aaadbc35dffae36", func := "loop.example/pub-g03342/laws.FnNrSub", spec := "fnNrSub", inPlace := ["math/bits.Sub64", "math/bits.Add64"], apart := false, narrowed := true }
def FnNrSubUptoSaid : Prop := fnNrSubUptoRow.holds Try.pinned (OpenSpec.upto fnNrSubSpec)

/-- 'laws.FnNrDouble', WHERE WHAT IT READS IS OF BULK AT MOST 1048576: true; the input reads as it did. -/
def fnNrDoubleUptoRow : OpenClaim := { program := "ytkfojkdlojmgoaa", sum := "ed8f27d96acabded4d463adc370bf226fe3ef5f04224001d4aaadbc35dffae36", func := "loop.example/pub-g03342/laws.FnNrDouble", spec := "fnNrDouble", inPlace := ["math/bits.Add64", "math/bits.Sub64"], apart := false, narrowed := true }
def FnNrDoubleUptoSaid : Prop := fnNrDoubleUptoRow.holds Try.pinned (OpenSpec.upto fnNrDoubleSpec)

/-- 'laws.FnNrMulBy3', WHERE WHAT IT READS IS OF BULK AT MOST 1048576: true; the input reads as it did. -/
def fnNrMulBy3UptoRow : OpenClaim := { program := "ytkfojkdlojmgoaa", sum := "ed8f27d96acabded4d463adc370bf226fe3ef5f04224001d4aaadbc35dffae36", func := "loop.example/pub-g03342/laws.FnNrMulBy3", spec := "fnNrMulBy3", inPlace := ["math/bits.Add64", "math/bits.Sub64"], apart := false, narrowed := true }
def FnNrMulBy3UptoSaid : Prop := fnNrMulBy3UptoRow.holds Try.pinned (OpenSpec.upto fnNrMulBy3Spec)

/-- 'laws.FnNrButterfly', WHERE WHAT IT READS IS OF BULK AT MOST 1048576: true; the input reads as it did. -/
def fnNrButterflyUptoRow : OpenClaim := { program := "ytkfojkdlojmgoaa", sum := "ed8f27d96acabded4d463adc370bf226fe3ef5f04224001d4aaadbc35dffae36", func := "loop.example/pub-g03342/laws.FnNrButterfly", spec := "fnNrButterfly", inPlace := ["math/bits.Add64", "math/bits.Sub64"], apart := false, narrowed := true }
def FnNrButterflyUptoSaid : Prop := fnNrButterflyUptoRow.holds Try.pinned (OpenSpec.upto fnNrButterflySpec)

/-- 'laws.FnNrBytes', WHERE WHAT IT READS IS OF BULK AT MOST 1048576: true; the input reads as it did. -/
def fnNrBytesUptoRow : OpenClaim := { program := "ytkfojkdlojmgoaa", sum := "ed8f27d96acabded4d463adc370bf226fe3ef5f04224001d4aaadbc35dffae36", func := "loop.example/pub-g03342/laws.FnNrBytes", spec := "fnNrBytes", inPlace := ["math/bits.Add64", "math/bits.Sub64"], apart := false, narrowed := true }
def FnNrBytesUptoSaid : Prop := fnNrBytesUptoRow.holds Try.pinned (OpenSpec.upto fnNrBytesSpec)

end Rows
end Go.Proofs.Ytkfojkdlojmgoaa
