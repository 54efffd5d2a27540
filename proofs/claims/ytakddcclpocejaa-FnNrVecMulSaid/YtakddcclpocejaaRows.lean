/-
  No cell of these rows narrows 'for every input' (looked for: loops, veiled, ifaces, maps, wideKeys, modest, calm, conditions, laid).
  DERIVED. THE GIVEN ROWS OF THIS SEAT. 5 by the template 'for every input the law returns true; each argument reads behind the call as it read before'; 0 by the template 'total and deterministic' (their statements: YtakddcclpocejaaTotals.lean).
  GIVEN WITH THE SEED: the statements are not yours to turn. If you find one false, say at which input.
  Laid BY PROGRAM, IN A SANDBOX (cutbox-rows.mjs): the forced cells as the released guide's own fill.sh prints them over the translation d6442428a11ab727… (all of the seat's roots in one cut). By AI agents, Wed Nov 11 2026. No macro, syntax, notation, axiom, sorry.
-/
import Derived.Test.YtakddcclpocejaaChecked
import GoSem.Claim
import GoSem.ClaimJoined
import GoSem.ClaimMapViews
import Derived.JoinedTies
import Derived.KernelRfl
namespace Go.Proofs.Ytakddcclpocejaa
/- THE CELL 'sum', in the pinned program and in every row, IS THE sha256 OF THE DUMP (.gsa) THAT YtakddcclpocejaaProg.lean LOADS. Nothing in Lean hashes anything: it is a label: what it is worth is what the hold of that sum in a sandbox is worth. -/
noncomputable def Try.pinned : Pinned := { name := "ytakddcclpocejaa", sum := "d6442428a11ab72706994a5c438570c3f0032f0c9d420f84b46ec37d51c46605", checked := Try.checked }
namespace Rows
def none {H : Type} : Left H := { results := [], args := [] }

/-- 'laws.FnNrMulTurned': WHATEVER THE INPUT: true; the input reads as it did. -/
def fnNrMulTurnedSpec : ChangeSpec := { name := "fnNrMulTurned", fn := fun _ => fun
  | [d1, d2] => { results := [.lit (.bool true)], args := [d1, d2] }
  | _ => none }
def fnNrMulTurnedRow : OpenClaim := { program := "ytakddcclpocejaa", sum := "d6442428a11ab72706994a5c438570c3f0032f0c9d420f84b46ec37d51c46605", func := "loop.example/pub-g03342/laws.FnNrMulTurned", spec := "fnNrMulTurned", inPlace := ["math/bits.Add64", "math/bits.Sub64"], apart := false }
def FnNrMulTurnedSaid : Prop := fnNrMulTurnedRow.holds Try.pinned (OpenSpec.ofChange fnNrMulTurnedSpec)

/-- ITS FALSE NEIGHBOUR: 'it returns false'. Refute it at one input. -/
def fnNrMulTurnedWrong : ChangeSpec := { name := "fnNrMulTurned", fn := fun _ => fun
  | [d1, d2] => { results := [.lit (.bool false)], args := [d1, d2] }
  | _ => none }
def FnNrMulTurnedWrongFalsely : Prop := fnNrMulTurnedRow.holds Try.pinned (OpenSpec.ofChange fnNrMulTurnedWrong)

/-- 'laws.FnNrVecMul': WHATEVER THE INPUT: true; the input reads as it did. -/
def fnNrVecMulSpec : ChangeSpec := { name := "fnNrVecMul", fn := fun _ => fun
  | [d1, d2] => { results := [.lit (.bool true)], args := [d1, d2] }
  | _ => none }
def fnNrVecMulRow : OpenClaim := { program := "ytakddcclpocejaa", sum := "d6442428a11ab72706994a5c438570c3f0032f0c9d420f84b46ec37d51c46605", func := "loop.example/pub-g03342/laws.FnNrVecMul", spec := "fnNrVecMul", inPlace := ["math/bits.Add64", "math/bits.Sub64"], apart := false }
def FnNrVecMulSaid : Prop := fnNrVecMulRow.holds Try.pinned (OpenSpec.ofChange fnNrVecMulSpec)

/-- ITS FALSE NEIGHBOUR: 'it returns false'. Refute it at one input. -/
def fnNrVecMulWrong : ChangeSpec := { name := "fnNrVecMul", fn := fun _ => fun
  | [d1, d2] => { results := [.lit (.bool false)], args := [d1, d2] }
  | _ => none }
def FnNrVecMulWrongFalsely : Prop := fnNrVecMulRow.holds Try.pinned (OpenSpec.ofChange fnNrVecMulWrong)

/-- 'laws.FnNrVecInner': WHATEVER THE INPUT: true; the input reads as it did. -/
def fnNrVecInnerSpec : ChangeSpec := { name := "fnNrVecInner", fn := fun _ => fun
  | [d1, d2] => { results := [.lit (.bool true)], args := [d1, d2] }
  | _ => none }
def fnNrVecInnerRow : OpenClaim := { program := "ytakddcclpocejaa", sum := "d6442428a11ab72706994a5c438570c3f0032f0c9d420f84b46ec37d51c46605", func := "loop.example/pub-g03342/laws.FnNrVecInner", spec := "fnNrVecInner", inPlace := ["math/bits.Add64", "math/bits.Sub64"], apart := false }
def FnNrVecInnerSaid : Prop := fnNrVecInnerRow.holds Try.pinned (OpenSpec.ofChange fnNrVecInnerSpec)

/-- ITS FALSE NEIGHBOUR: 'it returns false'. Refute it at one input. -/
def fnNrVecInnerWrong : ChangeSpec := { name := "fnNrVecInner", fn := fun _ => fun
  | [d1, d2] => { results := [.lit (.bool false)], args := [d1, d2] }
  | _ => none }
def FnNrVecInnerWrongFalsely : Prop := fnNrVecInnerRow.holds Try.pinned (OpenSpec.ofChange fnNrVecInnerWrong)

/-- 'laws.FnNrSetInt64': WHATEVER THE INPUT: true; the input reads as it did. -/
def fnNrSetInt64Spec : ChangeSpec := { name := "fnNrSetInt64", fn := fun _ => fun
  | [d] => { results := [.lit (.bool true)], args := [d] }
  | _ => none }
def fnNrSetInt64Row : OpenClaim := { program := "ytakddcclpocejaa", sum := "d6442428a11ab72706994a5c438570c3f0032f0c9d420f84b46ec37d51c46605", func := "loop.example/pub-g03342/laws.FnNrSetInt64", spec := "fnNrSetInt64", inPlace := ["math/bits.Add64", "math/bits.Sub64"], apart := false }
def FnNrSetInt64Said : Prop := fnNrSetInt64Row.holds Try.pinned (OpenSpec.ofChange fnNrSetInt64Spec)

/-- ITS FALSE NEIGHBOUR: 'it returns false'. Refute it at one input. -/
def fnNrSetInt64Wrong : ChangeSpec := { name := "fnNrSetInt64", fn := fun _ => fun
  | [d] => { results := [.lit (.bool false)], args := [d] }
  | _ => none }
def FnNrSetInt64WrongFalsely : Prop := fnNrSetInt64Row.holds Try.pinned (OpenSpec.ofChange fnNrSetInt64Wrong)

/-- 'laws.FnNrSquareMul': WHATEVER THE INPUT: true; the input reads as it did. -/
def fnNrSquareMulSpec : ChangeSpec := { name := "fnNrSquareMul", fn := fun _ => fun
  | [d] => { results := [.lit (.bool true)], args := [d] }
  | _ => none }
def fnNrSquareMulRow : OpenClaim := { program := "ytakddcclpocejaa", sum := "d6442428a11ab72706994a5c438570c3f0032f0c9d420f84b46ec37d51c46605", func := "loop.example/pub-g03342/laws.FnNrSquareMul", spec := "fnNrSquareMul", inPlace := ["math/bits.Add64", "math/bits.Sub64"], apart := false }
def FnNrSquareMulSaid : Prop := fnNrSquareMulRow.holds Try.pinned (OpenSpec.ofChange fnNrSquareMulSpec)

/-- ITS FALSE NEIGHBOUR: 'it returns false'. Refute it at one input. -/
def fnNrSquareMulWrong : ChangeSpec := { name := "fnNrSquareMul", fn := fun _ => fun
  | [d] => { results := [.lit (.bool false)], args := [d] }
  | _ => none }
def FnNrSquareMulWrongFalsely : Prop := fnNrSquareMulRow.holds Try.pinned (OpenSpec.ofChange fnNrSquareMulWrong)

/- THE SECOND FORM. 'bulk': how many values and letters a reading holds, each counted each time it is reached (what is shared counts as often as it is met; a slice's spare places count too). A statement '..UptoSaid' is the law's where the arguments, and the package variables that the reading takes, are together of bulk at most 1048576: NARROWER than '..Said'. Prove '..Said' where nothing that the law and all that it calls make is longer than what came in: it says more and counts as full. Else prove '..UptoSaid'. A law counts once. -/
mutual
def uptoBulk {H : Type} : DataW H → Nat
  | .lit (.string bytes) => bytes.length + 1
  | .lit _ => 1
  | .nil => 1
  | .ptr d => uptoBulk d + 1
  | .slice elems spare => uptoBulkAll elems + uptoBulkAll spare + 1
  | .agg parts => uptoBulkAll parts + 1
  | .iface _ d => uptoBulk d + 1
  | .map entries => uptoBulkEntries entries + 1
  | .held _ => 1
def uptoBulkAll {H : Type} : List (DataW H) → Nat
  | [] => 0
  | d :: r => uptoBulk d + uptoBulkAll r
def uptoBulkEntries {H : Type} : List (Lit × DataW H) → Nat
  | [] => 0
  | x :: r => uptoBulkEntry x + uptoBulkEntries r
def uptoBulkEntry {H : Type} : Lit × DataW H → Nat
  | (.string bytes, d) => bytes.length + uptoBulk d + 1
  | (_, d) => uptoBulk d + 1
 end
def uptoSmall : (H : Type) → List (DataW H) → Bool := fun _ ds => decide (uptoBulkAll ds ≤ 1048576)
def OpenSpec.upto (s : _root_.Go.ChangeSpec) : _root_.Go.OpenSpec := { _root_.Go.OpenSpec.ofChange s with cond := some uptoSmall }

/-- 'laws.FnNrMulTurned', WHERE WHAT IT READS IS OF BULK AT MOST 1048576: true; the input reads as it did. -/
def fnNrMulTurnedUptoRow : OpenClaim := { program := "ytakddcclpocejaa", sum := "d6442428a11ab72706994a5c438570c3f0032f0c9d420f84b46ec37d51c46605", func := "loop.example/pub-g03342/laws.FnNrMulTurned", spec := "fnNrMulTurned", inPlace := ["math/bits.Add64", "math/bits.Sub64"], apart := false, narrowed := true }
def FnNrMulTurnedUptoSaid : Prop := fnNrMulTurnedUptoRow.holds Try.pinned (OpenSpec.upto fnNrMulTurnedSpec)

/-- 'laws.FnNrVecMul', WHERE WHAT IT READS IS OF BULK AT MOST 1048576: true; the input reads as it did. -/
def fnNrVecMulUptoRow : OpenClaim := { program := "ytakddcclpocejaa", sum := "d6442428a11ab72706994a5c438570c3f0032f0c9d420f84b46ec37d51c46605", func := "loop.example/pub-g03342/laws.FnNrVecMul", spec := "fnNrVecMul", inPlace := ["math/bits.Add64", "math/bits.Sub64"], apart := false, narrowed := true }
def FnNrVecMulUptoSaid : Prop := fnNrVecMulUptoRow.holds Try.pinned (OpenSpec.upto fnNrVecMulSpec)

/-- 'laws.FnNrVecInner', WHERE WHAT IT READS IS OF BULK AT MOST 1048576: true; the input reads as it did. -/
def fnNrVecInnerUptoRow : OpenClaim := { program := "ytakddcclpocejaa", sum := "d6442428a11ab72706994a5c438570c3f0032f0c9d420f84b46ec37d51c46605", func := "loop.example/pub-g03342/laws.FnNrVecInner", spec := "fnNrVecInner", inPlace := ["math/bits.Add64", "math/bits.Sub64"], apart := false, narrowed := true }
def FnNrVecInnerUptoSaid : Prop := fnNrVecInnerUptoRow.holds Try.pinned (OpenSpec.upto fnNrVecInnerSpec)

/-- 'laws.FnNrSetInt64', WHERE WHAT IT READS IS OF BULK AT MOST 1048576: true; the input reads as it did. -/
def fnNrSetInt64UptoRow : OpenClaim := { program := "ytakddcclpocejaa", sum := "d6442428a11ab72706994a5c438570c3f0032f0c9d420f84b46ec37d51c46605", func := "loop.example/pub-g03342/laws.FnNrSetInt64", spec := "fnNrSetInt64", inPlace := ["math/bits.Add64", "math/bits.Sub64"], apart := false, narrowed := true }
def FnNrSetInt64UptoSaid : Prop := fnNrSetInt64UptoRow.holds Try.pinned (OpenSpec.upto fnNrSetInt64Spec)

/-- 'laws.FnNrSquareMul', WHERE WHAT IT READS IS OF BULK AT MOST 1048576: true; the input reads as it did. -/
def fnNrSquareMulUptoRow : OpenClaim := { program := "ytakddcclpocejaa", sum := "d6442428a11ab72706994a5c438570c3f0032f0c9d420f84b46ec37d51c46605", func := "loop.example/pub-g03342/laws.FnNrSquareMul", spec := "fnNrSquareMul", inPlace := ["math/bits.Add64", "math/bits.Sub64"], apart := false, narrowed := true }
def FnNrSquareMulUptoSaid : Prop := fnNrSquareMulUptoRow.holds Try.pinned (OpenSpec.upto fnNrSquareMulSpec)

end Rows
end Go.Proofs.Ytakddcclpocejaa
