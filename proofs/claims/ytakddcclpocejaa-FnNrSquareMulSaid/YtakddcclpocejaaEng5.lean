/-
  One operation of the walk by reckoning: what it yields, and why.
-/
import Derived.Test.YtakddcclpocejaaEng4
import Derived.ChangeKeysEq
namespace Eng
open Go Go.RowKit

inductive XR where
  | fail
  | val (defs : List (IOp × List SI)) (v : SV)
  | sto (r o : Nat) (cs : List SC)
  | new (t : TypeId) (cs : List SC) (v : SC)
  | ask (x : Nat)
  | call (f : Nat) (args : List SV)

def runDefs (env : List Int) : List (IOp × List SI) → List Int
  | [] => env
  | (o, xs) :: r => runDefs (env ++ [o.ev (xs.map (·.val env))]) r

theorem runDefs_more : ∀ (defs : List (IOp × List SI)) (env : List Int), ∃ e', runDefs env defs = env ++ e' ∧ e'.length = defs.length
  | [], env => ⟨[], by simp [runDefs], rfl⟩
  | (o, xs) :: r, env => by
    obtain ⟨e', h, hl⟩ := runDefs_more r (env ++ [o.ev (xs.map (·.val env))])
    exact ⟨o.ev (xs.map (·.val env)) :: e', by rw [runDefs, h]; simp, by simp [hl]⟩

def scv (x : SC) : SV := .ww (.cc x)

def xev (S : St) : Operand → Option SV
  | .tmp t => lk t S.tm
  | .const v => (ofVal v).map scv
  | .global g => some (scv (.kk (.pointer (some ⟨g, 0, none⟩))))
  | .func f => some (scv (.kk (.func (.func f) #[] #[])))

def xevs (S : St) : List Operand → Option (List SV)
  | [] => some []
  | x :: r => match xev S x, xevs S r with
    | some v, some l => some (v :: l)
    | _, _ => none

def usz (P : Program) (t : TypeId) : Option Nat := (P.info? t).map (·.size)
def aggB (P : Program) (t : TypeId) : Option Bool := (P.underlying t).map fun | .struct _ | .array _ _ => true | _ => false

/-- What is known of a truth value. -/
def know (S : St) : SB → SB
  | .lit b => .lit b
  | .var x => match lk x S.fx with
    | some t => .lit t
    | none => .var x

def lits : List SI → Option (List Int)
  | [] => some []
  | .lit n :: r => (lits r).map (n :: ·)
  | .var _ :: _ => none

/-- An integer that an operation yields: at once where all is known. -/
def mkI (S : St) (k : IntKind) (o : IOp) (xs : List SI) : XR :=
  match lits xs with
  | some l => bif decide (k.wrap (o.ev l) = o.ev l) then .val [] (scv (.ii k (.lit (o.ev l)))) else .fail
  | none => .val [(o, xs)] (scv (.ii k (.var S.ne)))
def mkB (S : St) (o : IOp) (xs : List SI) : XR :=
  match lits xs with
  | some l => .val [] (scv (.bb (.lit (decide (o.ev l = 1)))))
  | none => .val [(o, xs)] (scv (.bb (.var S.ne)))

def arithB : BinOp → Bool
  | .add | .sub | .mul | .and | .or | .xor | .andNot => true
  | _ => false
def cmpB : BinOp → Bool
  | .eql | .neq | .lss | .leq | .gtr | .geq => true
  | _ => false
def unsB : IntKind → Bool
  | .u8 | .u16 | .u32 | .u64 => true
  | _ => false
def nneB (k : IntKind) : SI → Bool
  | .lit n => decide (0 ≤ n)
  | .var _ => unsB k
def nzB : SI → Bool
  | .lit n => decide (n ≠ 0)
  | .var _ => false

def intsOf : List SC → Option (List SI)
  | [] => some []
  | .ii .u64 e :: r => (intsOf r).map (e :: ·)
  | _ :: _ => none

def xBinI (S : St) (op : BinOp) (k k' : IntKind) (e e' : SI) : XR :=
  match op with
  | .shl | .shr => bif nneB k' e' then mkI S k (.bin op k) [e, e'] else .fail
  | .quo | .rem => bif decide (k = k') && nzB e' then mkI S k (.bin op k) [e, e'] else .fail
  | _ => bif decide (k = k') then (bif arithB op then mkI S k (.bin op k) [e, e'] else bif cmpB op then mkB S (.cmp op) [e, e'] else .fail) else .fail

def xBinB (P : Program) (S : St) (op : BinOp) (t : TypeId) (e e' : SB) : XR :=
  match op, P.underlying t with
  | .eql, some .bool => mkB S (.cmp .eql) [(know S e).si, (know S e').si]
  | .neq, some .bool => mkB S (.cmp .neq) [(know S e).si, (know S e').si]
  | _, _ => .fail

def xBinA (P : Program) (S : St) (op : BinOp) (t : TypeId) (l m : List SC) : XR :=
  match P.underlying t, intsOf l, intsOf m with
  | some (.array n el), some xs, some ys =>
    bif decide (xs.length = n) && decide (ys.length = n) && decide (usz P el = some 1) && !(P.eqGuardType P.depth t) then
      (match P.underlying el, op with
       | some (.int .u64), .eql => .val [(.eqs n, xs ++ ys)] (scv (.bb (.var S.ne)))
       | some (.int .u64), .neq => .val [(.eqs n, xs ++ ys), (.cmp .neq, [.var S.ne, .lit 1])] (scv (.bb (.var (S.ne + 1))))
       | _, _ => .fail) else .fail
  | _, _, _ => .fail

def xBin (P : Program) (S : St) (op : BinOp) (t : TypeId) (u v : SV) : XR :=
  match u, v with
  | .ww (.cc (.ii k e)), .ww (.cc (.ii k' e')) => xBinI S op k k' e e'
  | .ww (.cc (.bb e)), .ww (.cc (.bb e')) => xBinB P S op t e e'
  | .ww (.aa l), .ww (.aa m) => xBinA P S op t l m
  | _, _ => .fail

def xIndex (P : Program) (t : TypeId) : SV → SV → XR
  | .ww (.cc (.pp r q)), .ww (.cc (.ii _ (.lit n))) =>
    match P.underlying t with
    | some (.array len el) => match usz P el with
      | some sz => bif decide (0 ≤ n) && decide (n < (len : Int)) then .val [] (scv (.pp r (q + n.toNat * sz))) else .fail
      | none => .fail
    | _ => .fail
  | .ww (.cc (.ss r q len _)), .ww (.cc (.ii _ (.lit n))) =>
    match P.underlying t with
    | some (.slice el) => match usz P el with
      | some sz => bif decide (0 ≤ n) && decide (n < (len : Int)) then .val [] (scv (.pp r (q + n.toNat * sz))) else .fail
      | none => .fail
    | _ => .fail
  | _, _ => .fail

def xLoad (P : Program) (S : St) (t : TypeId) : SV → XR
  | .ww (.cc (.pp r q)) =>
    match S.mem[r]?, aggB P t, usz P t with
    | some (cs, _), some true, some sz => bif decide (q + sz ≤ cs.length) then .val [] (.ww (.aa ((cs.drop q).take sz))) else .fail
    | some (cs, _), some false, _ => match cs[q]? with
      | some x => .val [] (scv x)
      | none => .fail
    | _, _, _ => .fail
  | _ => .fail

def xStore (P : Program) (S : St) (t : TypeId) : SV → SV → XR
  | .ww (.cc (.pp r q)), .ww v =>
    match S.mem[r]?, usz P t with
    | some (cs, true), some sz => bif decide (v.cells.length = sz) && decide (q + sz ≤ cs.length) then .sto r q v.cells else .fail
    | _, _ => .fail
  | _, _ => .fail

def zeroOf (P : Program) (t : TypeId) : Option (List SC) :=
  match P.info? t with
  | some i => match i.zero with
    | some z => ofVals z.cells.toList
    | none => none
  | none => none

/-- Parts of one cell each, laid into the cells. -/
def xFill : List SC → List (Nat × SV) → Option (List SC)
  | cs, [] => some cs
  | cs, (i, .ww (.cc x)) :: r => bif Nat.blt i cs.length then xFill (cs.set i x) r else none
  | _, _ :: _ => none

def xParts (S : St) : List (Nat × Operand) → Option (List (Nat × SV))
  | [] => some []
  | (i, x) :: r => match xev S x, xParts S r with
    | some v, some l => some ((i, v) :: l)
    | _, _ => none

def xSlice (P : Program) (t : TypeId) (x : SV) (lo hi : Option SV) : XR :=
  match P.underlying t, x with
  | some (.array n el), .ww (.cc (.pp r q)) =>
    match usz P el, lo, hi with
    | some sz, none, none => .val [] (scv (.ss r (q + 0 * sz) n n))
    | some sz, some (.ww (.cc (.ii _ (.lit l)))), some (.ww (.cc (.ii _ (.lit h)))) =>
      bif decide (0 ≤ l) && decide (l ≤ h) && decide (h ≤ (n : Int)) && decide (l < (n : Int)) then .val [] (scv (.ss r (q + l.toNat * sz) (h.toNat - l.toNat) (n - l.toNat))) else .fail
    | _, _, _ => .fail
  | _, _ => .fail

/-- It is known to be 0 or 1. -/
def bitB (S : St) : SI → Bool
  | .lit n => decide (n = 0) || decide (n = 1)
  | .var v => S.bt.elem v

def xCall (ext : Nat → Nat) (S : St) (f : Nat) (args : List SV) : XR :=
  match ext f, args with
  | 1, [.ww (.cc (.ii .u64 x)), .ww (.cc (.ii .u64 y)), .ww (.cc (.ii .u64 c))] =>
    bif bitB S c then
      .val [(.addS, [x, y, c]), (.addC, [x, y, c])] (.tt [.cc (.ii .u64 (.var S.ne)), .cc (.ii .u64 (.var (S.ne + 1)))])
    else .fail
  | 2, [.ww (.cc (.ii .u64 x)), .ww (.cc (.ii .u64 y)), .ww (.cc (.ii .u64 c))] =>
    bif bitB S c then
      .val [(.subD, [x, y, c]), (.subB, [x, y, c])] (.tt [.cc (.ii .u64 (.var S.ne)), .cc (.ii .u64 (.var (S.ne + 1)))])
    else .fail
  | 0, _ => .call f args
  | _, _ => .fail

def smallB (P : Program) (el : TypeId) : Bool :=
  match P.info? el with
  | some i => Nat.ble i.bytes 16
  | none => false

def xval (P : Program) (ext : Nat → Nat) (o : Oper) (S : St) : XR :=
  match o.op with
  | .move x | .assign x => match xev S x with
    | some v => .val [] v
    | none => .fail
  | .nilCheck x => match xev S x with
    | some (.ww (.cc (.pp r q))) => .val [] (scv (.pp r q))
    | _ => .fail
  | .pick c a b => match xev S c, xev S a, xev S b with
    | some (.ww (.cc (.bb e))), some u, some v => match know S e with
      | .lit t => .val [] (if t then u else v)
      | .var x => .ask x
    | _, _, _ => .fail
  | .extract t i => match xev S t with
    | some (.tt l) => match l[i]? with
      | some x => .val [] (.ww x)
      | none => .fail
    | _ => .fail
  | .indexAddr t x ix => match xev S x, xev S ix with
    | some u, some v => xIndex P t u v
    | _, _ => .fail
  | .load t a => match xev S a with
    | some u => xLoad P S t u
    | none => .fail
  | .store t a x => match xev S a, xev S x with
    | some u, some v => xStore P S t u v
    | _, _ => .fail
  | .alloc t => match zeroOf P t with
    | some cs => .new t cs (.pp S.mem.length 0)
    | none => .fail
  | .box t x => match xev S x with
    | some (.ww v) => .new t v.cells (.pp S.mem.length 0)
    | _ => .fail
  | .build t parts => match P.underlying t, zeroOf P t, xParts S parts.toList with
    | some (.array _ el), some z, some ps => bif decide (usz P el = some 1) then (match xFill z ps with
        | some cs => .val [] (.ww (.aa cs))
        | none => .fail) else .fail
    | _, _, _ => .fail
  | .buildSlice t len parts => match P.underlying t with
    | some (.slice el) => match zeroOf P el, xParts S parts.toList with
      | some [z], some ps => bif decide (usz P el = some 1) && Nat.blt 0 len && Nat.ble len 4096 then (match xFill (List.replicate len z) ps with
          | some cs => .new el cs (.ss S.mem.length 0 len len)
          | none => .fail) else .fail
      | _, _ => .fail
    | _ => .fail
  | .makeSlice t l c => match P.underlying t, xev S l, xev S c with
    | some (.slice el), some (.ww (.cc (.ii _ (.lit n)))), some (.ww (.cc (.ii _ (.lit m)))) => match zeroOf P el with
      | some [z] => bif decide (usz P el = some 1) && decide (0 ≤ n) && decide (n = m) && decide (n ≤ 4096) && smallB P el then
          .new el (List.replicate n.toNat z) (.ss S.mem.length 0 n.toNat n.toNat) else .fail
      | _ => .fail
    | _, _, _ => .fail
  | .slice t x lo hi mx => match mx, xev S x with
    | none, some u => match lo, hi with
      | none, none => xSlice P t u none none
      | some l, some h => match xev S l, xev S h with
        | some a, some b => xSlice P t u (some a) (some b)
        | _, _ => .fail
      | _, _ => .fail
    | _, _ => .fail
  | .binOp op t x y _ => match xev S x, xev S y with
    | some u, some v => xBin P S op t u v
    | _, _ => .fail
  | .unOp .not _ x => match xev S x with
    | some (.ww (.cc (.bb e))) => match know S e with
      | .lit t => .val [] (scv (.bb (.lit (!t))))
      | .var x => .ask x
    | _ => .fail
  | .convert s d x => match P.underlying s, P.underlying d, xev S x with
    | some _, some (.int k), some (.ww (.cc (.ii _ e))) => mkI S k (.conv k) [e]
    | _, _, _ => .fail
  | .call c => match c.callee with
    | .builtin .len => match c.args.toList, c.argTypes[0]? with
      | [x], some t => match P.underlying t, xev S x with
        | some (.slice _), some (.ww (.cc (.ss _ _ n _))) => bif Nat.ble n 9223372036854775807 then .val [] (scv (.ii .i64 (.lit n))) else .fail
        | some (.array n _), some _ => bif Nat.ble n 9223372036854775807 then .val [] (scv (.ii .i64 (.lit n))) else .fail
        | _, _ => .fail
      | _, _ => .fail
    | .value (.func f) => match xevs S c.args.toList with
      | some l => xCall ext S f l
      | none => .fail
    | _ => .fail
  | _ => .fail

def tagOf (ext : Nat → Nat) (o : Oper) : Nat :=
  match o.op with
  | .load _ _ => 1
  | .move _ | .assign _ | .nilCheck _ | .pick _ _ _ | .extract _ _ | .indexAddr _ _ _ | .build _ _ | .slice _ _ _ _ _ | .binOp _ _ _ _ _ | .unOp _ _ _ | .convert _ _ _ => 0
  | .call c => match c.callee with
    | .builtin .len => 0
    | .builtin .max => 0
    | .builtin .min => 0
    | .value (.func f) => if ext f = 0 then 2 else 0
    | _ => 2
  | _ => 2
end Eng
