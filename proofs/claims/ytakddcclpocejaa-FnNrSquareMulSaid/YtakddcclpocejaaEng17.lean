/-
  The walk by reckoning: a contract, stated once, carried to a call.
-/
import Derived.Test.YtakddcclpocejaaEng16
namespace Eng
open Go Go.RowKit

structure K where
  f : Nat
  args : List SV
  mem : List (List SC × Bool)
  m : Nat
  id : Nat
  mout : Nat
  ret : SV
  mem1 : List (List SC × Bool)

/-- The cells that a contract writes. -/
def TpOf (β : List (Nat × Nat)) (mem : List (List SC × Bool)) (b o : Nat) : Prop :=
  ∃ (r : Nat) (cs : List SC) (x : Nat × Nat), mem[r]? = some (cs, true) ∧ β[r]? = some x ∧ b = x.1 ∧ x.2 ≤ o ∧ o < x.2 + cs.length

/-- What the contract says. -/
def KOk (P : Program) (A : Ask) (κ : K) : Prop :=
  ∀ (env : List Int) (β : List (Nat × Nat)) (vs : List Value) (w : World), env.length = κ.m → MRel w (TpOf β κ.mem) env β κ.mem w → All2 (SV.is env β) κ.args vs → A.pre κ.id env →
    Calls P κ.f vs.toArray w (fun e w' => ∃ ys β' v, ys.length = κ.mout ∧ A.post κ.id env ys ∧ e = .returned v ∧ Longer β β' ∧ κ.ret.is (env ++ ys) β' v ∧
      MRel w (TpOf β κ.mem) (env ++ ys) β' κ.mem1 w' ∧ (∀ i x, κ.mem.length ≤ i → β'[i]? = some x → w.heap.size ≤ x.1))

def SW.beq : SW → SW → Bool
  | .cc x, .cc y => x.beq y
  | .aa l, .aa m => listBeq SC.beq l m
  | _, _ => false
theorem SW.beq_eq {a b : SW} (h : a.beq b = true) : a = b := by
  cases a <;> cases b <;> simp only [SW.beq] at h <;> first | cases h | skip
  · rw [SC.beq_eq h]
  · rw [listBeq_eq (fun _ _ => SC.beq_eq) h]
def SV.beq : SV → SV → Bool
  | .ww x, .ww y => x.beq y
  | .tt l, .tt m => listBeq SW.beq l m
  | _, _ => false
theorem SV.beq_eq {a b : SV} (h : a.beq b = true) : a = b := by
  cases a <;> cases b <;> simp only [SV.beq] at h <;> first | cases h | skip
  · rw [SW.beq_eq h]
  · rw [listBeq_eq (fun _ _ => SW.beq_eq) h]

/-- Names met. -/
structure Met where
  i : List (Nat × SI)
  r : List (Nat × Nat)

def mtC (m : Met) : SC → SC → Met
  | .ii _ (.var x), .ii _ e => { m with i := (x, e) :: m.i }
  | .bb (.var x), .bb (.var y) => { m with i := (x, .var y) :: m.i }
  | .bb (.var x), .bb (.lit true) => { m with i := (x, .lit 1) :: m.i }
  | .bb (.var x), .bb (.lit false) => { m with i := (x, .lit 0) :: m.i }
  | .pp r _, .pp r' _ => { m with r := (r, r') :: m.r }
  | .ss r _ _ _, .ss r' _ _ _ => { m with r := (r, r') :: m.r }
  | _, _ => m
def mtL (m : Met) : List SC → List SC → Met
  | x :: l, y :: n => mtL (mtC m x y) l n
  | _, _ => m
def mtW (m : Met) : List SW → List SW → Met
  | .cc x :: l, .cc y :: n => mtW (mtC m x y) l n
  | .aa x :: l, .aa y :: n => mtW (mtL m x y) l n
  | _, _ => m
def mtA (m : Met) : List SV → List SV → Met
  | .tt x :: l, .tt y :: n => mtA (mtW m x y) l n
  | .ww (.cc x) :: l, .ww (.cc y) :: n => mtA (mtC m x y) l n
  | .ww (.aa x) :: l, .ww (.aa y) :: n => mtA (mtL m x y) l n
  | _ :: l, _ :: n => mtA m l n
  | _, _ => m
def mtR (m : Met) (S : St) : Nat → List (List SC × Bool) → Met
  | _, [] => m
  | i, (cs, _) :: r => match lk i m.r with
    | some r' => match S.mem[r']? with
      | some (ds, _) => mtR (mtL m cs ds) S (i + 1) r
      | none => m
    | none => m

def getAll {α : Type} (l : List (Nat × α)) : Nat → Nat → Option (List α)
  | _, 0 => some []
  | i, n + 1 => match lk i l, getAll l (i + 1) n with
    | some x, some r => some (x :: r)
    | _, _ => none

def nodupB : List Nat → Bool
  | [] => true
  | x :: l => !(l.elem x) && nodupB l

def notW (r : Nat) : List Nat → List (List SC × Bool) → Bool
  | x :: l, (_, w) :: km => !(Nat.beq x r && w) && notW r l km
  | _, _ => true
/-- Two regions may be one where neither is written. -/
def aliasB : List Nat → List (List SC × Bool) → Bool
  | r :: l, (_, w) :: km => (!w || !(l.elem r)) && (notW r l km && aliasB l km)
  | _, _ => true

/-- The contract's regions stand in the state. -/
def memB (σ : List SI) (ρ : List Nat) (S : St) : Nat → List (List SC × Bool) → List (List SC × Bool) → Bool
  | _, [], _ => true
  | i, (cs, wr) :: r, l1 => (match ρ[i]?, optl (SC.sub σ ρ) cs with
    | some r', some ds => (match S.mem[r']? with
      | some (es, wr') => listBeq SC.beq ds es && (!wr || wr')
      | none => false)
    | _, _ => false) && (match l1 with
    | (cs1, _) :: _ => Nat.beq cs1.length cs.length
    | [] => false) && memB σ ρ S (i + 1) r l1.tail

def posOf (r : Nat) : Nat → List Nat → Option Nat
  | _, [] => none
  | i, x :: l => bif Nat.beq x r then some i else posOf r (i + 1) l

def upAt (σ : List SI) (ρ' ρ : List Nat) (km km1 : List (List SC × Bool)) (r : Nat) (x : List SC × Bool) : Option (List SC × Bool) :=
  match posOf r 0 ρ with
  | none => some x
  | some i => match km[i]?, km1[i]? with
    | some (_, true), some (cs1, _) => match optl (SC.sub σ ρ') cs1 with
      | some ds => some (ds, true)
      | none => none
    | some (_, false), _ => some x
    | _, _ => none

/-- The regions behind the call: those that are written. -/
def upMem (σ : List SI) (ρ' ρ : List Nat) (km km1 : List (List SC × Bool)) : Nat → List (List SC × Bool) → Option (List (List SC × Bool))
  | _, [] => some []
  | r, x :: l => match upAt σ ρ' ρ km km1 r x, upMem σ ρ' ρ km km1 (r + 1) l with
    | some y, some n => some (y :: n)
    | _, _ => none
def newOne (σ : List SI) (ρ : List Nat) (x : List SC × Bool) : Option (List SC × Bool) :=
  match optl (SC.sub σ ρ) x.1 with
  | some ds => some (ds, x.2)
  | none => none

def inB (n : Nat) : List SI → Bool
  | [] => true
  | .lit _ :: l => inB n l
  | .var x :: l => Nat.blt x n && inB n l

def varsFrom (n m : Nat) : List SI := (List.range m).map fun i => .var (n + i)
def regsFrom (n m : Nat) : List Nat := (List.range m).map fun i => n + i

def K.names (κ : K) (args : List SV) (S : St) : Option (List SI × List Nat) :=
  match getAll (mtR (mtA ⟨[], []⟩ κ.args args) S 0 κ.mem).i 0 κ.m, getAll (mtA ⟨[], []⟩ κ.args args).r 0 κ.mem.length with
  | some σ, some ρ => match optl (SV.sub σ ρ) κ.args with
    | some as => bif listBeq SV.beq as args && (aliasB ρ κ.mem && (inB S.ne σ && memB σ ρ S 0 κ.mem κ.mem1)) then some (σ, ρ) else none
    | none => none
  | _, _ => none
def K.use (κ : K) (args : List SV) (S : St) : Option CR :=
  match κ.names args S with
  | some (σ, ρ) =>
    match κ.ret.sub (σ ++ varsFrom S.ne κ.mout) (ρ ++ regsFrom S.mem.length (κ.mem1.length - κ.mem.length)),
      upMem (σ ++ varsFrom S.ne κ.mout) (ρ ++ regsFrom S.mem.length (κ.mem1.length - κ.mem.length)) ρ κ.mem κ.mem1 0 S.mem,
      optl (newOne (σ ++ varsFrom S.ne κ.mout) (ρ ++ regsFrom S.mem.length (κ.mem1.length - κ.mem.length))) (κ.mem1.drop κ.mem.length) with
    | some ret, some m1, some m2 => some { id := κ.id, xs := σ, m := κ.mout, ret := ret, mem := m1 ++ m2 }
    | _, _, _ => none
  | none => none

def conOf : List K → Nat → List SV → St → Option CR
  | [], _, _, _ => none
  | κ :: r, f, args, S => match (bif Nat.beq κ.f f then κ.use args S else none) with
    | some c => some c
    | none => conOf r f args S
end Eng
