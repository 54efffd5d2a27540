/-
  The walk by reckoning: what is known of a program's functions, from a few closed facts.
-/
import Derived.Test.YtakddcclpocejaaEng14
namespace Eng
open Go Go.RowKit

def okB (P : Program) (f : Nat) : Bool :=
  match P.funcs[f]? with
  | some fn => !(fn.name == "runtime.NumGoroutine") && fn.body.isSome
  | none => false

/-- Functions lo .. hi are entered, but for Add64 and Sub64. -/
def mkExt (add sub lo hi : Nat) (f : Nat) : Nat :=
  bif Nat.beq f add then 1 else bif Nat.beq f sub then 2 else bif Nat.ble lo f && Nat.ble f hi then 0 else 3

def addE : Array Value → Sem Value := fun args => do
  let (x, y, c) ← Extern.MathBitsCarry.three "Add64" args
  pure (Extern.MathBitsCarry.pair ((x + y + c) % Extern.MathBitsCarry.m64) ((x + y + c) / Extern.MathBitsCarry.m64))
def subE : Array Value → Sem Value := fun args => do
  let (x, y, b) ← Extern.MathBitsCarry.three "Sub64" args
  pure (Extern.MathBitsCarry.pair ((x + Extern.MathBitsCarry.m64 - y - b) % Extern.MathBitsCarry.m64) (if x < y + b then 1 else 0))

section
variable {P : Program}

theorem three_eq (s : String) (a b c : Value) : ∃ u, Extern.MathBitsCarry.three s #[a, b, c] = (do
    let c := (← asInt c).toNat
    if c > 1 then unsupported u
    pure ((← asInt a).toNat, (← asInt b).toNat, c)) := ⟨_, rfl⟩

theorem run_three (s : String) (x y c : Int) (hc : c.toNat ≤ 1) (w : World) :
    (Extern.MathBitsCarry.three s #[.int .u64 x, .int .u64 y, .int .u64 c]).run P w = .ok (x.toNat, y.toNat, c.toNat) w := by
  have h : ¬ c.toNat > 1 := by omega
  obtain ⟨u, hu⟩ := three_eq s (.int .u64 x) (.int .u64 y) (.int .u64 c)
  rw [hu]
  simp only [asInt, asIntOf, Sem.run_bind, Sem.run_pure, Result.andThen_ok]
  rw [if_neg h]
  rfl

theorem run_addE (x y c : Int) (hx : fits .u64 x) (hy : fits .u64 y) (hc : c.toNat ≤ 1) (w : World) :
    (addE #[.int .u64 x, .int .u64 y, .int .u64 c]).run P w = .ok (.tuple #[.int .u64 (IOp.addS.ev [x, y, c]), .int .u64 (IOp.addC.ev [x, y, c])]) w := by
  unfold addE
  rw [Sem.run_bind, run_three _ x y c hc]
  simp only [Result.andThen_ok, Sem.run_pure, Extern.MathBitsCarry.pair, Extern.MathBitsCarry.m64]
  rw [fits_iff] at hx hy
  simp only [kMin, kMax] at hx hy
  have e1 : Int.ofNat ((x.toNat + y.toNat + c.toNat) % 2 ^ 64) = IOp.addS.ev [x, y, c] := by
    simp only [IOp.ev, List.getD_cons_zero, List.getD_cons_succ]; rfl
  have e2 : Int.ofNat ((x.toNat + y.toNat + c.toNat) / 2 ^ 64) = IOp.addC.ev [x, y, c] := by
    simp only [IOp.ev, List.getD_cons_zero, List.getD_cons_succ, b01]
    by_cases h : 18446744073709551616 ≤ x.toNat + y.toNat + c.toNat
    · simp only [h, decide_true, if_true, Int.ofNat_eq_natCast]
      omega
    · simp only [h, decide_false, Bool.false_eq_true, if_false, Int.ofNat_eq_natCast]
      omega
  rw [e1, e2]

theorem run_subE (x y c : Int) (hc : c.toNat ≤ 1) (w : World) :
    (subE #[.int .u64 x, .int .u64 y, .int .u64 c]).run P w = .ok (.tuple #[.int .u64 (IOp.subD.ev [x, y, c]), .int .u64 (IOp.subB.ev [x, y, c])]) w := by
  unfold subE
  rw [Sem.run_bind, run_three _ x y c hc]
  simp only [Result.andThen_ok, Sem.run_pure, Extern.MathBitsCarry.pair, Extern.MathBitsCarry.m64]
  have e1 : Int.ofNat ((x.toNat + 2 ^ 64 - y.toNat - c.toNat) % 2 ^ 64) = IOp.subD.ev [x, y, c] := by
    simp only [IOp.ev, List.getD_cons_zero, List.getD_cons_succ]; rfl
  have e2 : Int.ofNat (if x.toNat < y.toNat + c.toNat then 1 else 0) = IOp.subB.ev [x, y, c] := by
    simp only [IOp.ev, List.getD_cons_zero, List.getD_cons_succ, b01]
    by_cases h : x.toNat < y.toNat + c.toNat
    · simp [h]
    · simp [h]
  rw [e1, e2]

theorem run_enter {f : Nat} (h : okB P f = true) (args : Array Value) (w : World) : (callFunc f args).run P w = .ok (.enter f args) w := by
  unfold okB at h
  split at h
  · rename_i fn hf
    rw [Bool.and_eq_true] at h
    obtain ⟨h1, h2⟩ := h
    have h1 : ¬ (fn.name == "runtime.NumGoroutine") = true := by
      intro h3; rw [h3] at h1; cases h1
    have h2 : ¬ fn.body.isNone = true := by
      intro h3
      cases hb : fn.body <;> simp [hb] at h2 h3
    unfold callFunc
    simp only [Sem.run_bind, run_program, Result.andThen_ok, hf]
    rw [if_neg h1, if_neg h2]
    rfl
  · cases h

theorem ext_of {add sub lo hi : Nat} {fa fs : Func}
    (ha : P.funcs[add]? = some fa) (ha1 : (fa.name == "runtime.NumGoroutine") = false) (ha2 : fa.body.isNone = true) (ha3 : Extern.findNext fa = none) (ha4 : Extern.find fa = some addE)
    (hs : P.funcs[sub]? = some fs) (hs1 : (fs.name == "runtime.NumGoroutine") = false) (hs2 : fs.body.isNone = true) (hs3 : Extern.findNext fs = none) (hs4 : Extern.find fs = some subE)
    (hall : (List.range' lo (hi + 1 - lo)).all (fun f => Nat.beq f add || Nat.beq f sub || okB P f) = true) : Ext P (mkExt add sub lo hi) := by
  refine ⟨?_, ?_, ?_⟩
  · intro f hf x y c w hx hy hc
    have : f = add := by
      unfold mkExt at hf
      cases h1 : Nat.beq f add
      · simp only [h1, cond_false] at hf
        cases h2 : Nat.beq f sub
        · simp only [h2, cond_false] at hf
          cases h3 : (Nat.ble lo f && Nat.ble f hi) <;> simp [h3] at hf
        · simp [h2] at hf
      · exact Nat.eq_of_beq_eq_true h1
    subst this
    rw [run_callFunc_extern ha ha1 ha2 ha3 ha4, run_addE x y c hx hy hc]
    rfl
  · intro f hf x y c w hc
    have : f = sub := by
      unfold mkExt at hf
      cases h1 : Nat.beq f add
      · simp only [h1, cond_false] at hf
        cases h2 : Nat.beq f sub
        · simp only [h2, cond_false] at hf
          cases h3 : (Nat.ble lo f && Nat.ble f hi) <;> simp [h3] at hf
        · exact Nat.eq_of_beq_eq_true h2
      · simp [h1] at hf
    subst this
    rw [run_callFunc_extern hs hs1 hs2 hs3 hs4, run_subE x y c hc]
    rfl
  · intro f hf args w
    refine run_enter ?_ args w
    unfold mkExt at hf
    cases h1 : Nat.beq f add
    · simp only [h1, cond_false] at hf
      cases h2 : Nat.beq f sub
      · simp only [h2, cond_false] at hf
        cases h3 : (Nat.ble lo f && Nat.ble f hi)
        · simp [h3] at hf
        · rw [Bool.and_eq_true] at h3
          have l1 := Nat.le_of_ble_eq_true h3.1
          have l2 := Nat.le_of_ble_eq_true h3.2
          have := List.all_eq_true.1 hall f (List.mem_range'_1.2 ⟨l1, by omega⟩)
          simpa [h1, h2] using this
      · simp [h2] at hf
    · simp [h1] at hf
end
end Eng
