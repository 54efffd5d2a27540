/-
  The walk by reckoning: code and calls; a tree that holds shows what the code does.
-/
import Derived.Test.YtakddcclpocejaaEng12b
namespace Eng
open Go Go.RowKit

def xres1 (P : Program) (S : St) : ResultVar → Option SW
  | .tmp t => match lk t S.tm with
    | some (.ww x) => some x
    | _ => none
  | .cell at_ ty => match lk at_ S.tm with
    | some u => match xLoad P S ty u with
      | .val [] (.ww x) => some x
      | _ => none
    | none => none

def xresl (P : Program) (S : St) : List ResultVar → Option (List SW)
  | [] => some []
  | r :: l => match xres1 P S r, xresl P S l with
    | some x, some m => some (x :: m)
    | _, _ => none

def xres (P : Program) (S : St) (l : List ResultVar) : Option SV :=
  match xresl P S l with
  | some [x] => some (.ww x)
  | some m => some (.tt m)
  | none => none

def tmOf : Nat → List SV → List (Nat × SV)
  | _, [] => []
  | i, v :: r => (i, v) :: tmOf (i + 1) r

def enterSt (f : Nat) (fn : Func) (args : List SV) (S : St) : St :=
  { S with nt := args.length + (fn.ntmps - args.length), tm := tmOf 0 args, fn := f, blk := 0 }

def xcall (C : Cfg) (rec : Nat → Code → St → (SX → St → Tree) → Tree) (f : Nat) (args : List SV) (S : St) (kk : SV → St → Tree) : Tree :=
  match C.con f args S with
  | some r => .hav r.id r.xs r.m (kk r.ret { S with mem := r.mem, ne := S.ne + r.m })
  | none => match C.P.funcs[f]? with
    | some fn => match fn.body with
      | some c => rec f c (enterSt f fn args S) (fun e S' => match e with
        | .exit _ => .bad 6
        | _ => match xres C.P S' fn.results.toList with
          | some v => kk v { S with fx := S'.fx, bt := S'.bt, mem := S'.mem, ne := S'.ne }
          | none => .bad 7)
      | none => .bad 8
    | none => .bad 9

def prTree (S : St) (k : SX → St → Tree) (r : PR) : Tree := .hav r.id r.xs r.m (k r.e { S with tm := r.tm, mem := r.mem, ne := S.ne + r.m })

def xcode (C : Cfg) : Nat → Nat → Nat → Code → St → (SX → St → Tree) → Tree
  | 0, _, _, _, _, _ => .bad 10
  | n + 1, fn, blk, c, S, k => match c with
    | .skip => k .normal S
    | .label _ => k .normal S
    | .region id ops draw => match C.pcon fn (2 * id + 1) S with
      | some l => allT (l.map (prTree S k))
      | none => bif draw then
        (bif planB ops (tagOf C.ext) (masks ops.toList []) then xops C (xcall C (fun f => xcode C n f 0)) ops ops.toList S (k .normal) else
          bif Region.noSelect ops then xany C (xcall C (fun f => xcode C n f 0)) ops (dmask ops.toList) (bmask ops ops.toList 0 ops.toList) (protOf ops.toList S) S.mem ops.size 0 S (k .normal) else .bad 11)
        else xops C (xcall C (fun f => xcode C n f 0)) ops ops.toList S (k .normal)
    | .seq x y => xcode C n fn blk x S (fun e S' => match e with
      | .normal => xcode C n fn blk y S' k
      | e => k e S')
    | .cond c x y => match xev S c with
      | some (.ww (.cc (.bb e))) => match know S e with
        | .lit t => bif t then xcode C n fn blk x S k else xcode C n fn blk y S k
        | .var v => .br v (xcode C n fn blk x { S with fx := (v, true) :: S.fx } k) (xcode C n fn blk y { S with fx := (v, false) :: S.fx } k)
      | _ => .bad 12
    | .block id x => xcode C n fn id x S (fun e S' => match e with
      | .exit i => bif Nat.beq i id then k .normal S' else k e S'
      | e => k e S')
    | .loop x => match C.pcon fn (2 * blk) S with
      | some l => allT (l.map (prTree S k))
      | none => xcode C n fn blk x S (fun e S' => match e with
        | .normal => xcode C n fn blk (.loop x) S' k
        | e => k e S')
    | .exit id => k (.exit id) S
    | .scope x => xcode C n fn blk x S k
    | .ret => k .ret S
    | _ => .bad 13

/-- The loops and the regions of code, each with its number. -/
def pieces : Nat → Code → List (Nat × Code)
  | blk, .seq x y => pieces blk x ++ pieces blk y
  | blk, .cond _ x y => pieces blk x ++ pieces blk y
  | _, .block id x => pieces id x
  | blk, .loop x => (2 * blk, .loop x) :: pieces blk x
  | _, .region id ops d => [(2 * id + 1, .region id ops d)]
  | blk, .scope x => pieces blk x
  | _, _ => []
/-- A piece of a function. -/
def InF (P : Program) (fn : Nat) (p : Nat × Code) : Prop := ∃ f body, P.funcs[fn]? = some f ∧ f.body = some body ∧ p ∈ pieces 0 body

section
variable {C : Cfg} {A : Ask} {W0 : World} {Tp : Nat → Nat → Prop} {env : List Int} {β : List (Nat × Nat)} {S : St} {a : Act} {w : World}

theorem xguard_ok {ops : Array Oper} {Q : Exit → Act → World → Prop} {t : Nat} {o : Oper} {kr ks : St → Tree} {K : Act → World → Prop} (hF : FRel env β S a)
    (h : (xguard ops o S kr ks).holds A env)
    (hr : ∀ S', FRel env β S' a → S'.mem = S.mem → (∀ a' : Act, a'.tmps = a.tmps → Region.wanted o (yielded ops a'.tmps) = true) → (kr S').holds A env → wpT C.P ops Q t o K a w)
    (hs : ∀ S', FRel env β S' a → S'.mem = S.mem → (ks S').holds A env → K (a.put o.dst undef) w) : wpT C.P ops Q t o K a w := by
  rcases xguard_cases hF h with ⟨S1, hF1, hm1, hw, h1⟩ | ⟨S1, hF1, hm1, hw, h1⟩
  · exact hr S1 hF1 hm1 hw h1
  · unfold wpT
    rw [if_neg (by rw [hw]; decide)]
    exact hs S1 hF1 hm1 h1

theorem xops_ok (hE : Ext C.P C.ext) {xc : Nat → List SV → St → (SV → St → Tree) → Tree} (hxc : XcOk C A W0 Tp xc) {ops : Array Oper} {Q : Exit → Act → World → Prop} {k : St → Tree} :
    ∀ (l : List Oper) (S : St) (env : List Int) (β : List (Nat × Nat)) (a : Act) (w : World), FRel env β S a → MRel W0 Tp env β S.mem w → (xops C xc ops l S k).holds A env →
      After A W0 Tp env β k (Q .normal) → listT C.P ops Q (tagOf C.ext) l a w
  | [], S, env, β, a, w, hF, hM, h, hk => hk S env β a w (Longer.refl _) (Longer.refl _) hF hM h
  | o :: l, S, env, β, a, w, hF, hM, h, hk => by
    refine xguard_ok (S := S) hF h ?_ ?_
    · intro S' hF' hm hw hh
      refine xstep_ok hE hxc hw 2 S' hF' (by rw [hm]; exact hM) hh ?_
      intro S2 env2 β2 a2 w2 he hb hF2 hM2 h2
      exact xops_ok hE hxc l S2 env2 β2 a2 w2 hF2 hM2 h2 (hk.more he hb)
    · intro S' hF' hm hh
      refine putK_ok hF' (v := .tt []) (u := undef) ⟨[], rfl, trivial⟩ hh ?_
      intro S2 a2 hF2 hm2 h2
      exact xops_ok hE hxc l S2 env β a2 w hF2 (by rw [hm2, hm]; exact hM) h2 hk

/-- One result. -/
def resF (tmps : Array Value) : ResultVar → Sem Value
  | .tmp t => pure (tmps.getD t undef)
  | .cell b t => do loadVar t (← asAddr (tmps.getD b undef))

theorem results_eq (fn : Func) (tmps : Array Value) : results fn tmps = (do
    let vs ← fn.results.mapM (resF tmps)
    pure (if h : vs.size = 1 then vs[0] else .tuple vs)) := by
  unfold results
  congr 1

theorem xres1_is (hF : FRel env β S a) (hM : MRel W0 Tp env β S.mem w) {r : ResultVar} {x : SW} (h : xres1 C.P S r = some x) :
    ∃ v, x.is env β v ∧ (resF a.tmps r).run C.P w = .ok v w := by
  cases r with
  | tmp t =>
    simp only [xres1] at h
    split at h
    · rename_i y hy
      injection h with h
      subst h
      obtain ⟨v, hv, hs⟩ := hF.tm t _ hy
      exact ⟨v, hs, by simp [resF, hv]⟩
    · cases h
  | cell b t =>
    simp only [xres1] at h
    split at h
    · rename_i u hu
      obtain ⟨v, hv, hs⟩ := hF.tm b _ hu
      split at h
      · rename_i y hy
        injection h with h
        subst h
        obtain ⟨_, z, hz, hrun⟩ := load_val (P := C.P) hM.cells hs hy
        refine ⟨z, hz, ?_⟩
        -- the address is one
        have hp : ∃ p, v = .pointer (some p) := by
          unfold xLoad at hy
          split at hy
          · obtain ⟨x, _, e⟩ := hs
            exact ⟨_, e⟩
          · cases hy
        obtain ⟨p, rfl⟩ := hp
        simpa [resF, hv, asAddr, Instr.loadAt, Instr.sureAddr] using hrun
      · cases h
    · cases h

theorem xresl_is (hF : FRel env β S a) (hM : MRel W0 Tp env β S.mem w) : ∀ {l : List ResultVar} {m : List SW}, xresl C.P S l = some m →
    ∃ vs, All2 (SW.is env β) m vs ∧ (l.mapM (resF a.tmps)).run C.P w = .ok vs w
  | [], m, h => by
    simp [xresl] at h
    subst h
    exact ⟨[], trivial, by simp⟩
  | r :: l, m, h => by
    unfold xresl at h
    split at h
    · rename_i x n hx hn
      injection h with h
      subst h
      obtain ⟨v, hv, hrun⟩ := xres1_is hF hM hx
      obtain ⟨vs, hvs, hrl⟩ := xresl_is hF hM hn
      refine ⟨v :: vs, ⟨hv, hvs⟩, ?_⟩
      rw [List.mapM_cons]
      simp only [Sem.run_bind]
      rw [hrun]
      simp only [Result.andThen_ok]
      rw [hrl]
      rfl
    · cases h

theorem xres_is (hF : FRel env β S a) (hM : MRel W0 Tp env β S.mem w) {fn : Func} {v : SV} (h : xres C.P S fn.results.toList = some v) :
    ∃ u, v.is env β u ∧ (results fn a.tmps).run C.P w = .ok u w := by
  unfold xres at h
  have key : ∀ m, xresl C.P S fn.results.toList = some m → ∃ vs, All2 (SW.is env β) m vs ∧ (results fn a.tmps).run C.P w = .ok (if h : vs.toArray.size = 1 then vs.toArray[0] else .tuple vs.toArray) w := by
    intro m hm
    obtain ⟨vs, hvs, hrun⟩ := xresl_is (C := C) hF hM hm
    refine ⟨vs, hvs, ?_⟩
    rw [results_eq, Array.mapM_eq_mapM_toList]
    simp only [Sem.run_bind, Sem.run_map]
    rw [hrun]
    rfl
  split at h
  · rename_i x hm
    injection h with h
    subst h
    obtain ⟨vs, hvs, hrun⟩ := key _ hm
    obtain ⟨u, rfl, hu⟩ := all2_one hvs
    exact ⟨u, hu, by simpa using hrun⟩
  · rename_i m hne hm
    injection h with h
    subst h
    obtain ⟨vs, hvs, hrun⟩ := key _ hm
    refine ⟨.tuple vs.toArray, ⟨vs, rfl, hvs⟩, ?_⟩
    have : ¬ vs.toArray.size = 1 := by
      intro h1
      have hl := hvs.length
      simp at h1
      match m, hl, hne with
      | [x], _, hne => exact hne x rfl
      | [], hl, _ => simp at hl; omega
      | _ :: _ :: _, hl, _ => simp at hl; omega
    rw [dif_neg this] at hrun
    exact hrun
  · cases h
end
end Eng
