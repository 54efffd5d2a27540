/-
  The walk by reckoning: calls, contracts, loops. No conditions.
-/
import Derived.Test.YtajhellohcibiaaDoorEngA
section
/-
  The walk by reckoning: code and calls; a tree that holds shows what the code does.
-/
namespace Eng
open Go Go.RowKit

def xres1 (P : Program) (S : St) : ResultVar → Option SW
  | .tmp t => match lk t S.tm with
    | some (.ww x) => some x
    | _ => none
  | .cell at_ ty => match lk at_ S.tm with
    | some u => match xLoad P S ty u with
      | .val [] (.ww x) => some x
      | _ => none
    | none => none

def xresl (P : Program) (S : St) : List ResultVar → Option (List SW)
  | [] => some []
  | r :: l => match xres1 P S r, xresl P S l with
    | some x, some m => some (x :: m)
    | _, _ => none

def xres (P : Program) (S : St) (l : List ResultVar) : Option SV :=
  match xresl P S l with
  | some [x] => some (.ww x)
  | some m => some (.tt m)
  | none => none

def tmOf : Nat → List SV → List (Nat × SV)
  | _, [] => []
  | i, v :: r => (i, v) :: tmOf (i + 1) r

def enterSt (f : Nat) (fn : Func) (args : List SV) (S : St) : St :=
  { S with nt := args.length + (fn.ntmps - args.length), tm := tmOf 0 args, fn := f, blk := 0 }

def xcall (C : Cfg) (rec : Nat → Code → St → (SX → St → Tree) → Tree) (f : Nat) (args : List SV) (S : St) (kk : SV → St → Tree) : Tree :=
  match C.con f args S with
  | some r => .hav r.id r.xs r.m (kk r.ret { S with mem := r.mem, ne := S.ne + r.m })
  | none => match C.P.funcs[f]? with
    | some fn => match fn.body with
      | some c => rec f c (enterSt f fn args S) (fun e S' => match e with
        | .exit _ => .bad 6
        | _ => match xres C.P S' fn.results.toList with
          | some v => kk v { S with fx := S'.fx, bt := S'.bt, mem := S'.mem, ne := S'.ne }
          | none => .bad 7)
      | none => .bad 8
    | none => .bad 9

def prTree (S : St) (k : SX → St → Tree) (r : PR) : Tree := .hav r.id r.xs r.m (k r.e { S with tm := r.tm, mem := r.mem, ne := S.ne + r.m })

def xcode (C : Cfg) : Nat → Nat → Nat → Code → St → (SX → St → Tree) → Tree
  | 0, _, _, _, _, _ => .bad 10
  | n + 1, fn, blk, c, S, k => match c with
    | .skip => k .normal S
    | .label _ => k .normal S
    | .region id ops draw => match C.pcon fn (2 * id + 1) S with
      | some l => allT (l.map (prTree S k))
      | none => bif draw then
        (bif planB ops (tagOf C.ext) (masks ops.toList []) then xops C (xcall C (fun f => xcode C n f 0)) ops ops.toList S (k .normal) else
          bif Region.noSelect ops then xany C (xcall C (fun f => xcode C n f 0)) ops (dmask ops.toList) (bmask ops ops.toList 0 ops.toList) (protOf ops.toList S) S.mem ops.size 0 S (k .normal) else .bad 11)
        else xops C (xcall C (fun f => xcode C n f 0)) ops ops.toList S (k .normal)
    | .seq x y => xcode C n fn blk x S (fun e S' => match e with
      | .normal => xcode C n fn blk y S' k
      | e => k e S')
    | .cond c x y => match xev S c with
      | some (.ww (.cc (.bb e))) => match know S e with
        | .lit t => bif t then xcode C n fn blk x S k else xcode C n fn blk y S k
        | .var v => .br v (xcode C n fn blk x { S with fx := (v, true) :: S.fx } k) (xcode C n fn blk y { S with fx := (v, false) :: S.fx } k)
      | _ => .bad 12
    | .block id x => xcode C n fn id x S (fun e S' => match e with
      | .exit i => bif Nat.beq i id then k .normal S' else k e S'
      | e => k e S')
    | .loop x => match C.pcon fn (2 * blk) S with
      | some l => allT (l.map (prTree S k))
      | none => xcode C n fn blk x S (fun e S' => match e with
        | .normal => xcode C n fn blk (.loop x) S' k
        | e => k e S')
    | .exit id => k (.exit id) S
    | .scope x => xcode C n fn blk x S k
    | .ret => k .ret S
    | _ => .bad 13

/-- The loops and the regions of code, each with its number. -/
def pieces : Nat → Code → List (Nat × Code)
  | blk, .seq x y => pieces blk x ++ pieces blk y
  | blk, .cond _ x y => pieces blk x ++ pieces blk y
  | _, .block id x => pieces id x
  | blk, .loop x => (2 * blk, .loop x) :: pieces blk x
  | _, .region id ops d => [(2 * id + 1, .region id ops d)]
  | blk, .scope x => pieces blk x
  | _, _ => []
/-- A piece of a function. -/
def InF (P : Program) (fn : Nat) (p : Nat × Code) : Prop := ∃ f body, P.funcs[fn]? = some f ∧ f.body = some body ∧ p ∈ pieces 0 body

section
variable {C : Cfg} {A : Ask} {W0 : World} {Tp : Nat → Nat → Prop} {env : List Int} {β : List (Nat × Nat)} {S : St} {a : Act} {w : World}

theorem xguard_ok {ops : Array Oper} {Q : Exit → Act → World → Prop} {t : Nat} {o : Oper} {kr ks : St → Tree} {K : Act → World → Prop} (hF : FRel env β S a)
    (h : (xguard ops o S kr ks).holds A env)
    (hr : ∀ S', FRel env β S' a → S'.mem = S.mem → (∀ a' : Act, a'.tmps = a.tmps → Region.wanted o (yielded ops a'.tmps) = true) → (kr S').holds A env → wpT C.P ops Q t o K a w)
    (hs : ∀ S', FRel env β S' a → S'.mem = S.mem → (ks S').holds A env → K (a.put o.dst undef) w) : wpT C.P ops Q t o K a w := by
  rcases xguard_cases hF h with ⟨S1, hF1, hm1, hw, h1⟩ | ⟨S1, hF1, hm1, hw, h1⟩
  · exact hr S1 hF1 hm1 hw h1
  · unfold wpT
    rw [if_neg (by rw [hw]; decide)]
    exact hs S1 hF1 hm1 h1

theorem xops_ok (hE : Ext C.P C.ext) {xc : Nat → List SV → St → (SV → St → Tree) → Tree} (hxc : XcOk C A W0 Tp xc) {ops : Array Oper} {Q : Exit → Act → World → Prop} {k : St → Tree} :
    ∀ (l : List Oper) (S : St) (env : List Int) (β : List (Nat × Nat)) (a : Act) (w : World), FRel env β S a → MRel W0 Tp env β S.mem w → (xops C xc ops l S k).holds A env →
      After A W0 Tp env β k (Q .normal) → listT C.P ops Q (tagOf C.ext) l a w
  | [], S, env, β, a, w, hF, hM, h, hk => hk S env β a w (Longer.refl _) (Longer.refl _) hF hM h
  | o :: l, S, env, β, a, w, hF, hM, h, hk => by
    refine xguard_ok (S := S) hF h ?_ ?_
    · intro S' hF' hm hw hh
      refine xstep_ok hE hxc hw 2 S' hF' (by rw [hm]; exact hM) hh ?_
      intro S2 env2 β2 a2 w2 he hb hF2 hM2 h2
      exact xops_ok hE hxc l S2 env2 β2 a2 w2 hF2 hM2 h2 (hk.more he hb)
    · intro S' hF' hm hh
      refine putK_ok hF' (v := .tt []) (u := undef) ⟨[], rfl, trivial⟩ hh ?_
      intro S2 a2 hF2 hm2 h2
      exact xops_ok hE hxc l S2 env β a2 w hF2 (by rw [hm2, hm]; exact hM) h2 hk

/-- One result. -/
def resF (tmps : Array Value) : ResultVar → Sem Value
  | .tmp t => pure (tmps.getD t undef)
  | .cell b t => do loadVar t (← asAddr (tmps.getD b undef))

theorem results_eq (fn : Func) (tmps : Array Value) : results fn tmps = (do
    let vs ← fn.results.mapM (resF tmps)
    pure (if h : vs.size = 1 then vs[0] else .tuple vs)) := by
  unfold results
  congr 1

theorem xres1_is (hF : FRel env β S a) (hM : MRel W0 Tp env β S.mem w) {r : ResultVar} {x : SW} (h : xres1 C.P S r = some x) :
    ∃ v, x.is env β v ∧ (resF a.tmps r).run C.P w = .ok v w := by
  cases r with
  | tmp t =>
    simp only [xres1] at h
    split at h
    · rename_i y hy
      injection h with h
      subst h
      obtain ⟨v, hv, hs⟩ := hF.tm t _ hy
      exact ⟨v, hs, by simp [resF, hv]⟩
    · cases h
  | cell b t =>
    simp only [xres1] at h
    split at h
    · rename_i u hu
      obtain ⟨v, hv, hs⟩ := hF.tm b _ hu
      split at h
      · rename_i y hy
        injection h with h
        subst h
        obtain ⟨_, z, hz, hrun⟩ := load_val (P := C.P) hM.cells hs hy
        refine ⟨z, hz, ?_⟩
        -- the address is one
        have hp : ∃ p, v = .pointer (some p) := by
          unfold xLoad at hy
          split at hy
          · obtain ⟨x, _, e⟩ := hs
            exact ⟨_, e⟩
          · cases hy
        obtain ⟨p, rfl⟩ := hp
        simpa [resF, hv, asAddr, Instr.loadAt, Instr.sureAddr] using hrun
      · cases h
    · cases h

theorem xresl_is (hF : FRel env β S a) (hM : MRel W0 Tp env β S.mem w) : ∀ {l : List ResultVar} {m : List SW}, xresl C.P S l = some m →
    ∃ vs, All2 (SW.is env β) m vs ∧ (l.mapM (resF a.tmps)).run C.P w = .ok vs w
  | [], m, h => by
    simp [xresl] at h
    subst h
    exact ⟨[], trivial, by simp⟩
  | r :: l, m, h => by
    unfold xresl at h
    split at h
    · rename_i x n hx hn
      injection h with h
      subst h
      obtain ⟨v, hv, hrun⟩ := xres1_is hF hM hx
      obtain ⟨vs, hvs, hrl⟩ := xresl_is hF hM hn
      refine ⟨v :: vs, ⟨hv, hvs⟩, ?_⟩
      rw [List.mapM_cons]
      simp only [Sem.run_bind]
      rw [hrun]
      simp only [Result.andThen_ok]
      rw [hrl]
      rfl
    · cases h

theorem xres_is (hF : FRel env β S a) (hM : MRel W0 Tp env β S.mem w) {fn : Func} {v : SV} (h : xres C.P S fn.results.toList = some v) :
    ∃ u, v.is env β u ∧ (results fn a.tmps).run C.P w = .ok u w := by
  unfold xres at h
  have key : ∀ m, xresl C.P S fn.results.toList = some m → ∃ vs, All2 (SW.is env β) m vs ∧ (results fn a.tmps).run C.P w = .ok (if h : vs.toArray.size = 1 then vs.toArray[0] else .tuple vs.toArray) w := by
    intro m hm
    obtain ⟨vs, hvs, hrun⟩ := xresl_is (C := C) hF hM hm
    refine ⟨vs, hvs, ?_⟩
    rw [results_eq, Array.mapM_eq_mapM_toList]
    simp only [Sem.run_bind, Sem.run_map]
    rw [hrun]
    rfl
  split at h
  · rename_i x hm
    injection h with h
    subst h
    obtain ⟨vs, hvs, hrun⟩ := key _ hm
    obtain ⟨u, rfl, hu⟩ := all2_one hvs
    exact ⟨u, hu, by simpa using hrun⟩
  · rename_i m hne hm
    injection h with h
    subst h
    obtain ⟨vs, hvs, hrun⟩ := key _ hm
    refine ⟨.tuple vs.toArray, ⟨vs, rfl, hvs⟩, ?_⟩
    have : ¬ vs.toArray.size = 1 := by
      intro h1
      have hl := hvs.length
      simp at h1
      match m, hl, hne with
      | [x], _, hne => exact hne x rfl
      | [], hl, _ => simp at hl; omega
      | _ :: _ :: _, hl, _ => simp at hl; omega
    rw [dif_neg this] at hrun
    exact hrun
  · cases h
end
end Eng
end
section
/-
  The walk by reckoning: a tree that holds shows what the code does; a call.
-/
namespace Eng
open Go Go.RowKit

/-- What the contracts say is true. -/
def ConOk (C : Cfg) (A : Ask) : Prop :=
  ∀ (f : Nat) (args : List SV) (S : St) (r : CR), C.con f args S = some r → ∀ (env : List Int) (β : List (Nat × Nat)) (vs : List Value) (w W0 : World) (Tp : Nat → Nat → Prop),
    Facts env S → MRel W0 Tp env β S.mem w → All2 (SV.is env β) args vs → A.pre r.id (r.xs.map (·.val env)) →
    Calls C.P f vs.toArray w (fun e w' => ∃ ys β' v, ys.length = r.m ∧ A.post r.id (r.xs.map (·.val env)) ys ∧ e = .returned v ∧ Longer β β' ∧ r.ret.is (env ++ ys) β' v ∧ MRel W0 Tp (env ++ ys) β' r.mem w')

/-- The rounds of a loop, however many. -/
def LoopRuns (P : Program) (c : Code) (Q : Exit → Act → World → Prop) (a : Act) (w : World) : Prop :=
  ∀ R : Act → World → Prop, (∀ a w, c.wp P (Exit.then R Q) a w → R a w) → R a w
theorem LoopRuns.step {P : Program} {c : Code} {Q : Exit → Act → World → Prop} {a : Act} {w : World} (h : c.wp P (Exit.then (LoopRuns P c Q) Q) a w) : LoopRuns P c Q a w := by
  intro R hR
  refine hR a w (Code.wp_mono ?_ h)
  intro e a' w' he
  cases e with
  | normal => exact he R hR
  | _ => exact he
theorem LoopRuns.loop {P : Program} {c : Code} {Q : Exit → Act → World → Prop} {a : Act} {w : World} (h : LoopRuns P c Q a w) : (Code.loop c).wp P Q a w := by
  intro b k cs
  obtain ⟨e, a', w', hq, harr⟩ := h (fun a w => ∃ e a' w', Q e a' w' ∧ Arrives P (lone (b.at a (.code c :: .inLoop c :: k)) cs w) b k cs e a' w') (by
    intro a w h
    obtain ⟨e, a₁, w₁, hq, harr⟩ := h b (.inLoop c :: k) cs
    cases e with
    | normal =>
      obtain ⟨e₂, a₂, w₂, hq₂, harr₂⟩ := hq
      exact ⟨e₂, a₂, w₂, hq₂, .of_steps (Steps.trans harr (.one step_inLoop)) harr₂⟩
    | exit id => exact ⟨_, a₁, w₁, hq, .pass (x := .inLoop c) rfl (fun _ _ => .inl (by simp)) harr⟩
    | goto l => exact ⟨_, a₁, w₁, hq, .pass (x := .inLoop c) rfl (fun _ _ => .inl (by simp)) harr⟩
    | ret => exact ⟨_, a₁, w₁, hq, .pass (x := .inLoop c) rfl (fun _ _ => .inl (by simp)) harr⟩
    | panic ch => exact ⟨_, a₁, w₁, hq, .pass (x := .inLoop c) rfl (fun _ _ => .inl (by simp)) harr⟩
    | outgrown => exact ⟨_, a₁, w₁, hq, .pass (x := .inLoop c) rfl (fun _ _ => .inl (by simp)) harr⟩)
  exact ⟨e, a', w', hq, .of_steps (.one step_loop) harr⟩
/-- What is shown of a piece: of a loop, its rounds. -/
def PieceWp (P : Program) (c : Code) (Q : Exit → Act → World → Prop) (a : Act) (w : World) : Prop :=
  match c with
  | .loop x => LoopRuns P x Q a w
  | c => c.wp P Q a w
theorem PieceWp.wp {P : Program} {c : Code} {Q : Exit → Act → World → Prop} {a : Act} {w : World} (h : PieceWp P c Q a w) : c.wp P Q a w := by
  cases c <;> first | exact h | exact LoopRuns.loop h

/-- What the contracts of pieces say is true. -/
def PcOk (C : Cfg) (A : Ask) : Prop :=
  ∀ (fn key : Nat) (c : Code) (S : St) (l : List PR), InF C.P fn (key, c) → C.pcon fn key S = some l → ∀ (env : List Int) (β : List (Nat × Nat)) (a : Act) (w W0 : World) (Tp : Nat → Nat → Prop) (Q : Exit → Act → World → Prop),
    Calm Q → FRel env β S a → MRel W0 Tp env β S.mem w → (∀ r, r ∈ l → A.pre r.id (r.xs.map (·.val env))) →
    (∀ r, r ∈ l → ∀ (ys : List Int) (β' : List (Nat × Nat)) (a' : Act) (w' : World), ys.length = r.m → A.post r.id (r.xs.map (·.val env)) ys → Longer β β' →
      FRel (env ++ ys) β' { S with tm := r.tm, mem := r.mem, ne := S.ne + r.m } a' → MRel W0 Tp (env ++ ys) β' r.mem w' → Q r.e.ex a' w') → PieceWp C.P c Q a w

theorem Calm.then {Q : Exit → Act → World → Prop} {K : Act → World → Prop} (h : Calm Q) : Calm (Exit.then K Q) :=
  ⟨fun c a w => h.pan c a w, fun ⟨a, w, hq⟩ => h.out ⟨a, w, hq⟩⟩
theorem Calm.inBlock {Q : Exit → Act → World → Prop} {id : Nat} (h : Calm Q) : Calm (Exit.inBlock id Q) :=
  ⟨fun c a w => h.pan c a w, fun ⟨a, w, hq⟩ => h.out ⟨a, w, hq⟩⟩
theorem Calm.noGoto {Q : Exit → Act → World → Prop} (h : Calm Q) : Calm (Exit.noGoto Q) :=
  ⟨fun c a w => h.pan c a w, fun ⟨a, w, hq⟩ => h.out ⟨a, w, hq⟩⟩

theorem tmOf_lk : ∀ (args : List SV) (i d : Nat), lk d (tmOf i args) = if i ≤ d then args[d - i]? else none
  | [], i, d => by simp [tmOf, lk]
  | v :: r, i, d => by
    rw [tmOf]
    by_cases h : i = d
    · subst h; rw [lk_cons_same]; simp
    · rw [lk_cons_ne _ _ h, tmOf_lk r (i + 1) d]
      by_cases h2 : i + 1 ≤ d
      · rw [if_pos h2, if_pos (by omega)]
        rw [show d - i = (d - (i + 1)) + 1 from by omega]
        simp
      · rw [if_neg h2, if_neg (by omega)]

section
variable {C : Cfg} {A : Ask} {W0 : World} {Tp : Nat → Nat → Prop}

/-- What follows a piece of code. -/
def Behind (A : Ask) (W0 : World) (Tp : Nat → Nat → Prop) (env : List Int) (β : List (Nat × Nat)) (k : SX → St → Tree) (Q : Exit → Act → World → Prop) : Prop :=
  ∀ (e : SX) (S' : St) (env' : List Int) (β' : List (Nat × Nat)) (a' : Act) (w' : World), Longer env env' → Longer β β' → FRel env' β' S' a' → MRel W0 Tp env' β' S'.mem w' →
    (k e S').holds A env' → Q e.ex a' w'

theorem Behind.more {env env' : List Int} {β β' : List (Nat × Nat)} {k : SX → St → Tree} {Q : Exit → Act → World → Prop} (h : Behind A W0 Tp env β k Q) (he : Longer env env') (hb : Longer β β') :
    Behind A W0 Tp env' β' k Q :=
  fun e S' e' b' a' w' he' hb' => h e S' e' b' a' w' (he.trans he') (hb.trans hb')

/-- Of all code at this fuel. -/
def CodeOk (C : Cfg) (A : Ask) (W0 : World) (Tp : Nat → Nat → Prop) (n : Nat) : Prop :=
  ∀ (fn blk : Nat) (c : Code) (S : St) (k : SX → St → Tree) (Q : Exit → Act → World → Prop) (env : List Int) (β : List (Nat × Nat)) (a : Act) (w : World), (∀ p, p ∈ pieces blk c → InF C.P fn p) →
    Calm Q → FRel env β S a → MRel W0 Tp env β S.mem w → (xcode C n fn blk c S k).holds A env → Behind A W0 Tp env β k Q → c.wp C.P Q a w
def LoopOk (C : Cfg) (A : Ask) (W0 : World) (Tp : Nat → Nat → Prop) (n : Nat) : Prop :=
  ∀ (fn blk : Nat) (x : Code) (S : St) (k : SX → St → Tree) (Q : Exit → Act → World → Prop) (env : List Int) (β : List (Nat × Nat)) (a : Act) (w : World), (∀ p, p ∈ pieces blk (.loop x) → InF C.P fn p) →
    Calm Q → FRel env β S a → MRel W0 Tp env β S.mem w → (xcode C n fn blk (.loop x) S k).holds A env → Behind A W0 Tp env β k Q → LoopRuns C.P x Q a w

theorem enter_frel {env : List Int} {β : List (Nat × Nat)} {S : St} (hf : Facts env S) {f : Nat} {fn : Func} {args : List SV} {vs : List Value} (ha : All2 (SV.is env β) args vs) :
    FRel env β (enterSt f fn args S) { tmps := vs.toArray ++ Array.replicate (fn.ntmps - vs.toArray.size) undef, defers := [] } := by
  have hl := ha.length
  refine ⟨hf.ne, rfl, by simp [enterSt, hl], fun d sv hd => ?_, hf.fx, hf.bt⟩
  simp only [enterSt] at hd
  rw [tmOf_lk] at hd
  simp only [Nat.zero_le, if_true, Nat.sub_zero] at hd
  obtain ⟨v, hv, hs⟩ := ha.get hd
  refine ⟨v, ?_, hs⟩
  have hlt := (List.getElem?_eq_some_iff.1 hv).1
  rw [Array.getElem?_append_left (by simpa using hlt)]
  simpa using hv

theorem xcall_ok (hC : ConOk C A) {n : Nat} (hn : CodeOk C A W0 Tp n) : XcOk C A W0 Tp (xcall C (fun f => xcode C n f 0)) := by
  intro f args S kk env β w vs R hext hf hM hall h hk
  unfold xcall at h
  split at h
  · rename_i r hr
    obtain ⟨hp, hh⟩ := h
    refine (hC f args S r hr env β vs w W0 Tp hf hM hall hp).mono ?_
    rintro e w' ⟨ys, β', v, hl, hpost, rfl, hb, hv, hM'⟩
    refine ⟨v, rfl, hk r.ret v { S with mem := r.mem, ne := S.ne + r.m } (env ++ ys) β' w' ⟨ys, rfl⟩ hb ⟨?_, ?_, ?_⟩ rfl rfl hM' hv (hh ys hl hpost)⟩
    · simp [hf.ne, hl]
    · intro x t hx; exact get_more (hf.fx x t hx) ys
    · intro x hx
      rcases hf.bt x hx with h1 | h1
      · exact .inl (get_more h1 ys)
      · exact .inr (get_more h1 ys)
  · split at h
    · rename_i fn hfn
      split at h
      · rename_i c hc
        refine calls_of_wp hfn hc ?_
        have hcalm : Calm (bodyPost C.P fn fun e w' => ∃ u, e = Ending.returned u ∧ R u w') :=
          ⟨fun c a w hq => (by obtain ⟨_, u, hu, _⟩ := hq; cases hu), fun ⟨a, w, hq⟩ => (by obtain ⟨u, hu, _⟩ := hq; cases hu)⟩
        refine hn f 0 c _ _ _ env β _ w (fun p hp => ⟨fn, c, hfn, hc, hp⟩) hcalm (enter_frel hf hall) hM h ?_
        intro e S' env' β' a' w' he hb hF' hM' hh
        have fin : (match xres C.P S' fn.results.toList with
            | some v => kk v { S with fx := S'.fx, bt := S'.bt, mem := S'.mem, ne := S'.ne }
            | none => .bad 7 : Tree).holds A env' → a'.defers = [] ∧ ∃ v, (results fn a'.tmps).run C.P w' = .ok v w' ∧ ∃ u, Ending.returned v = Ending.returned u ∧ R u w' := by
          intro hh
          split at hh
          · rename_i v hv
            obtain ⟨u, hu, hrun⟩ := xres_is (C := C) hF' hM' hv
            exact ⟨hF'.nd, u, hrun, u, rfl, hk v u { S with fx := S'.fx, bt := S'.bt, mem := S'.mem, ne := S'.ne } env' β' w' he hb ⟨hF'.ne, hF'.fx, hF'.bt⟩ rfl rfl hM' hu hh⟩
          · exact hh.elim
        cases e with
        | normal => exact fin hh
        | ret => exact fin hh
        | exit id => exact hh.elim
      · exact h.elim
    · exact h.elim

theorem arr_lit (ops : Array Oper) : ops = ops.toList.toArray := by simp

theorem pr_ok (hP : PcOk C A) {fn key : Nat} {c : Code} {S : St} {l : List PR} {k : SX → St → Tree} {Q : Exit → Act → World → Prop} {env : List Int} {β : List (Nat × Nat)} {a : Act} {w : World}
    (hin : InF C.P fn (key, c)) (hl : C.pcon fn key S = some l) (hQ : Calm Q) (hF : FRel env β S a) (hM : MRel W0 Tp env β S.mem w) (h : (allT (l.map (prTree S k))).holds A env) (hk : Behind A W0 Tp env β k Q) :
    PieceWp C.P c Q a w := by
  have hT := fun r hr => allT_holds h (prTree S k r) (List.mem_map.2 ⟨r, hr, rfl⟩)
  exact hP fn key c S l hin hl env β a w W0 Tp Q hQ hF hM (fun r hr => (hT r hr).1) fun r hr ys β' a' w' hyl hpost hb hF' hM' =>
    hk r.e _ (env ++ ys) β' a' w' ⟨ys, rfl⟩ hb hF' hM' ((hT r hr).2 ys hyl hpost)

theorem code_ok (hm : C.P.follows .mixedOrders = true) (hE : Ext C.P C.ext) (hC : ConOk C A) (hP : PcOk C A) : ∀ n, CodeOk C A W0 Tp n ∧ LoopOk C A W0 Tp n
  | 0 => ⟨fun fn blk c S k Q env β a w _ _ _ _ h _ => h.elim, fun fn blk x S k Q env β a w _ _ _ _ h _ => h.elim⟩
  | n + 1 => by
    obtain ⟨ih, il⟩ := code_ok hm hE hC hP n
    have loop : LoopOk C A W0 Tp (n + 1) := by
      intro fn blk x S k Q env β a w hsub hQ hF hM h hk
      simp only [xcode] at h
      split at h
      · rename_i l hl
        exact pr_ok hP (hsub _ (List.mem_cons_self ..)) hl hQ hF hM h hk
      · refine LoopRuns.step (ih fn blk x S _ _ env β a w (fun p hp => hsub p (List.mem_cons_of_mem _ hp)) hQ.then hF hM h ?_)
        intro e S' env' β' a' w' he hb hF' hM' hh
        cases e with
        | normal => exact il fn blk x S' k Q env' β' a' w' hsub hQ hF' hM' hh (hk.more he hb)
        | ret => exact hk .ret S' env' β' a' w' he hb hF' hM' hh
        | exit id => exact hk (.exit id) S' env' β' a' w' he hb hF' hM' hh
    refine ⟨?_, loop⟩
    intro fn blk c S k Q env β a w hsub hQ hF hM h hk
    cases c with
    | skip => exact wp_skip (hk .normal S env β a w (Longer.refl _) (Longer.refl _) hF hM h)
    | label l => exact wp_label (hk .normal S env β a w (Longer.refl _) (Longer.refl _) hF hM h)
    | region id ops draw =>
      have aft : After A W0 Tp env β (k .normal) (Q .normal) := fun S' env' β' a' w' he hb hF' hM' hh => hk .normal S' env' β' a' w' he hb hF' hM' hh
      simp only [xcode] at h
      split at h
      · rename_i l hl
        exact (pr_ok hP (hsub _ (List.mem_cons_self ..)) hl hQ hF hM h hk).wp
      cases draw
      · simp only [cond_false] at h
        have hl := xops_ok hE (xcall_ok hC ih) (Q := Q) ops.toList S env β a w hF hM h aft
        have := region_still (id := id) (l := ops.toList) (tg := tagOf C.ext) (by rw [← arr_lit]; exact hl)
        rwa [← arr_lit] at this
      · simp only [cond_true] at h
        cases hp : planB ops (tagOf C.ext) (masks ops.toList [])
        · simp only [hp, cond_false] at h
          cases hsel : Region.noSelect ops
          · simp only [hsel, cond_false] at h; exact h.elim
          · simp only [hsel, cond_true] at h
            refine wp_region_held hm (xany_ok hE (xcall_ok hC ih) hsel hQ hM.drew ops.size 0 _ S env β a _ ⟨by simp, fun j => by rw [getD_replicate_false']; simp⟩ (Longer.refl _) (Longer.refl _) hF hM.drew (protOf_same _ _) h aft)
        · simp only [hp, cond_true] at h
          have hl := xops_ok hE (xcall_ok hC ih) (Q := Q) ops.toList S env β a { w with drawn := w.drawn + 1 } hF hM.drew h aft
          have := region_draw (id := id) (l := ops.toList) (tg := tagOf C.ext) hm (by rw [← arr_lit]; exact hp) hQ (by rw [← arr_lit]; exact hl)
          rwa [← arr_lit] at this
    | seq x y =>
      refine wp_seq (ih fn blk x S _ _ env β a w (fun p hp => hsub p (List.mem_append_left _ hp)) hQ.then hF hM h ?_)
      intro e S' env' β' a' w' he hb hF' hM' hh
      cases e with
      | normal => exact ih fn blk y S' k Q env' β' a' w' (fun p hp => hsub p (List.mem_append_right _ hp)) hQ hF' hM' hh (hk.more he hb)
      | ret => exact hk .ret S' env' β' a' w' he hb hF' hM' hh
      | exit id => exact hk (.exit id) S' env' β' a' w' he hb hF' hM' hh
    | cond c x y =>
      simp only [xcode] at h
      split at h
      · rename_i e hc
        obtain ⟨t, ht, he⟩ := xev_is hF hc
        have hkn := know_is hF ht
        split at h
        · rename_i t' hk'
          rw [hk'] at hkn
          have hkn : t = t' := hkn
          subst hkn
          cases t
          · exact wp_cond_false he (ih fn blk y S k Q env β a w (fun p hp => hsub p (List.mem_append_right _ hp)) hQ hF hM h hk)
          · exact wp_cond_true he (ih fn blk x S k Q env β a w (fun p hp => hsub p (List.mem_append_left _ hp)) hQ hF hM h hk)
        · rename_i v hk'
          rw [hk'] at hkn
          have hx : env[v]? = some (b01 t) := hkn
          obtain ⟨h1, h2⟩ := h
          have hbit : env[v]? = some 0 ∨ env[v]? = some 1 := by rw [hx]; cases t <;> simp [b01]
          have hg : env.getD v 0 = b01 t := by simp [hx]
          cases t
          · exact wp_cond_false he (ih fn blk y { S with fx := (v, false) :: S.fx } k Q env β a w (fun p hp => hsub p (List.mem_append_right _ hp)) hQ (hF.know hg hbit) hM (h2 (by rw [hg]; rfl)) hk)
          · exact wp_cond_true he (ih fn blk x { S with fx := (v, true) :: S.fx } k Q env β a w (fun p hp => hsub p (List.mem_append_left _ hp)) hQ (hF.know hg hbit) hM (h1 (by rw [hg]; rfl)) hk)
      · exact h.elim
    | block id x =>
      refine wp_block (ih fn id x S _ _ env β a w hsub hQ.inBlock hF hM h ?_)
      intro e S' env' β' a' w' he hb hF' hM' hh
      cases e with
      | normal => exact hk .normal S' env' β' a' w' he hb hF' hM' hh
      | ret => exact hk .ret S' env' β' a' w' he hb hF' hM' hh
      | exit i =>
        cases hi : Nat.beq i id
        · simp only [hi, cond_false] at hh
          have hne : i ≠ id := fun e => by subst e; simp at hi
          show (if i = id then Q .normal a' w' else Q (.exit i) a' w')
          rw [if_neg hne]
          exact hk (.exit i) S' env' β' a' w' he hb hF' hM' hh
        · simp only [hi, cond_true] at hh
          have heq := Nat.eq_of_beq_eq_true hi
          show (if i = id then Q .normal a' w' else Q (.exit i) a' w')
          rw [if_pos heq]
          exact hk .normal S' env' β' a' w' he hb hF' hM' hh
    | loop x => exact LoopRuns.loop (loop fn blk x S k Q env β a w hsub hQ hF hM h hk)
    | exit id => exact wp_exit (hk (.exit id) S env β a w (Longer.refl _) (Longer.refl _) hF hM h)
    | scope x =>
      refine wp_scope_straight (ih fn blk x S _ _ env β a w hsub hQ.noGoto hF hM h ?_)
      intro e S' env' β' a' w' he hb hF' hM' hh
      cases e with
      | normal => exact hk .normal S' env' β' a' w' he hb hF' hM' hh
      | ret => exact hk .ret S' env' β' a' w' he hb hF' hM' hh
      | exit i => exact hk (.exit i) S' env' β' a' w' he hb hF' hM' hh
    | ret => exact wp_ret (hk .ret S env β a w (Longer.refl _) (Longer.refl _) hF hM h)
    | _ => exact h.elim

end
end Eng
end
section
/-
  The walk by reckoning: what is known of a program's functions, from a few closed facts.
-/
namespace Eng
open Go Go.RowKit

def okB (P : Program) (f : Nat) : Bool :=
  match P.funcs[f]? with
  | some fn => !(fn.name == "runtime.NumGoroutine") && fn.body.isSome
  | none => false

/-- Functions lo .. hi are entered, but for Add64 and Sub64. -/
def mkExt (add sub lo hi : Nat) (f : Nat) : Nat :=
  bif Nat.beq f add then 1 else bif Nat.beq f sub then 2 else bif Nat.ble lo f && Nat.ble f hi then 0 else 3

def addE : Array Value → Sem Value := fun args => do
  let (x, y, c) ← Extern.MathBitsCarry.three "Add64" args
  pure (Extern.MathBitsCarry.pair ((x + y + c) % Extern.MathBitsCarry.m64) ((x + y + c) / Extern.MathBitsCarry.m64))
def subE : Array Value → Sem Value := fun args => do
  let (x, y, b) ← Extern.MathBitsCarry.three "Sub64" args
  pure (Extern.MathBitsCarry.pair ((x + Extern.MathBitsCarry.m64 - y - b) % Extern.MathBitsCarry.m64) (if x < y + b then 1 else 0))

section
variable {P : Program}

theorem three_eq (s : String) (a b c : Value) : ∃ u, Extern.MathBitsCarry.three s #[a, b, c] = (do
    let c := (← asInt c).toNat
    if c > 1 then unsupported u
    pure ((← asInt a).toNat, (← asInt b).toNat, c)) := ⟨_, rfl⟩

theorem run_three (s : String) (x y c : Int) (hc : c.toNat ≤ 1) (w : World) :
    (Extern.MathBitsCarry.three s #[.int .u64 x, .int .u64 y, .int .u64 c]).run P w = .ok (x.toNat, y.toNat, c.toNat) w := by
  have h : ¬ c.toNat > 1 := by omega
  obtain ⟨u, hu⟩ := three_eq s (.int .u64 x) (.int .u64 y) (.int .u64 c)
  rw [hu]
  simp only [asInt, asIntOf, Sem.run_bind, Sem.run_pure, Result.andThen_ok]
  rw [if_neg h]
  rfl

theorem run_addE (x y c : Int) (hx : fits .u64 x) (hy : fits .u64 y) (hc : c.toNat ≤ 1) (w : World) :
    (addE #[.int .u64 x, .int .u64 y, .int .u64 c]).run P w = .ok (.tuple #[.int .u64 (IOp.addS.ev [x, y, c]), .int .u64 (IOp.addC.ev [x, y, c])]) w := by
  unfold addE
  rw [Sem.run_bind, run_three _ x y c hc]
  simp only [Result.andThen_ok, Sem.run_pure, Extern.MathBitsCarry.pair, Extern.MathBitsCarry.m64]
  rw [fits_iff] at hx hy
  simp only [kMin, kMax] at hx hy
  have e1 : Int.ofNat ((x.toNat + y.toNat + c.toNat) % 2 ^ 64) = IOp.addS.ev [x, y, c] := by
    simp only [IOp.ev, List.getD_cons_zero, List.getD_cons_succ]; rfl
  have e2 : Int.ofNat ((x.toNat + y.toNat + c.toNat) / 2 ^ 64) = IOp.addC.ev [x, y, c] := by
    simp only [IOp.ev, List.getD_cons_zero, List.getD_cons_succ, b01]
    by_cases h : 18446744073709551616 ≤ x.toNat + y.toNat + c.toNat
    · simp only [h, decide_true, if_true, Int.ofNat_eq_natCast]
      omega
    · simp only [h, decide_false, Bool.false_eq_true, if_false, Int.ofNat_eq_natCast]
      omega
  rw [e1, e2]

theorem run_subE (x y c : Int) (hc : c.toNat ≤ 1) (w : World) :
    (subE #[.int .u64 x, .int .u64 y, .int .u64 c]).run P w = .ok (.tuple #[.int .u64 (IOp.subD.ev [x, y, c]), .int .u64 (IOp.subB.ev [x, y, c])]) w := by
  unfold subE
  rw [Sem.run_bind, run_three _ x y c hc]
  simp only [Result.andThen_ok, Sem.run_pure, Extern.MathBitsCarry.pair, Extern.MathBitsCarry.m64]
  have e1 : Int.ofNat ((x.toNat + 2 ^ 64 - y.toNat - c.toNat) % 2 ^ 64) = IOp.subD.ev [x, y, c] := by
    simp only [IOp.ev, List.getD_cons_zero, List.getD_cons_succ]; rfl
  have e2 : Int.ofNat (if x.toNat < y.toNat + c.toNat then 1 else 0) = IOp.subB.ev [x, y, c] := by
    simp only [IOp.ev, List.getD_cons_zero, List.getD_cons_succ, b01]
    by_cases h : x.toNat < y.toNat + c.toNat
    · simp [h]
    · simp [h]
  rw [e1, e2]

theorem run_enter {f : Nat} (h : okB P f = true) (args : Array Value) (w : World) : (callFunc f args).run P w = .ok (.enter f args) w := by
  unfold okB at h
  split at h
  · rename_i fn hf
    rw [Bool.and_eq_true] at h
    obtain ⟨h1, h2⟩ := h
    have h1 : ¬ (fn.name == "runtime.NumGoroutine") = true := by
      intro h3; rw [h3] at h1; cases h1
    have h2 : ¬ fn.body.isNone = true := by
      intro h3
      cases hb : fn.body <;> simp [hb] at h2 h3
    unfold callFunc
    simp only [Sem.run_bind, run_program, Result.andThen_ok, hf]
    rw [if_neg h1, if_neg h2]
    rfl
  · cases h

theorem ext_of {add sub lo hi : Nat} {fa fs : Func}
    (ha : P.funcs[add]? = some fa) (ha1 : (fa.name == "runtime.NumGoroutine") = false) (ha2 : fa.body.isNone = true) (ha3 : Extern.findNext fa = none) (ha4 : Extern.find fa = some addE)
    (hs : P.funcs[sub]? = some fs) (hs1 : (fs.name == "runtime.NumGoroutine") = false) (hs2 : fs.body.isNone = true) (hs3 : Extern.findNext fs = none) (hs4 : Extern.find fs = some subE)
    (hall : (List.range' lo (hi + 1 - lo)).all (fun f => Nat.beq f add || Nat.beq f sub || okB P f) = true) : Ext P (mkExt add sub lo hi) := by
  refine ⟨?_, ?_, ?_⟩
  · intro f hf x y c w hx hy hc
    have : f = add := by
      unfold mkExt at hf
      cases h1 : Nat.beq f add
      · simp only [h1, cond_false] at hf
        cases h2 : Nat.beq f sub
        · simp only [h2, cond_false] at hf
          cases h3 : (Nat.ble lo f && Nat.ble f hi) <;> simp [h3] at hf
        · simp [h2] at hf
      · exact Nat.eq_of_beq_eq_true h1
    subst this
    rw [run_callFunc_extern ha ha1 ha2 ha3 ha4, run_addE x y c hx hy hc]
    rfl
  · intro f hf x y c w hc
    have : f = sub := by
      unfold mkExt at hf
      cases h1 : Nat.beq f add
      · simp only [h1, cond_false] at hf
        cases h2 : Nat.beq f sub
        · simp only [h2, cond_false] at hf
          cases h3 : (Nat.ble lo f && Nat.ble f hi) <;> simp [h3] at hf
        · exact Nat.eq_of_beq_eq_true h2
      · simp [h1] at hf
    subst this
    rw [run_callFunc_extern hs hs1 hs2 hs3 hs4, run_subE x y c hc]
    rfl
  · intro f hf args w
    refine run_enter ?_ args w
    unfold mkExt at hf
    cases h1 : Nat.beq f add
    · simp only [h1, cond_false] at hf
      cases h2 : Nat.beq f sub
      · simp only [h2, cond_false] at hf
        cases h3 : (Nat.ble lo f && Nat.ble f hi)
        · simp [h3] at hf
        · rw [Bool.and_eq_true] at h3
          have l1 := Nat.le_of_ble_eq_true h3.1
          have l2 := Nat.le_of_ble_eq_true h3.2
          have := List.all_eq_true.1 hall f (List.mem_range'_1.2 ⟨l1, by omega⟩)
          simpa [h1, h2] using this
      · simp [h2] at hf
    · simp [h1] at hf
end
end Eng
end
section
/-
  The walk by reckoning: contracts. A contract is stated once, at regions 0, 1, .. and integers 0, 1, ..; here it is carried to a call.
-/
namespace Eng
open Go Go.RowKit

def SI.sub (σ : List SI) : SI → Option SI
  | .lit n => some (.lit n)
  | .var x => σ[x]?
def SB.sub (σ : List SI) : SB → Option SB
  | .lit b => some (.lit b)
  | .var x => match σ[x]? with
    | some (.var y) => some (.var y)
    | some (.lit 0) => some (.lit false)
    | some (.lit 1) => some (.lit true)
    | _ => none
def SC.sub (σ : List SI) (ρ : List Nat) : SC → Option SC
  | .ii k e => (e.sub σ).map (.ii k)
  | .bb e => (e.sub σ).map .bb
  | .pp r o => (ρ[r]?).map fun r' => .pp r' o
  | .ss r o l c => (ρ[r]?).map fun r' => .ss r' o l c
  | .kk v => some (.kk v)
def optl {α β : Type} (f : α → Option β) : List α → Option (List β)
  | [] => some []
  | x :: r => match f x, optl f r with
    | some y, some l => some (y :: l)
    | _, _ => none
def SW.sub (σ : List SI) (ρ : List Nat) : SW → Option SW
  | .cc x => (x.sub σ ρ).map .cc
  | .aa l => (optl (SC.sub σ ρ) l).map .aa
def SV.sub (σ : List SI) (ρ : List Nat) : SV → Option SV
  | .ww x => (x.sub σ ρ).map .ww
  | .tt l => (optl (SW.sub σ ρ) l).map .tt

theorem optl_get {α β : Type} {f : α → Option β} : ∀ {l : List α} {m : List β} {i : Nat}, optl f l = some m → ∀ x, l[i]? = some x → ∃ y, m[i]? = some y ∧ f x = some y
  | [], _, _, _, _, h => by simp at h
  | a :: l, m, i, h, x, hx => by
    unfold optl at h
    split at h
    · rename_i y n hy hn
      injection h with h
      subst h
      cases i with
      | zero => simp at hx; subst hx; exact ⟨y, rfl, hy⟩
      | succ i =>
        obtain ⟨z, hz, hf⟩ := optl_get hn x (by simpa using hx)
        exact ⟨z, by simpa using hz, hf⟩
    · cases h
theorem optl_length {α β : Type} {f : α → Option β} : ∀ {l : List α} {m : List β}, optl f l = some m → m.length = l.length
  | [], m, h => by simp [optl] at h; subst h; rfl
  | a :: l, m, h => by
    unfold optl at h
    split at h
    · rename_i y n hy hn
      injection h with h
      subst h
      simp [optl_length hn]
    · cases h
theorem optl_all2 {α β γ : Type} {f : α → Option β} {R : α → γ → Prop} {R' : β → γ → Prop} (h : ∀ x y v, f x = some y → R x v → R' y v) :
    ∀ {l : List α} {m : List β} {vs : List γ}, optl f l = some m → All2 R l vs → All2 R' m vs
  | [], m, [], hl, _ => by simp [optl] at hl; subst hl; trivial
  | a :: l, m, v :: vs, hl, ⟨h1, h2⟩ => by
    unfold optl at hl
    split at hl
    · rename_i y n hy hn
      injection hl with hl
      subst hl
      exact ⟨h a y v hy h1, optl_all2 h hn h2⟩
    · cases hl
theorem optl_all2' {α β γ : Type} {f : α → Option β} {R : α → γ → Prop} {R' : β → γ → Prop} (h : ∀ x y v, f x = some y → R' y v → R x v) :
    ∀ {l : List α} {m : List β} {vs : List γ}, optl f l = some m → All2 R' m vs → All2 R l vs
  | [], m, vs, hl, h2 => by
    simp [optl] at hl
    subst hl
    cases vs with
    | nil => trivial
    | cons _ _ => exact h2.elim
  | a :: l, m, vs, hl, h2 => by
    unfold optl at hl
    split at hl
    · rename_i y n hy hn
      injection hl with hl
      subst hl
      cases vs with
      | nil => exact h2.elim
      | cons v vs => exact ⟨h a y v hy h2.1, optl_all2' h hn h2.2⟩
    · cases hl

section
variable {env envc : List Int} {β βc : List (Nat × Nat)} {σ : List SI} {ρ : List Nat}

/-- Upwards: what stands for the contract's names stands for the caller's. -/
structure UpOk (σ : List SI) (ρ : List Nat) (envc env : List Int) (βc β : List (Nat × Nat)) : Prop where
  i : ∀ (j : Nat) (e : SI) (n : Int), σ[j]? = some e → envc[j]? = some n → e.is env n
  r : ∀ (j r : Nat) (x : Nat × Nat), ρ[j]? = some r → βc[j]? = some x → β[r]? = some x

theorem SC.up (h : UpOk σ ρ envc env βc β) {x y : SC} {v : Value} (hs : x.sub σ ρ = some y) (hx : x.is envc βc v) : y.is env β v := by
  cases x with
  | ii k e =>
    obtain ⟨n, hn, hf, rfl⟩ := hx
    cases e with
    | lit m =>
      simp [SC.sub, SI.sub] at hs
      subst hs
      exact ⟨n, hn, hf, rfl⟩
    | var j =>
      simp only [SC.sub, SI.sub] at hs
      cases hj : σ[j]? with
      | none => simp [hj] at hs
      | some e =>
        simp [hj] at hs
        subst hs
        exact ⟨n, h.i j e n hj hn, hf, rfl⟩
  | bb e =>
    obtain ⟨t, ht, rfl⟩ := hx
    cases e with
    | lit m =>
      simp [SC.sub, SB.sub] at hs
      subst hs
      exact ⟨t, ht, rfl⟩
    | var j =>
      simp only [SC.sub, SB.sub] at hs
      split at hs
      · rename_i y' hj
        simp at hs
        subst hs
        exact ⟨t, h.i j _ _ hj ht, rfl⟩
      · rename_i hj
        simp at hs
        subst hs
        have := h.i j _ _ hj ht
        refine ⟨t, ?_, rfl⟩
        cases t
        · rfl
        · simp [SI.is, b01] at this
      · rename_i hj
        simp at hs
        subst hs
        have := h.i j _ _ hj ht
        refine ⟨t, ?_, rfl⟩
        cases t
        · simp [SI.is, b01] at this
        · rfl
      · simp at hs
  | pp r o =>
    obtain ⟨z, hz, rfl⟩ := hx
    simp only [SC.sub] at hs
    cases hr : ρ[r]? with
    | none => simp [hr] at hs
    | some r' => simp [hr] at hs; subst hs; exact ⟨z, h.r r r' z hr hz, rfl⟩
  | ss r o l c =>
    obtain ⟨z, hz, rfl⟩ := hx
    simp only [SC.sub] at hs
    cases hr : ρ[r]? with
    | none => simp [hr] at hs
    | some r' => simp [hr] at hs; subst hs; exact ⟨z, h.r r r' z hr hz, rfl⟩
  | kk u => simp [SC.sub] at hs; subst hs; exact hx
theorem SW.up (h : UpOk σ ρ envc env βc β) {x y : SW} {v : Value} (hs : x.sub σ ρ = some y) (hx : x.is envc βc v) : y.is env β v := by
  cases x with
  | cc e =>
    simp only [SW.sub] at hs
    cases he : e.sub σ ρ with
    | none => simp [he] at hs
    | some z => simp [he] at hs; subst hs; exact SC.up h he hx
  | aa l =>
    simp only [SW.sub] at hs
    cases he : optl (SC.sub σ ρ) l with
    | none => simp [he] at hs
    | some z =>
      simp [he] at hs
      subst hs
      obtain ⟨vs, rfl, h2⟩ := hx
      exact ⟨vs, rfl, optl_all2 (R' := SC.is env β) (fun _ _ _ hs hx => SC.up h hs hx) he h2⟩
theorem SV.up (h : UpOk σ ρ envc env βc β) {x y : SV} {v : Value} (hs : x.sub σ ρ = some y) (hx : x.is envc βc v) : y.is env β v := by
  cases x with
  | ww e =>
    simp only [SV.sub] at hs
    cases he : e.sub σ ρ with
    | none => simp [he] at hs
    | some z => simp [he] at hs; subst hs; exact SW.up h he hx
  | tt l =>
    simp only [SV.sub] at hs
    cases he : optl (SW.sub σ ρ) l with
    | none => simp [he] at hs
    | some z =>
      simp [he] at hs
      subst hs
      obtain ⟨vs, rfl, h2⟩ := hx
      exact ⟨vs, rfl, optl_all2 (R' := SW.is env β) (fun _ _ _ hs hx => SW.up h hs hx) he h2⟩

/-- Downwards. -/
structure DownOk (σ : List SI) (ρ : List Nat) (envc env : List Int) (βc β : List (Nat × Nat)) : Prop where
  i : ∀ (j : Nat) (e : SI) (n : Int), σ[j]? = some e → e.is env n → envc[j]? = some n
  r : ∀ (j r : Nat) (x : Nat × Nat), ρ[j]? = some r → β[r]? = some x → βc[j]? = some x

theorem SC.down (h : DownOk σ ρ envc env βc β) {x y : SC} {v : Value} (hs : x.sub σ ρ = some y) (hy : y.is env β v) : x.is envc βc v := by
  cases x with
  | ii k e =>
    cases e with
    | lit m =>
      simp [SC.sub, SI.sub] at hs
      subst hs
      exact hy
    | var j =>
      simp only [SC.sub, SI.sub] at hs
      cases hj : σ[j]? with
      | none => simp [hj] at hs
      | some e =>
        simp [hj] at hs
        subst hs
        obtain ⟨n, hn, hf, rfl⟩ := hy
        exact ⟨n, h.i j e n hj hn, hf, rfl⟩
  | bb e =>
    cases e with
    | lit m =>
      simp [SC.sub, SB.sub] at hs
      subst hs
      exact hy
    | var j =>
      simp only [SC.sub, SB.sub] at hs
      split at hs
      · rename_i y' hj
        simp at hs
        subst hs
        obtain ⟨t, ht, rfl⟩ := hy
        exact ⟨t, h.i j _ _ hj ht, rfl⟩
      · rename_i hj
        simp at hs
        subst hs
        obtain ⟨t, ht, rfl⟩ := hy
        cases ht
        exact ⟨false, h.i j _ _ hj rfl, rfl⟩
      · rename_i hj
        simp at hs
        subst hs
        obtain ⟨t, ht, rfl⟩ := hy
        cases ht
        exact ⟨true, h.i j _ _ hj rfl, rfl⟩
      · simp at hs
  | pp r o =>
    simp only [SC.sub] at hs
    cases hr : ρ[r]? with
    | none => simp [hr] at hs
    | some r' =>
      simp [hr] at hs
      subst hs
      obtain ⟨z, hz, rfl⟩ := hy
      exact ⟨z, h.r r r' z hr hz, rfl⟩
  | ss r o l c =>
    simp only [SC.sub] at hs
    cases hr : ρ[r]? with
    | none => simp [hr] at hs
    | some r' =>
      simp [hr] at hs
      subst hs
      obtain ⟨z, hz, rfl⟩ := hy
      exact ⟨z, h.r r r' z hr hz, rfl⟩
  | kk u => simp [SC.sub] at hs; subst hs; exact hy
theorem SW.down (h : DownOk σ ρ envc env βc β) {x y : SW} {v : Value} (hs : x.sub σ ρ = some y) (hy : y.is env β v) : x.is envc βc v := by
  cases x with
  | cc e =>
    simp only [SW.sub] at hs
    cases he : e.sub σ ρ with
    | none => simp [he] at hs
    | some z => simp [he] at hs; subst hs; exact SC.down h he hy
  | aa l =>
    simp only [SW.sub] at hs
    cases he : optl (SC.sub σ ρ) l with
    | none => simp [he] at hs
    | some z =>
      simp [he] at hs
      subst hs
      obtain ⟨vs, rfl, h2⟩ := hy
      exact ⟨vs, rfl, optl_all2' (R := SC.is envc βc) (fun _ _ _ hs hx => SC.down h hs hx) he h2⟩
theorem SV.down (h : DownOk σ ρ envc env βc β) {x y : SV} {v : Value} (hs : x.sub σ ρ = some y) (hy : y.is env β v) : x.is envc βc v := by
  cases x with
  | ww e =>
    simp only [SV.sub] at hs
    cases he : e.sub σ ρ with
    | none => simp [he] at hs
    | some z => simp [he] at hs; subst hs; exact SW.down h he hy
  | tt l =>
    simp only [SV.sub] at hs
    cases he : optl (SW.sub σ ρ) l with
    | none => simp [he] at hs
    | some z =>
      simp [he] at hs
      subst hs
      obtain ⟨vs, rfl, h2⟩ := hy
      exact ⟨vs, rfl, optl_all2' (R := SW.is envc βc) (fun _ _ _ hs hx => SW.down h hs hx) he h2⟩
end
end Eng
end
section
/-
  The walk by reckoning: a contract, stated once, carried to a call.
-/
namespace Eng
open Go Go.RowKit

structure K where
  f : Nat
  args : List SV
  mem : List (List SC × Bool)
  m : Nat
  id : Nat
  mout : Nat
  ret : SV
  mem1 : List (List SC × Bool)

/-- The cells that a contract writes. -/
def TpOf (β : List (Nat × Nat)) (mem : List (List SC × Bool)) (b o : Nat) : Prop :=
  ∃ (r : Nat) (cs : List SC) (x : Nat × Nat), mem[r]? = some (cs, true) ∧ β[r]? = some x ∧ b = x.1 ∧ x.2 ≤ o ∧ o < x.2 + cs.length

/-- What the contract says. -/
def KOk (P : Program) (A : Ask) (κ : K) : Prop :=
  ∀ (env : List Int) (β : List (Nat × Nat)) (vs : List Value) (w : World), env.length = κ.m → MRel w (TpOf β κ.mem) env β κ.mem w → All2 (SV.is env β) κ.args vs → A.pre κ.id env →
    Calls P κ.f vs.toArray w (fun e w' => ∃ ys β' v, ys.length = κ.mout ∧ A.post κ.id env ys ∧ e = .returned v ∧ Longer β β' ∧ κ.ret.is (env ++ ys) β' v ∧
      MRel w (TpOf β κ.mem) (env ++ ys) β' κ.mem1 w' ∧ (∀ i x, κ.mem.length ≤ i → β'[i]? = some x → w.heap.size ≤ x.1))

def SW.beq : SW → SW → Bool
  | .cc x, .cc y => x.beq y
  | .aa l, .aa m => listBeq SC.beq l m
  | _, _ => false
theorem SW.beq_eq {a b : SW} (h : a.beq b = true) : a = b := by
  cases a <;> cases b <;> simp only [SW.beq] at h <;> first | cases h | skip
  · rw [SC.beq_eq h]
  · rw [listBeq_eq (fun _ _ => SC.beq_eq) h]
def SV.beq : SV → SV → Bool
  | .ww x, .ww y => x.beq y
  | .tt l, .tt m => listBeq SW.beq l m
  | _, _ => false
theorem SV.beq_eq {a b : SV} (h : a.beq b = true) : a = b := by
  cases a <;> cases b <;> simp only [SV.beq] at h <;> first | cases h | skip
  · rw [SW.beq_eq h]
  · rw [listBeq_eq (fun _ _ => SW.beq_eq) h]

/-- Names met. -/
structure Met where
  i : List (Nat × SI)
  r : List (Nat × Nat)

def mtC (m : Met) : SC → SC → Met
  | .ii _ (.var x), .ii _ e => { m with i := (x, e) :: m.i }
  | .bb (.var x), .bb (.var y) => { m with i := (x, .var y) :: m.i }
  | .bb (.var x), .bb (.lit true) => { m with i := (x, .lit 1) :: m.i }
  | .bb (.var x), .bb (.lit false) => { m with i := (x, .lit 0) :: m.i }
  | .pp r _, .pp r' _ => { m with r := (r, r') :: m.r }
  | .ss r _ _ _, .ss r' _ _ _ => { m with r := (r, r') :: m.r }
  | _, _ => m
def mtL (m : Met) : List SC → List SC → Met
  | x :: l, y :: n => mtL (mtC m x y) l n
  | _, _ => m
def mtW (m : Met) : List SW → List SW → Met
  | .cc x :: l, .cc y :: n => mtW (mtC m x y) l n
  | .aa x :: l, .aa y :: n => mtW (mtL m x y) l n
  | _, _ => m
def mtA (m : Met) : List SV → List SV → Met
  | .tt x :: l, .tt y :: n => mtA (mtW m x y) l n
  | .ww (.cc x) :: l, .ww (.cc y) :: n => mtA (mtC m x y) l n
  | .ww (.aa x) :: l, .ww (.aa y) :: n => mtA (mtL m x y) l n
  | _ :: l, _ :: n => mtA m l n
  | _, _ => m
def mtR (m : Met) (S : St) : Nat → List (List SC × Bool) → Met
  | _, [] => m
  | i, (cs, _) :: r => match lk i m.r with
    | some r' => match S.mem[r']? with
      | some (ds, _) => mtR (mtL m cs ds) S (i + 1) r
      | none => m
    | none => m

def getAll {α : Type} (l : List (Nat × α)) : Nat → Nat → Option (List α)
  | _, 0 => some []
  | i, n + 1 => match lk i l, getAll l (i + 1) n with
    | some x, some r => some (x :: r)
    | _, _ => none

def nodupB : List Nat → Bool
  | [] => true
  | x :: l => !(l.elem x) && nodupB l

def notW (r : Nat) : List Nat → List (List SC × Bool) → Bool
  | x :: l, (_, w) :: km => !(Nat.beq x r && w) && notW r l km
  | _, _ => true
/-- Two regions may be one where neither is written. -/
def aliasB : List Nat → List (List SC × Bool) → Bool
  | r :: l, (_, w) :: km => (!w || !(l.elem r)) && (notW r l km && aliasB l km)
  | _, _ => true

/-- The contract's regions stand in the state. -/
def memB (σ : List SI) (ρ : List Nat) (S : St) : Nat → List (List SC × Bool) → List (List SC × Bool) → Bool
  | _, [], _ => true
  | i, (cs, wr) :: r, l1 => (match ρ[i]?, optl (SC.sub σ ρ) cs with
    | some r', some ds => (match S.mem[r']? with
      | some (es, wr') => listBeq SC.beq ds es && (!wr || wr')
      | none => false)
    | _, _ => false) && (match l1 with
    | (cs1, _) :: _ => Nat.beq cs1.length cs.length
    | [] => false) && memB σ ρ S (i + 1) r l1.tail

def posOf (r : Nat) : Nat → List Nat → Option Nat
  | _, [] => none
  | i, x :: l => bif Nat.beq x r then some i else posOf r (i + 1) l

def upAt (σ : List SI) (ρ' ρ : List Nat) (km km1 : List (List SC × Bool)) (r : Nat) (x : List SC × Bool) : Option (List SC × Bool) :=
  match posOf r 0 ρ with
  | none => some x
  | some i => match km[i]?, km1[i]? with
    | some (_, true), some (cs1, _) => match optl (SC.sub σ ρ') cs1 with
      | some ds => some (ds, true)
      | none => none
    | some (_, false), _ => some x
    | _, _ => none

/-- The regions behind the call: those that are written. -/
def upMem (σ : List SI) (ρ' ρ : List Nat) (km km1 : List (List SC × Bool)) : Nat → List (List SC × Bool) → Option (List (List SC × Bool))
  | _, [] => some []
  | r, x :: l => match upAt σ ρ' ρ km km1 r x, upMem σ ρ' ρ km km1 (r + 1) l with
    | some y, some n => some (y :: n)
    | _, _ => none
def newOne (σ : List SI) (ρ : List Nat) (x : List SC × Bool) : Option (List SC × Bool) :=
  match optl (SC.sub σ ρ) x.1 with
  | some ds => some (ds, x.2)
  | none => none

def inB (n : Nat) : List SI → Bool
  | [] => true
  | .lit _ :: l => inB n l
  | .var x :: l => Nat.blt x n && inB n l

def varsFrom (n m : Nat) : List SI := (List.range m).map fun i => .var (n + i)
def regsFrom (n m : Nat) : List Nat := (List.range m).map fun i => n + i

def K.names (κ : K) (args : List SV) (S : St) : Option (List SI × List Nat) :=
  match getAll (mtR (mtA ⟨[], []⟩ κ.args args) S 0 κ.mem).i 0 κ.m, getAll (mtA ⟨[], []⟩ κ.args args).r 0 κ.mem.length with
  | some σ, some ρ => match optl (SV.sub σ ρ) κ.args with
    | some as => bif listBeq SV.beq as args && (aliasB ρ κ.mem && (inB S.ne σ && memB σ ρ S 0 κ.mem κ.mem1)) then some (σ, ρ) else none
    | none => none
  | _, _ => none
def K.use (κ : K) (args : List SV) (S : St) : Option CR :=
  match κ.names args S with
  | some (σ, ρ) =>
    match κ.ret.sub (σ ++ varsFrom S.ne κ.mout) (ρ ++ regsFrom S.mem.length (κ.mem1.length - κ.mem.length)),
      upMem (σ ++ varsFrom S.ne κ.mout) (ρ ++ regsFrom S.mem.length (κ.mem1.length - κ.mem.length)) ρ κ.mem κ.mem1 0 S.mem,
      optl (newOne (σ ++ varsFrom S.ne κ.mout) (ρ ++ regsFrom S.mem.length (κ.mem1.length - κ.mem.length))) (κ.mem1.drop κ.mem.length) with
    | some ret, some m1, some m2 => some { id := κ.id, xs := σ, m := κ.mout, ret := ret, mem := m1 ++ m2 }
    | _, _, _ => none
  | none => none

def conOf : List K → Nat → List SV → St → Option CR
  | [], _, _, _ => none
  | κ :: r, f, args, S => match (bif Nat.beq κ.f f then κ.use args S else none) with
    | some c => some c
    | none => conOf r f args S
end Eng
end
section
/-
  The walk by reckoning: a contract carried to a call is sound.
-/
namespace Eng
open Go Go.RowKit

theorem getAll_len {α : Type} {l : List (Nat × α)} : ∀ {n i : Nat} {m : List α}, getAll l i n = some m → m.length = n
  | 0, _, m, h => by simp [getAll] at h; subst h; rfl
  | n + 1, i, m, h => by
    unfold getAll at h
    split at h
    · rename_i x r hx hr
      injection h with h
      subst h
      simp [getAll_len hr]
    · cases h

theorem nodupB_ok : ∀ {l : List Nat}, nodupB l = true → ∀ (i j r : Nat), l[i]? = some r → l[j]? = some r → i = j
  | [], _, i, j, r, h, _ => by simp at h
  | x :: l, hn, i, j, r, hi, hj => by
    simp only [nodupB, Bool.and_eq_true, Bool.not_eq_true'] at hn
    have hx : ¬ x ∈ l := by
      intro hm
      have := List.elem_eq_true_of_mem hm
      rw [hn.1] at this
      cases this
    cases i with
    | zero =>
      cases j with
      | zero => rfl
      | succ j =>
        simp at hi hj
        subst hi
        exact absurd (List.mem_of_getElem? hj) hx
    | succ i =>
      cases j with
      | zero =>
        simp at hi hj
        subst hj
        exact absurd (List.mem_of_getElem? hi) hx
      | succ j =>
        simp at hi hj
        rw [nodupB_ok hn.2 i j r hi hj]

theorem notW_ok {r : Nat} : ∀ {l : List Nat} {km : List (List SC × Bool)}, notW r l km = true → ∀ (i : Nat) (cs : List SC), l[i]? = some r → km[i]? ≠ some (cs, true)
  | [], _, _, i, cs, h => by simp at h
  | x :: l, [], _, i, cs, h => by simp
  | x :: l, (c, w) :: km, hn, i, cs, h => by
    simp only [notW, Bool.and_eq_true, Bool.not_eq_true'] at hn
    cases i with
    | zero =>
      simp at h
      subst h
      have := hn.1
      simp at this
      simp [this]
    | succ i => simpa using notW_ok hn.2 i cs (by simpa using h)
theorem aliasB_ok : ∀ {l : List Nat} {km : List (List SC × Bool)}, aliasB l km = true → ∀ (i j r : Nat) (cs : List SC), l[i]? = some r → l[j]? = some r → km[i]? = some (cs, true) → i = j
  | [], _, _, i, j, r, cs, h, _, _ => by simp at h
  | x :: l, [], _, i, j, r, cs, _, _, h => by simp at h
  | x :: l, (c, w) :: km, hn, i, j, r, cs, hi, hj, hk => by
    simp only [aliasB, Bool.and_eq_true, Bool.or_eq_true, Bool.not_eq_true'] at hn
    obtain ⟨h1, h2, h3⟩ := hn
    cases i with
    | zero =>
      cases j with
      | zero => rfl
      | succ j =>
        simp at hi hj hk
        subst hi
        obtain ⟨_, rfl⟩ := hk
        have hx := List.mem_of_getElem? hj
        rcases h1 with h1 | h1
        · cases h1
        · rw [List.elem_eq_true_of_mem hx] at h1; cases h1
    | succ i =>
      cases j with
      | zero =>
        simp at hi hj hk
        subst hj
        exact absurd hk (notW_ok h2 i cs hi)
      | succ j =>
        simp at hi hj hk
        rw [aliasB_ok h3 i j r cs hi hj hk]

theorem posOf_some {r : Nat} : ∀ {l : List Nat} {i j : Nat}, posOf r i l = some j → i ≤ j ∧ l[j - i]? = some r
  | [], i, j, h => by simp [posOf] at h
  | x :: l, i, j, h => by
    unfold posOf at h
    cases hx : Nat.beq x r with
    | true =>
      rw [hx, cond_true] at h
      injection h with h
      subst h
      simp [Nat.eq_of_beq_eq_true hx]
    | false =>
      rw [hx, cond_false] at h
      obtain ⟨h1, h2⟩ := posOf_some h
      refine ⟨by omega, ?_⟩
      have : j - i = (j - (i + 1)) + 1 := by omega
      rw [this]
      simpa using h2
theorem posOf_none {r : Nat} : ∀ {l : List Nat} {i : Nat}, posOf r i l = none → ∀ j : Nat, l[j]? ≠ some r
  | [], i, _, j => by simp
  | x :: l, i, h, j => by
    unfold posOf at h
    cases hx : Nat.beq x r with
    | true => rw [hx, cond_true] at h; cases h
    | false =>
      rw [hx, cond_false] at h
      cases j with
      | zero =>
        intro he
        simp at he
        subst he
        simp at hx
      | succ j => simpa using posOf_none h j

theorem upMem_ok {σ : List SI} {ρ' ρ : List Nat} {km km1 : List (List SC × Bool)} : ∀ {l n : List (List SC × Bool)} {r : Nat}, upMem σ ρ' ρ km km1 r l = some n →
    n.length = l.length ∧ ∀ (j : Nat) (y : List SC × Bool), n[j]? = some y → ∃ x, l[j]? = some x ∧ upAt σ ρ' ρ km km1 (r + j) x = some y
  | [], n, r, h => by simp [upMem] at h; subst h; exact ⟨rfl, fun j y h => by simp at h⟩
  | x :: l, n, r, h => by
    unfold upMem at h
    split at h
    · rename_i y m hy hm
      injection h with h
      subst h
      obtain ⟨h1, h2⟩ := upMem_ok hm
      refine ⟨by simp [h1], fun j z hj => ?_⟩
      cases j with
      | zero => simp at hj; subst hj; exact ⟨x, rfl, by simpa using hy⟩
      | succ j =>
        obtain ⟨u, hu, hz⟩ := h2 j z (by simpa using hj)
        refine ⟨u, by simpa using hu, ?_⟩
        rw [show r + (j + 1) = r + 1 + j by omega]
        exact hz
    · cases h

theorem optl_get_rev {α β : Type} {f : α → Option β} : ∀ {l : List α} {m : List β} {i : Nat}, optl f l = some m → ∀ y, m[i]? = some y → ∃ x, l[i]? = some x ∧ f x = some y
  | [], m, i, h, y, hy => by simp [optl] at h; subst h; simp at hy
  | a :: l, m, i, h, y, hy => by
    unfold optl at h
    split at h
    · rename_i z n hz hn
      injection h with h
      subst h
      cases i with
      | zero => simp at hy; subst hy; exact ⟨a, rfl, hz⟩
      | succ i =>
        obtain ⟨x, hx, hf⟩ := optl_get_rev hn y (by simpa using hy)
        exact ⟨x, by simpa using hx, hf⟩
    · cases h

theorem inB_ok {n : Nat} : ∀ {l : List SI}, inB n l = true → ∀ (j x : Nat), l[j]? = some (.var x) → x < n
  | [], _, j, x, h => by simp at h
  | .lit m :: l, hn, j, x, h => by
    cases j with
    | zero => simp at h
    | succ j => exact inB_ok (l := l) hn j x (by simpa using h)
  | .var y :: l, hn, j, x, h => by
    simp only [inB, Bool.and_eq_true] at hn
    cases j with
    | zero =>
      simp at h
      subst h
      have h1 := hn.1
      rw [Nat.blt_eq] at h1
      exact h1
    | succ j => exact inB_ok (l := l) hn.2 j x (by simpa using h)

/-- What memB has looked at. -/
theorem memB_ok {σ : List SI} {ρ : List Nat} {S : St} : ∀ {km km1 : List (List SC × Bool)} {i : Nat}, memB σ ρ S i km km1 = true →
    ∀ (j : Nat) (cs : List SC) (wr : Bool), km[j]? = some (cs, wr) → ∃ r' ds wr' cs1 wr1, ρ[i + j]? = some r' ∧ optl (SC.sub σ ρ) cs = some ds ∧ S.mem[r']? = some (ds, wr') ∧
      (wr = true → wr' = true) ∧ km1[j]? = some (cs1, wr1) ∧ cs1.length = cs.length
  | [], km1, i, _, j, cs, wr, h => by simp at h
  | (cs0, wr0) :: km, km1, i, hm, j, cs, wr, h => by
    simp only [memB, Bool.and_eq_true] at hm
    obtain ⟨⟨h1, h2⟩, h3⟩ := hm
    cases j with
    | zero =>
      simp at h
      obtain ⟨rfl, rfl⟩ := h
      split at h1
      · rename_i r' ds hr hd
        split at h1
        · rename_i es wr' hs
          simp only [Bool.and_eq_true, Bool.or_eq_true, Bool.not_eq_true'] at h1
          have he := listBeq_eq (fun _ _ => SC.beq_eq) h1.1
          subst he
          split at h2
          · rename_i cs1 wr1 t
            refine ⟨r', ds, wr', cs1, wr1, by simpa using hr, hd, hs, fun hw => ?_, rfl, Nat.eq_of_beq_eq_true h2⟩
            rcases h1.2 with h4 | h4
            · rw [hw] at h4; cases h4
            · exact h4
          · cases h2
        · cases h1
      · cases h1
    | succ j =>
      obtain ⟨r', ds, wr', cs1, wr1, a1, a2, a3, a4, a5, a6⟩ := memB_ok h3 j cs wr (by simpa using h)
      refine ⟨r', ds, wr', cs1, wr1, ?_, a2, a3, a4, ?_, a6⟩
      · rw [show i + (j + 1) = i + 1 + j by omega]; exact a1
      · cases km1 with
        | nil => simp at a5
        | cons _ _ => simpa using a5

theorem upAt_ok {σ : List SI} {ρ' ρ : List Nat} {km km1 : List (List SC × Bool)} {r : Nat} {x y : List SC × Bool} (hn : aliasB ρ km = true) (h : upAt σ ρ' ρ km km1 r x = some y) :
    (∃ (i : Nat) (cs cs1 : List SC) (wr1 : Bool) (ds : List SC), ρ[i]? = some r ∧ km[i]? = some (cs, true) ∧ km1[i]? = some (cs1, wr1) ∧ optl (SC.sub σ ρ') cs1 = some ds ∧ y = (ds, true)) ∨
    (y = x ∧ ∀ i : Nat, ρ[i]? = some r → ∀ cs, km[i]? ≠ some (cs, true)) := by
  unfold upAt at h
  split at h
  · rename_i hp
    injection h with h
    exact .inr ⟨h.symm, fun i hi => absurd hi (posOf_none hp i)⟩
  · rename_i i hp
    have hi := (posOf_some hp).2
    rw [Nat.sub_zero] at hi
    split at h
    · rename_i cs cs1 wr1 h1 h2
      split at h
      · rename_i ds hd
        injection h with h
        exact .inl ⟨i, cs, cs1, wr1, ds, hi, h1, h2, hd, h.symm⟩
      · cases h
    · rename_i h1 _
      injection h with h
      refine .inr ⟨h.symm, fun j hj cs hc => ?_⟩
      have hji := aliasB_ok hn j i r cs hj hi hc
      subst hji
      simp_all
    · cases h

theorem SI.is_val {env : List Int} {e : SI} (h : ∀ x, e = .var x → x < env.length) : e.is env (e.val env) := by
  cases e with
  | lit n => rfl
  | var x =>
    have := h x rfl
    simp [SI.is, SI.val, this]

theorem names_ok {κ : K} {args : List SV} {S : St} {σ : List SI} {ρ : List Nat} (h : κ.names args S = some (σ, ρ)) :
    ρ.length = κ.mem.length ∧ σ.length = κ.m ∧ optl (SV.sub σ ρ) κ.args = some args ∧ aliasB ρ κ.mem = true ∧ inB S.ne σ = true ∧ memB σ ρ S 0 κ.mem κ.mem1 = true := by
  unfold K.names at h
  split at h
  · rename_i σ' ρ' hσ hρ
    split at h
    · rename_i as has
      cases hc : (listBeq SV.beq as args && (aliasB ρ' κ.mem && (inB S.ne σ' && memB σ' ρ' S 0 κ.mem κ.mem1))) with
      | false => rw [hc, cond_false] at h; cases h
      | true =>
        rw [hc, cond_true] at h
        simp only [Option.some.injEq, Prod.mk.injEq] at h
        obtain ⟨rfl, rfl⟩ := h
        simp only [Bool.and_eq_true] at hc
        obtain ⟨hc1, hnd, hin, hmb⟩ := hc
        have hEq : as = args := listBeq_eq (fun _ _ => SV.beq_eq) hc1
        rw [hEq] at has
        exact ⟨getAll_len hρ, getAll_len hσ, has, hnd, hin, hmb⟩
    · cases h
  · cases h

/-- A contract's own names, and what it leaves, carried to the caller's. -/
structure Carried (κ : K) (r : CR) (env : List Int) (β : List (Nat × Nat)) (vs : List Value) (w W0 : World) (Tp : Nat → Nat → Prop) (env0 : List Int) (βc : List (Nat × Nat)) : Prop where
  len : env0.length = κ.m
  mem : MRel w (TpOf βc κ.mem) env0 βc κ.mem w
  args : All2 (SV.is env0 βc) κ.args vs
  xs : r.xs.map (·.val env) = env0
  id : r.id = κ.id
  m : r.m = κ.mout
  post : ∀ (ys : List Int) (β1 : List (Nat × Nat)) (v : Value) (w' : World), ys.length = κ.mout → Longer βc β1 → κ.ret.is (env0 ++ ys) β1 v → MRel w (TpOf βc κ.mem) (env0 ++ ys) β1 κ.mem1 w' →
    (∀ i x, κ.mem.length ≤ i → β1[i]? = some x → w.heap.size ≤ x.1) → ∃ β', Longer β β' ∧ r.ret.is (env ++ ys) β' v ∧ MRel W0 Tp (env ++ ys) β' r.mem w'

theorem use_core {κ : K} {args : List SV} {S : St} {r : CR} {σ : List SI} {ρ : List Nat} (hn : κ.names args S = some (σ, ρ)) (h : κ.use args S = some r)
    {env : List Int} {β : List (Nat × Nat)} {vs : List Value} {w W0 : World} {Tp : Nat → Nat → Prop} (hf : Facts env S) (hM : MRel W0 Tp env β S.mem w) (ha : All2 (SV.is env β) args vs) :
    Carried κ r env β vs w W0 Tp (σ.map (·.val env)) (ρ.map fun r => β.getD r (0, 0)) := by
  obtain ⟨hρl, hσl, has, hnd, hin, hmb⟩ := names_ok hn
  unfold K.use at h
  rw [hn] at h
  simp only [] at h
  split at h
  · rename_i ret m1 m2 hret hm1 hm2
    injection h with h
    subst h
    have hmk := memB_ok hmb
    simp only [Nat.zero_add] at hmk
    have hne := hf.ne
    -- the integers and the places of the contract
    let env0 : List Int := σ.map (·.val env)
    let βc : List (Nat × Nat) := ρ.map fun r => β.getD r (0, 0)
    have hgetD : ∀ (r : Nat) (x : Nat × Nat), β[r]? = some x → β.getD r (0, 0) = x := fun r x hx => by simp [List.getD, hx]
    have hβc : ∀ (j r : Nat), ρ[j]? = some r → βc[j]? = some (β.getD r (0, 0)) := fun j r hj => by simp [βc, hj]
    have hmkβ : ∀ (j : Nat) (cs : List SC) (wr : Bool), κ.mem[j]? = some (cs, wr) → ∃ r' ds wr' cs1 wr1 x, ρ[j]? = some r' ∧ optl (SC.sub σ ρ) cs = some ds ∧ S.mem[r']? = some (ds, wr') ∧
        (wr = true → wr' = true) ∧ κ.mem1[j]? = some (cs1, wr1) ∧ cs1.length = cs.length ∧ β[r']? = some x ∧ βc[j]? = some x := by
      intro j cs wr hj
      obtain ⟨r', ds, wr', cs1, wr1, a1, a2, a3, a4, a5, a6⟩ := hmk j cs wr hj
      obtain ⟨x, hx, _⟩ := hM.cell r' ds wr' a3
      exact ⟨r', ds, wr', cs1, wr1, x, a1, a2, a3, a4, a5, a6, hx, by rw [hβc j r' a1, hgetD r' x hx]⟩
    have hdown : DownOk σ ρ env0 env βc β := by
      refine ⟨fun j e n hj he => ?_, fun j r x hj hx => ?_⟩
      · simp [env0, hj, he.val]
      · rw [hβc j r hj, hgetD r x hx]
    have hM0 : MRel w (TpOf βc κ.mem) env0 βc κ.mem w := by
      refine ⟨by simp [βc, hρl], fun j cs wr hj => ?_, ?_, Kept.refl _ _⟩
      · obtain ⟨r', ds, wr', cs1, wr1, x, a1, a2, a3, a4, a5, a6, a7, a8⟩ := hmkβ j cs wr hj
        obtain ⟨y, hy, hl, hcell, hfr⟩ := hM.cell r' ds wr' a3
        rw [a7] at hy
        injection hy with hy
        subst hy
        refine ⟨x, a8, hl, fun i sc hi => ?_, fun hw i hi => ?_⟩
        · obtain ⟨sd, hd, hsub⟩ := optl_get a2 sc hi
          obtain ⟨v, hv, hvs⟩ := hcell i sd hd
          exact ⟨v, hv, SC.down hdown hsub hvs⟩
        · refine ⟨(hfr (a4 hw) i (by rw [optl_length a2]; exact hi)).1, .inr ⟨j, cs, x, ?_, a8, rfl, by omega, by omega⟩⟩
          rw [hj, hw]
      · intro j l x y cs ds wr ws hjl hx hy hj hll hor
        obtain ⟨r1, d1, wr1, c1, u1, z1, a1, a2, a3, a4, a5, a6, a7, a8⟩ := hmkβ j cs wr hj
        obtain ⟨r2, d2, wr2, c2, u2, z2, b1, b2, b3, b4, b5, b6, b7, b8⟩ := hmkβ l ds ws hll
        rw [hx] at a8
        rw [hy] at b8
        injection a8 with a8
        injection b8 with b8
        subst a8
        subst b8
        have hrr : r1 ≠ r2 := by
          intro he
          rcases hor with h | h
          · exact hjl (aliasB_ok hnd j l r1 cs a1 (by rw [b1, he]) (by rw [hj, h]))
          · exact hjl (aliasB_ok hnd l j r2 ds b1 (by rw [a1, he]) (by rw [hll, h])).symm
        have := hM.dis r1 r2 x y d1 d2 wr1 wr2 hrr a7 b7 a3 b3 (hor.imp a4 b4)
        rw [optl_length a2, optl_length b2] at this
        exact this
    refine ⟨by simp [hσl], hM0, ?_, rfl, rfl, rfl, ?_⟩
    · exact optl_all2' (R := SV.is env0 βc) (R' := SV.is env β) (fun _ _ _ hs hx => SV.down hdown hs hx) has ha
    · rintro ys β1 v w' hyl ⟨δ, hδ⟩ hv hM1 hfresh
      have hδ : β1 = βc ++ δ := hδ
      have hM1 : MRel w (TpOf βc κ.mem) (env0 ++ ys) β1 κ.mem1 w' := hM1
      have hv : κ.ret.is (env0 ++ ys) β1 v := hv
      -- lengths
      have hβcl : βc.length = κ.mem.length := by simp [βc, hρl]
      have hml : κ.mem.length ≤ κ.mem1.length := by
        have := hM1.nb
        rw [hδ, List.length_append, hβcl] at this
        omega
      have hδl : δ.length = κ.mem1.length - κ.mem.length := by
        have := hM1.nb
        rw [hδ, List.length_append, hβcl] at this
        omega
      have hSl := hM.nb
      have hup : UpOk (σ ++ varsFrom S.ne κ.mout) (ρ ++ regsFrom S.mem.length (κ.mem1.length - κ.mem.length)) (env0 ++ ys) (env ++ ys) β1 (β ++ δ) := by
        refine ⟨fun j e n hj hn => ?_, fun j r x hj hx => ?_⟩
        · rcases Nat.lt_or_ge j σ.length with hl | hl
          · rw [List.getElem?_append_left hl] at hj
            rw [List.getElem?_append_left (by simpa [env0] using hl)] at hn
            simp [env0, hj] at hn
            subst hn
            exact (SI.is_val (e := e) fun x hx => by rw [hne]; rw [hx] at hj; exact inB_ok hin j x hj).more ys
          · rw [List.getElem?_append_right hl] at hj
            rw [List.getElem?_append_right (by simpa [env0] using hl)] at hn
            simp only [varsFrom, List.getElem?_map, Option.map_eq_some_iff] at hj
            obtain ⟨i, hi, rfl⟩ := hj
            rw [List.getElem?_range (by have := (List.getElem?_eq_some_iff.1 hi).1; simpa using this)] at hi
            injection hi with hi
            simp only [SI.is]
            rw [List.getElem?_append_right (by omega), show S.ne + i - env.length = i by omega, ← hi]
            simpa [env0] using hn
        · rcases Nat.lt_or_ge j ρ.length with hl | hl
          · rw [List.getElem?_append_left hl] at hj
            rw [hδ, List.getElem?_append_left (by simpa [βc] using hl), hβc j r hj] at hx
            have hjm : j < κ.mem.length := by omega
            obtain ⟨r', ds, wr', cs1, wr1, y, a1, a2, a3, a4, a5, a6, a7, a8⟩ := hmkβ j (κ.mem[j]).1 (κ.mem[j]).2 (by simp [hjm])
            rw [hj] at a1
            injection a1 with a1
            subst a1
            rw [hgetD r y a7] at hx
            injection hx with hx
            subst hx
            exact get_more a7 _
          · rw [List.getElem?_append_right hl] at hj
            simp only [regsFrom, List.getElem?_map, Option.map_eq_some_iff] at hj
            obtain ⟨i, hi, rfl⟩ := hj
            rw [List.getElem?_range (by have := (List.getElem?_eq_some_iff.1 hi).1; simpa using this)] at hi
            injection hi with hi
            rw [hδ, List.getElem?_append_right (by omega)] at hx
            rw [List.getElem?_append_right (by omega), show S.mem.length + i - β.length = j - βc.length by omega]
            exact hx
      obtain ⟨hm1l, hm1g⟩ := upMem_ok hm1
      simp only [Nat.zero_add] at hm1g
      have hm2l := optl_length hm2
      have hsz : w.heap.size ≤ w'.heap.size := hM1.kept.size
      have hW0 : W0.heap.size ≤ w.heap.size := hM.kept.size
      -- a region from before
      have hold : ∀ (r : Nat) (es : List SC) (wr : Bool), m1[r]? = some (es, wr) → ∃ es0, S.mem[r]? = some (es0, wr) ∧ es0.length = es.length := by
        intro r es wr hr
        obtain ⟨x, hx, hat⟩ := hm1g r _ hr
        rcases upAt_ok hnd hat with ⟨i, cs, cs1, wr1, ds, b1, b2, b3, b4, b5⟩ | ⟨b1, _⟩
        · obtain ⟨r', ds', wr', cs1', wr1', y, a1, a2, a3, a4, a5, a6, a7, a8⟩ := hmkβ i cs true b2
          rw [b1] at a1
          injection a1 with a1
          subst a1
          rw [b3] at a5
          simp at a5
          obtain ⟨rfl, rfl⟩ := a5
          simp at b5
          obtain ⟨rfl, rfl⟩ := b5
          refine ⟨ds', by rw [a3, a4 rfl], ?_⟩
          rw [optl_length a2, optl_length b4, a6]
        · subst b1
          exact ⟨es, hx, rfl⟩
      have hsplit : ∀ (r : Nat) (es : List SC) (wr : Bool), (m1 ++ m2)[r]? = some (es, wr) → (r < S.mem.length ∧ m1[r]? = some (es, wr)) ∨
          (∃ i cs1, r = S.mem.length + i ∧ κ.mem1[κ.mem.length + i]? = some (cs1, wr) ∧ optl (SC.sub (σ ++ varsFrom S.ne κ.mout) (ρ ++ regsFrom S.mem.length (κ.mem1.length - κ.mem.length))) cs1 = some es) := by
        intro r es wr hr
        rcases Nat.lt_or_ge r S.mem.length with hl | hl
        · left
          rw [List.getElem?_append_left (by omega)] at hr
          exact ⟨hl, hr⟩
        · right
          rw [List.getElem?_append_right (by omega)] at hr
          obtain ⟨x, hx, hf'⟩ := optl_get_rev hm2 _ hr
          rw [List.getElem?_drop] at hx
          unfold newOne at hf'
          split at hf'
          · rename_i ds hd
            simp at hf'
            obtain ⟨rfl, rfl⟩ := hf'
            exact ⟨r - S.mem.length, x.1, by omega, by rw [← hm1l]; exact hx, hd⟩
          · cases hf'
      have hβold : ∀ (r : Nat) (x : Nat × Nat), r < S.mem.length → (β ++ δ)[r]? = some x → β[r]? = some x := by
        intro r x hr hx
        rw [List.getElem?_append_left (by omega)] at hx
        exact hx
      have hβnew : ∀ i : Nat, (β ++ δ)[S.mem.length + i]? = β1[κ.mem.length + i]? := by
        intro i
        rw [hδ, List.getElem?_append_right (by omega), List.getElem?_append_right (by omega)]
        congr 1
        omega
      have holdlt : ∀ (r : Nat) (x : Nat × Nat), r < S.mem.length → β[r]? = some x → x.1 < w.heap.size := by
        intro r x hr hx
        obtain ⟨y, hy, hlt, _⟩ := hM.cell r (S.mem[r]).1 (S.mem[r]).2 (by simp [hr])
        rw [hx] at hy
        injection hy with hy
        subst hy
        exact hlt
      refine ⟨β ++ δ, ⟨δ, rfl⟩, SV.up hup hret hv, ⟨?_, ?_, ?_, ?_⟩⟩
      · simp only [List.length_append, hδl, hm1l, hm2l, List.length_drop, hSl]
      · intro r es wr hr
        rcases hsplit r es wr hr with ⟨hrl, hr1⟩ | ⟨i, cs1, rfl, h1, h2⟩
        · obtain ⟨x0, hx0, hat⟩ := hm1g r _ hr1
          obtain ⟨es0, hes0, hesl⟩ := hold r es wr hr1
          obtain ⟨x, hx, hxl, hxc, hxf⟩ := hM.cell r es0 wr hes0
          refine ⟨x, get_more hx _, by omega, ?_, fun hw j hj => ?_⟩
          · rcases upAt_ok hnd hat with ⟨i, cs, cs1, wr1, ds, b1, b2, b3, b4, b5⟩ | ⟨b1, b2⟩
            · obtain ⟨r', ds', wr', cs1', wr1', y, a1, a2, a3, a4, a5, a6, a7, a8⟩ := hmkβ i cs true b2
              rw [b1] at a1
              injection a1 with a1
              subst a1
              simp at b5
              obtain ⟨rfl, rfl⟩ := b5
              obtain ⟨z, hz, hzl, hzc, _⟩ := hM1.cell i cs1 wr1 b3
              rw [hδ, List.getElem?_append_left (by rw [hβcl]; exact (List.getElem?_eq_some_iff.1 b2).1), a8] at hz
              injection hz with hz
              subst hz
              rw [a7] at hx
              injection hx with hx
              subst hx
              intro j sc hj
              obtain ⟨s1, hs1, hsub⟩ := optl_get_rev b4 sc hj
              obtain ⟨u, hu, hus⟩ := hzc j s1 hs1
              exact ⟨u, hu, SC.up hup hsub hus⟩
            · subst b1
              rw [hx0] at hes0
              simp at hes0
              subst hes0
              intro j sc hj
              obtain ⟨u, hu, hus⟩ := hxc j sc hj
              refine ⟨u, ?_, hus.more ys δ⟩
              rw [hM1.kept.cell x.1 (x.2 + j) hxl]
              · exact hu
              · rintro ⟨i, cs, y, c1, c2, c3, c4, c5⟩
                obtain ⟨r', ds', wr', cs1', wr1', y', a1, a2, a3, a4, a5, a6, a7, a8⟩ := hmkβ i cs true c1
                rw [c2] at a8
                injection a8 with a8
                subst a8
                have hrr : r' ≠ r := fun he => b2 i (by rw [a1, he]) cs c1
                have hjl := (List.getElem?_eq_some_iff.1 hj).1
                have hdl := optl_length a2
                rcases hM.dis r' r y x ds' es wr' wr hrr a7 hx a3 hx0 (.inl (a4 rfl)) with d1 | d1 | d1
                · exact d1 c3.symm
                · omega
                · omega
          · obtain ⟨h1, h2⟩ := hxf hw j (by omega)
            exact ⟨by rw [hM1.kept.frozen x.1 (x.2 + j) hxl]; exact h1, h2⟩
        · obtain ⟨x, hx, hxl, hxc, hxf⟩ := hM1.cell _ cs1 wr h1
          refine ⟨x, by rw [hβnew]; exact hx, hxl, fun j sc hj => ?_, fun hw j hj => ?_⟩
          · obtain ⟨s1, hs1, hsub⟩ := optl_get_rev h2 sc hj
            obtain ⟨u, hu, hus⟩ := hxc j s1 hs1
            exact ⟨u, hu, SC.up hup hsub hus⟩
          · rw [optl_length h2] at hj
            exact ⟨(hxf hw j hj).1, .inl (Nat.le_trans hW0 (hfresh _ x (by omega) hx))⟩
      · intro r s x y cs ds wr ws hrs hx hy hr hs hor
        rcases hsplit r cs wr hr with ⟨hrl, hr1⟩ | ⟨i, cs1, rfl, h1, h2⟩
        · rcases hsplit s ds ws hs with ⟨hsl, hs1⟩ | ⟨i', cs1', rfl, h1', h2'⟩
          · obtain ⟨es0, hes0, hesl⟩ := hold r cs wr hr1
            obtain ⟨fs0, hfs0, hfsl⟩ := hold s ds ws hs1
            have := hM.dis r s x y es0 fs0 wr ws hrs (hβold r x hrl hx) (hβold s y hsl hy) hes0 hfs0 hor
            rw [hesl, hfsl] at this
            exact this
          · left
            rw [hβnew] at hy
            have h3 := hfresh _ y (by omega) hy
            have h4 := holdlt r x hrl (hβold r x hrl hx)
            omega
        · rcases hsplit s ds ws hs with ⟨hsl, hs1⟩ | ⟨i', cs1', rfl, h1', h2'⟩
          · left
            rw [hβnew] at hx
            have h3 := hfresh _ x (by omega) hx
            have h4 := holdlt s y hsl (hβold s y hsl hy)
            omega
          · rw [hβnew] at hx hy
            rw [optl_length h2, optl_length h2']
            exact hM1.dis _ _ x y cs1 cs1' wr ws (by omega) hx hy h1 h1' hor
      · refine hM.kept.trans hM1.kept ?_
        rintro b o hb ⟨i, cs, y, c1, c2, rfl, c4, c5⟩
        obtain ⟨r', ds', wr', cs1', wr1', y', a1, a2, a3, a4, a5, a6, a7, a8⟩ := hmkβ i cs true c1
        rw [c2] at a8
        injection a8 with a8
        subst a8
        obtain ⟨z, hz, _, _, hfr⟩ := hM.cell r' ds' wr' a3
        rw [a7] at hz
        injection hz with hz
        subst hz
        rcases (hfr (a4 rfl) (o - y.2) (by rw [optl_length a2]; omega)).2 with h1 | h1
        · omega
        · rw [show y.2 + (o - y.2) = o by omega] at h1
          exact h1
  · cases h

theorem names_of_use {κ : K} {args : List SV} {S : St} {r : CR} (h : κ.use args S = some r) : ∃ σ ρ, κ.names args S = some (σ, ρ) := by
  unfold K.use at h
  split at h
  · rename_i σ ρ hn; exact ⟨σ, ρ, hn⟩
  · cases h

theorem use_ok {P : Program} {A : Ask} {κ : K} (hk : KOk P A κ) {args : List SV} {S : St} {r : CR} (h : κ.use args S = some r)
    {env : List Int} {β : List (Nat × Nat)} {vs : List Value} {w W0 : World} {Tp : Nat → Nat → Prop} (hf : Facts env S) (hM : MRel W0 Tp env β S.mem w) (ha : All2 (SV.is env β) args vs)
    (hp : A.pre r.id (r.xs.map (·.val env))) :
    Calls P κ.f vs.toArray w (fun e w' => ∃ ys β' v, ys.length = r.m ∧ A.post r.id (r.xs.map (·.val env)) ys ∧ e = .returned v ∧ Longer β β' ∧ r.ret.is (env ++ ys) β' v ∧ MRel W0 Tp (env ++ ys) β' r.mem w') := by
  obtain ⟨σ, ρ, hn⟩ := names_of_use h
  have hc := use_core hn h hf hM ha
  rw [hc.xs, hc.id] at hp ⊢
  rw [hc.m]
  refine (hk _ _ vs w hc.len hc.mem hc.args hp).mono ?_
  rintro e w' ⟨ys, β1, v, hyl, hpost, rfl, hb, hv, hM1, hfresh⟩
  obtain ⟨β', h1, h2, h3⟩ := hc.post ys β1 v w' hyl hb hv hM1 hfresh
  exact ⟨ys, β', v, hyl, hpost, rfl, h1, h2, h3⟩

theorem conOf_ok {P : Program} {ext : Nat → Nat} {A : Ask} : ∀ {pc : Nat → Nat → St → Option (List PR)} {L : List K}, (∀ κ, κ ∈ L → KOk P A κ) → ConOk ⟨P, ext, conOf L, pc⟩ A
  | pc, [], _ => fun f args S r h => by simp [conOf] at h
  | pc, κ :: L, hL => fun f args S r h env β vs w W0 Tp hf hM ha hp => by
    simp only [conOf] at h
    cases hb : Nat.beq κ.f f with
    | false =>
      rw [hb, cond_false] at h
      exact conOf_ok (ext := ext) (pc := pc) (fun κ' hk => hL κ' (List.mem_cons_of_mem _ hk)) f args S r h env β vs w W0 Tp hf hM ha hp
    | true =>
      have hff := Nat.eq_of_beq_eq_true hb
      rw [hb, cond_true] at h
      split at h
      · rename_i c hc
        injection h with h
        subst h
        subst hff
        exact use_ok (hL κ (List.mem_cons_self ..)) hc hf hM ha hp
      · exact conOf_ok (ext := ext) (pc := pc) (fun κ' hk => hL κ' (List.mem_cons_of_mem _ hk)) f args S r h env β vs w W0 Tp hf hM ha hp
end Eng
end
section
/-
  The walk by reckoning: a contract is shown by the walk itself.
-/
namespace Eng
open Go Go.RowKit

def K.st (κ : K) : St := { nt := 0, tm := [], fx := [], bt := [], mem := κ.mem, ne := κ.m, fn := 0, blk := 0 }
def st0 : St := { nt := 0, tm := [], fx := [], bt := [], mem := [], ne := 0, fn := 0, blk := 0 }
def enc (τ : List SI) : SV := .ww (.aa (τ.map fun e => .ii .u64 e))
def dec1 : SC → SI
  | .ii _ e => e
  | _ => .lit 0
def dec : SV → List SI
  | .ww (.aa l) => l.map dec1
  | _ => []
theorem dec_enc (τ : List SI) : dec (enc τ) = τ := by
  simp only [dec, enc, List.map_map]
  induction τ with
  | nil => rfl
  | cons x r ih => simp only [List.map_cons, ih]; rfl

/-- The regions at the end of the walk are those that the contract tells. -/
def doneB (σ : List SI) (ρ : List Nat) (S : St) : Nat → List (List SC × Bool) → Bool
  | _, [] => true
  | i, (cs, wr) :: r => (match ρ[i]?, optl (SC.sub σ ρ) cs with
    | some r', some ds => (match S.mem[r']? with
      | some (es, wr') => listBeq SC.beq ds es && (!wr || wr')
      | none => false)
    | _, _ => false) && doneB σ ρ S (i + 1) r
theorem doneB_ok {σ : List SI} {ρ : List Nat} {S : St} : ∀ {km : List (List SC × Bool)} {i : Nat}, doneB σ ρ S i km = true →
    ∀ (j : Nat) (cs : List SC) (wr : Bool), km[j]? = some (cs, wr) → ∃ r' ds wr', ρ[i + j]? = some r' ∧ optl (SC.sub σ ρ) cs = some ds ∧ S.mem[r']? = some (ds, wr') ∧ (wr = true → wr' = true)
  | [], i, _, j, cs, wr, h => by simp at h
  | (cs0, wr0) :: km, i, hm, j, cs, wr, h => by
    simp only [doneB, Bool.and_eq_true] at hm
    obtain ⟨h1, h3⟩ := hm
    cases j with
    | zero =>
      simp at h
      obtain ⟨rfl, rfl⟩ := h
      split at h1
      · rename_i r' ds hr hd
        split at h1
        · rename_i es wr' hs
          simp only [Bool.and_eq_true, Bool.or_eq_true, Bool.not_eq_true'] at h1
          have he := listBeq_eq (fun _ _ => SC.beq_eq) h1.1
          subst he
          refine ⟨r', ds, wr', by simpa using hr, hd, hs, fun hw => ?_⟩
          rcases h1.2 with h4 | h4
          · rw [hw] at h4; cases h4
          · exact h4
        · cases h1
      · cases h1
    | succ j =>
      obtain ⟨r', ds, wr', a1, a2, a3, a4⟩ := doneB_ok h3 j cs wr (by simpa using h)
      exact ⟨r', ds, wr', by rw [show i + (j + 1) = i + 1 + j by omega]; exact a1, a2, a3, a4⟩

/-- New regions: behind those of the beginning, writable, not empty. -/
def freshB (n : Nat) (S : St) : List Nat → Bool
  | [] => true
  | r :: l => Nat.ble n r && (match S.mem[r]? with
    | some (_ :: _, true) => true
    | _ => false) && freshB n S l
theorem freshB_ok {n : Nat} {S : St} : ∀ {l : List Nat}, freshB n S l = true → ∀ (j r : Nat), l[j]? = some r → n ≤ r ∧ ∃ c cs, S.mem[r]? = some (c :: cs, true)
  | [], _, j, r, h => by simp at h
  | x :: l, h, j, r, hj => by
    simp only [freshB, Bool.and_eq_true] at h
    obtain ⟨⟨h1, h2⟩, h3⟩ := h
    cases j with
    | zero =>
      simp at hj
      subst hj
      refine ⟨Nat.le_of_ble_eq_true h1, ?_⟩
      split at h2
      · rename_i c cs hc; exact ⟨c, cs, hc⟩
      · cases h2
    | succ j => exact freshB_ok h3 j r (by simpa using hj)
/-- The regions that the contract may write still stand as they stood. -/
def stillB (S : St) : Nat → List (List SC × Bool) → Bool
  | _, [] => true
  | i, (cs, wr) :: r => (!wr || (match S.mem[i]? with
    | some (es, w) => w && Nat.beq es.length cs.length
    | none => false)) && stillB S (i + 1) r
theorem stillB_ok {S : St} : ∀ {km : List (List SC × Bool)} {i : Nat}, stillB S i km = true → ∀ (j : Nat) (cs : List SC), km[j]? = some (cs, true) → ∃ es, S.mem[i + j]? = some (es, true) ∧ es.length = cs.length
  | [], i, _, j, cs, h => by simp at h
  | (cs0, wr0) :: km, i, hm, j, cs, h => by
    simp only [stillB, Bool.and_eq_true] at hm
    obtain ⟨h1, h3⟩ := hm
    cases j with
    | zero =>
      simp at h
      obtain ⟨rfl, rfl⟩ := h
      simp only [Bool.not_true, Bool.false_or] at h1
      split at h1
      · rename_i es w hs
        simp only [Bool.and_eq_true] at h1
        obtain ⟨rfl, h2⟩ := h1
        exact ⟨es, hs, Nat.eq_of_beq_eq_true h2⟩
      · cases h1
    | succ j =>
      obtain ⟨es, a1, a2⟩ := stillB_ok h3 j cs (by simpa using h)
      exact ⟨es, by rw [show i + (j + 1) = i + 1 + j by omega]; exact a1, a2⟩

def idR (n : Nat) : List (Nat × Nat) := (List.range n).map fun i => (i, i)
def K.done (κ : K) (v : SV) (S : St) : Option (List SI × List Nat) :=
  match getAll (mtR (mtA ⟨[], idR κ.mem.length⟩ [κ.ret] [v]) S 0 κ.mem1).i κ.m κ.mout, getAll (mtA ⟨[], idR κ.mem.length⟩ [κ.ret] [v]).r κ.mem.length (κ.mem1.length - κ.mem.length) with
  | some τ, some ρk =>
    match SV.sub (varsFrom 0 κ.m ++ τ) (List.range κ.mem.length ++ ρk) κ.ret with
    | some u => bif SV.beq u v && (nodupB (List.range κ.mem.length ++ ρk) && (doneB (varsFrom 0 κ.m ++ τ) (List.range κ.mem.length ++ ρk) S 0 κ.mem1 && (freshB κ.mem.length S ρk && (stillB S 0 κ.mem && Nat.ble κ.mem.length κ.mem1.length)))) then some (τ, ρk) else none
    | none => none
  | _, _ => none
def K.end (κ : K) (v : SV) (S : St) : Tree := match κ.done v S with
  | some x => .fin (enc x.1) st0
  | none => .bad 9
def Ask.to (A : Ask) (κ : K) : Ask := { A with fin := fun v _ env => A.post κ.id (env.take κ.m) ((dec v).map (·.val env)) }

def rngC : List SC → List (IntKind × Nat)
  | [] => []
  | .ii k (.var x) :: l => (k, x) :: rngC l
  | _ :: l => rngC l
def rngA : List SV → List (IntKind × Nat)
  | [] => []
  | .ww (.cc c) :: l => rngC [c] ++ rngA l
  | .ww (.aa cs) :: l => rngC cs ++ rngA l
  | _ :: l => rngA l
def rngM : List (List SC × Bool) → List (IntKind × Nat)
  | [] => []
  | (cs, _) :: l => rngC cs ++ rngM l
def Rng (env : List Int) : List (IntKind × Nat) → Prop
  | [] => True
  | (k, x) :: l => fits k (env.getD x 0) ∧ Rng env l
theorem Rng.append {env : List Int} : ∀ {l m : List (IntKind × Nat)}, Rng env l → Rng env m → Rng env (l ++ m)
  | [], _, _, h => h
  | (_, _) :: _, _, h1, h2 => ⟨h1.1, Rng.append h1.2 h2⟩
theorem rngC_ok {env : List Int} {β : List (Nat × Nat)} : ∀ {l : List SC} {vs : List Value}, All2 (SC.is env β) l vs → Rng env (rngC l)
  | [], _, _ => trivial
  | c :: l, [], h => h.elim
  | c :: l, v :: vs, ⟨h1, h2⟩ => by
    have ih := rngC_ok h2
    cases c with
    | ii k e =>
      cases e with
      | lit n => exact ih
      | var x =>
        obtain ⟨n, hn, hf, _⟩ := h1
        refine ⟨?_, ih⟩
        rw [show env.getD x 0 = n from hn.val]
        exact hf
    | bb e => exact ih
    | pp r o => exact ih
    | ss r o l c => exact ih
    | kk u => exact ih
theorem rngA_ok {env : List Int} {β : List (Nat × Nat)} : ∀ {l : List SV} {vs : List Value}, All2 (SV.is env β) l vs → Rng env (rngA l)
  | [], _, _ => trivial
  | c :: l, [], h => h.elim
  | c :: l, v :: vs, ⟨h1, h2⟩ => by
    have ih := rngA_ok h2
    cases c with
    | ww e =>
      cases e with
      | cc c => exact Rng.append (rngC_ok (l := [c]) (vs := [v]) ⟨h1, trivial⟩) ih
      | aa cs =>
        obtain ⟨us, _, hu⟩ := h1
        exact Rng.append (rngC_ok hu) ih
    | tt e => exact ih
theorem rngM_ok {W0 : World} {Tp : Nat → Nat → Prop} {env : List Int} {β : List (Nat × Nat)} {w : World} {mem : List (List SC × Bool)} (h : MRel W0 Tp env β mem w) : Rng env (rngM mem) := by
  have key : ∀ l : List (List SC × Bool), (∀ p, p ∈ l → p ∈ mem) → Rng env (rngM l) := by
    intro l
    induction l with
    | nil => intro _; trivial
    | cons p l ih =>
      intro hl
      obtain ⟨cs, wr⟩ := p
      refine Rng.append ?_ (ih fun q hq => hl q (List.mem_cons_of_mem _ hq))
      obtain ⟨r, hr⟩ := List.getElem?_of_mem (hl (cs, wr) (List.mem_cons_self ..))
      obtain ⟨x, _, _, hc, _⟩ := h.cell r cs wr hr
      have : All2 (SC.is env β) cs ((List.range cs.length).map fun j => (w.cell? ⟨x.1, x.2 + j, none⟩).getD default) :=
        All2.of_get fun i sc hi => by
          obtain ⟨v, hv, hs⟩ := hc i sc hi
          rw [hv]
          exact hs
      exact rngC_ok this
  exact key mem fun _ hp => hp

/-- The end of a walk, in the contract's own names. -/
theorem done_core {κ : K} {v : SV} {S : St} {τ : List SI} {ρk : List Nat} (hd : κ.done v S = some (τ, ρk)) {env ee : List Int} {β δ : List (Nat × Nat)} {w w' : World} {env' : List Int} {β' : List (Nat × Nat)} {u : Value}
    (hl : env.length = κ.m) (he : env' = env ++ ee) (hδ : β' = β ++ δ) (hnb : β.length = κ.mem.length) (hM' : MRel w (TpOf β κ.mem) env' β' S.mem w') (hv : v.is env' β' u) :
    (τ.map (·.val env')).length = κ.mout ∧ ∃ βc, Longer β βc ∧ κ.ret.is (env ++ τ.map (·.val env')) βc u ∧ MRel w (TpOf β κ.mem) (env ++ τ.map (·.val env')) βc κ.mem1 w' ∧
      (∀ i x, κ.mem.length ≤ i → βc[i]? = some x → w.heap.size ≤ x.1) := by
  unfold K.done at hd
  split at hd
  · rename_i τ' ρk' hτ hρ
    split at hd
    · rename_i uu hret
      cases hc : (SV.beq uu v && (nodupB (List.range κ.mem.length ++ ρk') && (doneB (varsFrom 0 κ.m ++ τ') (List.range κ.mem.length ++ ρk') S 0 κ.mem1 && (freshB κ.mem.length S ρk' && (stillB S 0 κ.mem && Nat.ble κ.mem.length κ.mem1.length))))) with
      | false => rw [hc, cond_false] at hd; cases hd
      | true =>
        rw [hc, cond_true] at hd
        simp only [Option.some.injEq, Prod.mk.injEq] at hd
        obtain ⟨rfl, rfl⟩ := hd
        simp only [Bool.and_eq_true] at hc
        obtain ⟨hc1, hnd, hdn, hfr, hst, hle⟩ := hc
        have hle := Nat.le_of_ble_eq_true hle
        have hvv := SV.beq_eq hc1
        subst hvv
        have hτl := getAll_len hτ
        have hρl := getAll_len hρ
        have hgetD : ∀ (r : Nat) (x : Nat × Nat), β'[r]? = some x → β'.getD r (0, 0) = x := fun r x hx => by simp [List.getD, hx]
        let βc := β ++ ρk'.map fun r => β'.getD r (0, 0)
        have hβc : ∀ (j r : Nat) (x : Nat × Nat), (List.range κ.mem.length ++ ρk')[j]? = some r → β'[r]? = some x → βc[j]? = some x := by
          intro j r x hj hx
          rcases Nat.lt_or_ge j κ.mem.length with hjl | hjl
          · rw [List.getElem?_append_left (by simpa using hjl), List.getElem?_range hjl] at hj
            injection hj with hj
            subst hj
            rw [hδ, List.getElem?_append_left (by omega)] at hx
            exact get_more hx _
          · rw [List.getElem?_append_right (by simpa using hjl)] at hj
            simp only [βc]
            rw [List.getElem?_append_right (by omega)]
            simp only [List.length_range] at hj
            rw [hnb]
            rw [List.getElem?_map, hj, Option.map_some, hgetD r x hx]
        have hdown : DownOk (varsFrom 0 κ.m ++ τ') (List.range κ.mem.length ++ ρk') (env ++ τ'.map (·.val env')) env' βc β' := by
          refine ⟨fun j e m hj hem => ?_, fun j r x hj hx => hβc j r x hj hx⟩
          have hvl : (varsFrom 0 κ.m).length = κ.m := by simp [varsFrom]
          rcases Nat.lt_or_ge j κ.m with hjl | hjl
          · rw [List.getElem?_append_left (by omega)] at hj
            simp only [varsFrom, List.getElem?_map, List.getElem?_range hjl, Option.map_some, Nat.zero_add] at hj
            injection hj with hj
            subst hj
            simp only [SI.is] at hem
            rw [he, List.getElem?_append_left (by omega)] at hem
            exact get_more hem _
          · rw [List.getElem?_append_right (by omega), hvl] at hj
            rw [List.getElem?_append_right (by omega), hl]
            rw [List.getElem?_map, hj, Option.map_some, hem.val]
        have hdone := doneB_ok hdn
        simp only [Nat.zero_add] at hdone
        have hdoneβ : ∀ (j : Nat) (cs : List SC) (wr : Bool), κ.mem1[j]? = some (cs, wr) → ∃ r' ds wr' x, (List.range κ.mem.length ++ ρk')[j]? = some r' ∧ optl (SC.sub (varsFrom 0 κ.m ++ τ') (List.range κ.mem.length ++ ρk')) cs = some ds ∧
            S.mem[r']? = some (ds, wr') ∧ (wr = true → wr' = true) ∧ β'[r']? = some x ∧ βc[j]? = some x := by
          intro j cs wr hj
          obtain ⟨r', ds, wr', a1, a2, a3, a4⟩ := hdone j cs wr hj
          obtain ⟨x, hx, _⟩ := hM'.cell r' ds wr' a3
          exact ⟨r', ds, wr', x, a1, a2, a3, a4, hx, hβc j r' x a1 hx⟩
        refine ⟨by simp [hτl], βc, ⟨_, rfl⟩, SV.down hdown hret hv, ⟨?_, ?_, ?_, hM'.kept⟩, ?_⟩
        · simp only [βc, List.length_append, List.length_map, hρl, hnb]
          omega
        · intro j cs wr hj
          obtain ⟨r', ds, wr', x, a1, a2, a3, a4, a5, a6⟩ := hdoneβ j cs wr hj
          obtain ⟨y, hy, hyl, hyc, hyf⟩ := hM'.cell r' ds wr' a3
          rw [a5] at hy
          injection hy with hy
          subst hy
          refine ⟨x, a6, hyl, fun i sc hi => ?_, fun hw i hi => hyf (a4 hw) i (by rw [optl_length a2]; exact hi)⟩
          obtain ⟨sd, hd, hsub⟩ := optl_get a2 sc hi
          obtain ⟨z, hz, hzs⟩ := hyc i sd hd
          exact ⟨z, hz, SC.down hdown hsub hzs⟩
        · intro j l x y cs ds wr ws hjl hx hy hj hll hor
          obtain ⟨r1, d1, wr1, z1, a1, a2, a3, a4, a5, a6⟩ := hdoneβ j cs wr hj
          obtain ⟨r2, d2, wr2, z2, b1, b2, b3, b4, b5, b6⟩ := hdoneβ l ds ws hll
          rw [hx] at a6
          rw [hy] at b6
          injection a6 with a6
          injection b6 with b6
          subst a6
          subst b6
          have hrr : r1 ≠ r2 := fun he => hjl (nodupB_ok hnd j l r1 a1 (by rw [b1, he]))
          have := hM'.dis r1 r2 x y d1 d2 wr1 wr2 hrr a5 b5 a3 b3 (hor.imp a4 b4)
          rw [optl_length a2, optl_length b2] at this
          exact this
        · intro i x hi hx
          simp only [βc] at hx
          rw [List.getElem?_append_right (by omega), hnb] at hx
          simp only [List.getElem?_map, Option.map_eq_some_iff] at hx
          obtain ⟨r, hr, hrx⟩ := hx
          obtain ⟨h1, c, cs, h2⟩ := freshB_ok hfr _ r hr
          obtain ⟨y, hy, hyl, hyc, hyf⟩ := hM'.cell r (c :: cs) true h2
          rw [hgetD r y hy] at hrx
          subst hrx
          rcases (hyf rfl 0 (by simp)).2 with h3 | ⟨q, cq, z, c1, c2, c3, c4, c5⟩
          · exact h3
          · exfalso
            obtain ⟨es, he1, he2⟩ := stillB_ok hst q cq c1
            rw [Nat.zero_add] at he1
            have hql : q < κ.mem.length := (List.getElem?_eq_some_iff.1 c1).1
            have hz : β'[q]? = some z := by rw [hδ]; exact get_more c2 _
            rcases hM'.dis q r z y es (c :: cs) true true (by omega) hz hy he1 h2 (.inl rfl) with d1 | d1 | d1
            · exact d1 c3.symm
            · omega
            · simp only [List.length_cons] at d1; omega
    · cases hd
  · cases hd

theorem kok_of {C : Cfg} {A : Ask} (hm : C.P.follows .mixedOrders = true) (hE : Ext C.P C.ext) (hC : ConOk C A) (hP : PcOk C A) (n : Nat) {κ : K} (hx : C.ext κ.f = 0)
    (h : ∀ env : List Int, env.length = κ.m → Rng env (rngA κ.args ++ rngM κ.mem) → A.pre κ.id env → (xcall C (fun f => xcode C n f 0) κ.f κ.args κ.st κ.end).holds (A.to κ) env) : KOk C.P A κ := by
  intro env β vs w hl hM ha hp
  have hh := h env hl (Rng.append (rngA_ok ha) (rngM_ok hM)) hp
  have hC' : ConOk C (A.to κ) := hC
  have hP' : PcOk C (A.to κ) := hP
  have hf : Facts env κ.st := ⟨hl, fun x t ht => by simp [K.st, lk] at ht, fun x hx => by simp [K.st] at hx⟩
  refine (xcall_ok hC' (code_ok (W0 := w) (Tp := TpOf β κ.mem) hm hE hC' hP' n).1 κ.f κ.args κ.st κ.end env β w vs
    (fun u w' => ∃ ys β' v, ys.length = κ.mout ∧ A.post κ.id env ys ∧ u = v ∧ Longer β β' ∧ κ.ret.is (env ++ ys) β' v ∧
      MRel w (TpOf β κ.mem) (env ++ ys) β' κ.mem1 w' ∧ (∀ i x, κ.mem.length ≤ i → β'[i]? = some x → w.heap.size ≤ x.1)) hx hf hM ha hh ?_).mono ?_
  · rintro v u S env' β' w' ⟨ee, he⟩ ⟨δ, hδ⟩ _ _ _ hM' hv hend
    unfold K.end at hend
    split at hend
    · rename_i x hd
      obtain ⟨τ, ρk⟩ := x
      have hpost : A.post κ.id env (τ.map (·.val env')) := by
        have h1 : A.post κ.id (env'.take κ.m) ((dec (enc τ)).map (·.val env')) := hend
        rw [dec_enc, he, List.take_append_of_le_length (by omega), List.take_of_length_le (by omega), ← he] at h1
        exact h1
      obtain ⟨h1, βc, h2, h3, h4, h5⟩ := done_core hd hl he hδ hM.nb hM' hv
      exact ⟨_, βc, u, h1, hpost, rfl, h2, h3, h4, h5⟩
    · exact hend.elim
  · rintro e w' ⟨u, rfl, ys, β', v, h1, h2, rfl, h3, h4, h5, h6⟩
    exact ⟨ys, β', u, h1, h2, rfl, h3, h4, h5, h6⟩
end Eng
end
section
/-
  The walk by reckoning: contracts of loops and of regions.
-/
namespace Eng
open Go Go.RowKit

/-- One end of a piece. -/
structure PX where
  e : SX
  out : List Nat
  id : Nat
  mout : Nat
  ret : List SW
  mem1 : List (List SC × Bool)
/-- A contract of a piece of code. -/
structure PC where
  nt : Nat
  sl : List Nat
  args : List SW
  mem : List (List SC × Bool)
  m : Nat
  ex : List PX

def PX.k (p : PC) (x : PX) : K := { f := 0, args := p.args.map .ww, mem := p.mem, m := p.m, id := x.id, mout := x.mout, ret := .tt x.ret, mem1 := x.mem1 }
def slotW (S : St) (d : Nat) : Option SW :=
  match lk d S.tm with
  | some (.ww x) => some x
  | _ => none
def zipT : List Nat → List SW → List (Nat × SV)
  | d :: l, x :: m => (d, .ww x) :: zipT l m
  | _, _ => []
def PX.use (p : PC) (args : List SW) (S : St) (x : PX) : Option PR :=
  match (x.k p).use (args.map .ww) S with
  | some r => match r.ret with
    | .tt l => some { e := x.e, id := r.id, xs := r.xs, m := r.m, tm := zipT x.out l, mem := r.mem }
    | _ => none
  | none => none
def PC.use (p : PC) (S : St) : Option (List PR) :=
  bif Nat.beq p.nt S.nt then match optl (slotW S) p.sl with
    | some args => optl (PX.use p args S) p.ex
    | none => none
  else none
def pcOf : List ((Nat × Nat) × PC) → Nat → Nat → St → Option (List PR)
  | [], _, _, _ => none
  | ((f, k), p) :: r, fn, key, S => match (bif Nat.beq f fn && Nat.beq k key then p.use S else none) with
    | some l => some l
    | none => pcOf r fn key S

def Slots (a : Act) (ds : List Nat) (us : List Value) : Prop := ∀ (i d : Nat) (v : Value), ds[i]? = some d → us[i]? = some v → a.tmps[d]? = some v

/-- What the contract of a piece says. -/
def PcKOk (P : Program) (A : Ask) (p : PC) (c : Code) : Prop :=
  ∀ (env : List Int) (β : List (Nat × Nat)) (us : List Value) (a : Act) (w : World) (Q : Exit → Act → World → Prop), Calm Q → env.length = p.m → MRel w (TpOf β p.mem) env β p.mem w →
    All2 (SW.is env β) p.args us → a.defers = [] → a.tmps.size = p.nt → Slots a p.sl us → (∀ x, x ∈ p.ex → A.pre x.id env) →
    (∀ x, x ∈ p.ex → ∀ (ys : List Int) (β' : List (Nat × Nat)) (rs : List Value) (a' : Act) (w' : World), ys.length = x.mout → A.post x.id env ys → Longer β β' → All2 (SW.is (env ++ ys) β') x.ret rs →
      MRel w (TpOf β p.mem) (env ++ ys) β' x.mem1 w' → (∀ i y, p.mem.length ≤ i → β'[i]? = some y → w.heap.size ≤ y.1) → a'.defers = [] → a'.tmps.size = p.nt → Slots a' x.out rs → Q x.e.ex a' w') →
    PieceWp P c Q a w

section
variable {env : List Int} {β : List (Nat × Nat)}
theorem all2_ww : ∀ {l : List SW} {vs : List Value}, All2 (SW.is env β) l vs → All2 (SV.is env β) (l.map .ww) vs
  | [], [], _ => trivial
  | _ :: _, _ :: _, ⟨h1, h2⟩ => ⟨h1, all2_ww h2⟩
theorem all2_slots {S : St} {a : Act} (hF : FRel env β S a) : ∀ {ds : List Nat} {l : List SW}, optl (slotW S) ds = some l → ∃ us, All2 (SW.is env β) l us ∧ Slots a ds us
  | [], l, h => by
    simp [optl] at h
    subst h
    exact ⟨[], trivial, fun i d v h => by simp at h⟩
  | d :: ds, l, h => by
    unfold optl at h
    split at h
    · rename_i x m hx hm
      injection h with h
      subst h
      obtain ⟨us, h1, h2⟩ := all2_slots hF hm
      unfold slotW at hx
      split at hx
      · rename_i y hy
        injection hx with hx
        subst hx
        obtain ⟨v, hv, hs⟩ := hF.tm d _ hy
        refine ⟨v :: us, ⟨hs, h1⟩, fun i e u he hu => ?_⟩
        cases i with
        | zero =>
          simp at he hu
          subst he; subst hu
          exact hv
        | succ i => exact h2 i e u (by simpa using he) (by simpa using hu)
      · cases hx
    · cases h
theorem lk_zipT {d : Nat} {sv : SV} : ∀ {ds : List Nat} {l : List SW}, lk d (zipT ds l) = some sv → ∃ (i : Nat) (x : SW), ds[i]? = some d ∧ l[i]? = some x ∧ sv = .ww x
  | [], l, h => by cases l <;> simp [zipT, lk] at h
  | e :: ds, [], h => by simp [zipT, lk] at h
  | e :: ds, x :: l, h => by
    by_cases he : e = d
    · subst he
      rw [zipT, lk_cons_same] at h
      injection h with h
      exact ⟨0, x, rfl, rfl, h.symm⟩
    · rw [zipT, lk_cons_ne _ _ he] at h
      obtain ⟨i, y, h1, h2, h3⟩ := lk_zipT h
      exact ⟨i + 1, y, by simpa using h1, by simpa using h2, h3⟩
theorem slots_tm {a : Act} {ds : List Nat} {l : List SW} {us : List Value} (hs : Slots a ds us) (hl : All2 (SW.is env β) l us) (d : Nat) (sv : SV) (h : lk d (zipT ds l) = some sv) :
    ∃ v, a.tmps[d]? = some v ∧ sv.is env β v := by
  obtain ⟨i, x, h1, h2, rfl⟩ := lk_zipT h
  obtain ⟨v, hv, hx⟩ := hl.get h2
  exact ⟨v, hs i d v h1 hv, hx⟩
end

theorem names_same {p : PC} {x y : PX} {args : List SV} {S : St} {σ σ' : List SI} {ρ ρ' : List Nat} (h : (x.k p).names args S = some (σ, ρ)) (h' : (y.k p).names args S = some (σ', ρ')) : σ = σ' ∧ ρ = ρ' := by
  have key : ∀ z : PX, ∀ {σ : List SI} {ρ : List Nat}, (z.k p).names args S = some (σ, ρ) →
      getAll (mtR (mtA ⟨[], []⟩ (p.args.map SV.ww) args) S 0 p.mem).i 0 p.m = some σ ∧ getAll (mtA ⟨[], []⟩ (p.args.map SV.ww) args).r 0 p.mem.length = some ρ := by
    intro z σ ρ h
    unfold K.names at h
    split at h
    · rename_i σ' ρ' hσ hρ
      split at h
      · unfold cond at h
        split at h
        · simp only [Option.some.injEq, Prod.mk.injEq] at h
          obtain ⟨rfl, rfl⟩ := h
          exact ⟨hσ, hρ⟩
        · cases h
      · cases h
    · cases h
  obtain ⟨h1, h2⟩ := key x h
  obtain ⟨h3, h4⟩ := key y h'
  rw [h1] at h3
  rw [h2] at h4
  injection h3 with h3
  injection h4 with h4
  exact ⟨h3, h4⟩

theorem pxuse_of {p : PC} {args : List SW} {S : St} {x : PX} {r : PR} (h : PX.use p args S x = some r) :
    ∃ κr l, (x.k p).use (args.map .ww) S = some κr ∧ κr.ret = .tt l ∧ r = { e := x.e, id := κr.id, xs := κr.xs, m := κr.m, tm := zipT x.out l, mem := κr.mem } := by
  unfold PX.use at h
  split at h
  · rename_i κr hκ
    split at h
    · rename_i l hl
      injection h with h
      exact ⟨κr, l, hκ, hl, h.symm⟩
    · cases h
  · cases h

theorem pcuse_ok {P : Program} {A : Ask} {p : PC} {c : Code} (hk : PcKOk P A p c) {S : St} {l : List PR} (h : p.use S = some l) {env : List Int} {β : List (Nat × Nat)} {a : Act} {w W0 : World} {Tp : Nat → Nat → Prop}
    {Q : Exit → Act → World → Prop} (hQ : Calm Q) (hF : FRel env β S a) (hM : MRel W0 Tp env β S.mem w) (hne : l ≠ []) (hp : ∀ r, r ∈ l → A.pre r.id (r.xs.map (·.val env)))
    (hq : ∀ r, r ∈ l → ∀ (ys : List Int) (β' : List (Nat × Nat)) (a' : Act) (w' : World), ys.length = r.m → A.post r.id (r.xs.map (·.val env)) ys → Longer β β' →
      FRel (env ++ ys) β' { S with tm := r.tm, mem := r.mem, ne := S.ne + r.m } a' → MRel W0 Tp (env ++ ys) β' r.mem w' → Q r.e.ex a' w') : PieceWp P c Q a w := by
  unfold PC.use at h
  cases hnt : Nat.beq p.nt S.nt with
  | false => rw [hnt, cond_false] at h; cases h
  | true =>
    rw [hnt, cond_true] at h
    have hnt := Nat.eq_of_beq_eq_true hnt
    split at h
    · rename_i args hargs
      obtain ⟨us, hus, hsl⟩ := all2_slots hF hargs
      -- the first end gives the names
      obtain ⟨r0, hr0⟩ : ∃ r0, l[0]? = some r0 := by
        cases l with
        | nil => exact absurd rfl hne
        | cons r0 l => exact ⟨r0, rfl⟩
      obtain ⟨x0, hx0, hu0⟩ := optl_get_rev h r0 hr0
      obtain ⟨κ0, l0, hκ0, _, _⟩ := pxuse_of hu0
      obtain ⟨σ, ρ, hn0⟩ := names_of_use hκ0
      have all : ∀ x, x ∈ p.ex → ∃ r κr lr, r ∈ l ∧ (x.k p).use (args.map .ww) S = some κr ∧ κr.ret = .tt lr ∧ r = { e := x.e, id := κr.id, xs := κr.xs, m := κr.m, tm := zipT x.out lr, mem := κr.mem } ∧
          Carried (x.k p) κr env β us w W0 Tp (σ.map (·.val env)) (ρ.map fun r => β.getD r (0, 0)) := by
        intro x hx
        obtain ⟨i, hi⟩ := List.getElem?_of_mem hx
        obtain ⟨r, hr, hxu⟩ := optl_get h x hi
        obtain ⟨κr, lr, h1, h2, h3⟩ := pxuse_of hxu
        obtain ⟨σ', ρ', hn⟩ := names_of_use h1
        obtain ⟨rfl, rfl⟩ := names_same hn0 hn
        exact ⟨r, κr, lr, List.mem_of_getElem? hr, h1, h2, h3, use_core hn h1 hF.facts hM (all2_ww hus)⟩
      obtain ⟨_, _, _, _, _, _, _, hc0⟩ := all x0 (List.mem_of_getElem? hx0)
      have hargs0 : All2 (SW.is (σ.map (·.val env)) (ρ.map fun r => β.getD r (0, 0))) p.args us := by
        have := hc0.args
        have key : ∀ (l : List SW) (vs : List Value), All2 (SV.is (σ.map (·.val env)) (ρ.map fun r => β.getD r (0, 0))) (l.map .ww) vs → All2 (SW.is (σ.map (·.val env)) (ρ.map fun r => β.getD r (0, 0))) l vs := by
          intro l
          induction l with
          | nil => intro vs h; cases vs <;> first | trivial | exact h.elim
          | cons x l ih => intro vs h; cases vs with
            | nil => exact h.elim
            | cons v vs => exact ⟨h.1, ih vs h.2⟩
        exact key _ _ this
      refine hk _ _ us a w Q hQ hc0.len hc0.mem hargs0 hF.nd (by rw [hF.nt, hnt]) hsl (fun x hx => ?_) (fun x hx => ?_)
      · obtain ⟨r, κr, lr, hr, h1, h2, h3, hc⟩ := all x hx
        have := hp r hr
        rw [h3] at this
        have hid := hc.id
        have hxs := hc.xs
        simp only at this
        rw [hxs, hid] at this
        exact this
      · intro ys β1 rs a' w' hyl hpost hb hrs hM1 hfresh hnd hnt' hsl'
        obtain ⟨r, κr, lr, hr, h1, h2, h3, hc⟩ := all x hx
        obtain ⟨β', hb', hret, hM'⟩ := hc.post ys β1 (.tuple rs.toArray) w' hyl hb ⟨rs, rfl, hrs⟩ hM1 hfresh
        rw [h2] at hret
        obtain ⟨vs, hvs, hall⟩ := hret
        have hvs : rs = vs := by
          have := Value.tuple.inj hvs
          simpa using congrArg Array.toList this
        subst hvs
        have hid := hc.id
        have hxs := hc.xs
        have hmm := hc.m
        have := hq r hr ys β' a' w' (by rw [h3]; simp only; rw [hmm]; exact hyl) (by rw [h3]; simp only; rw [hxs, hid]; exact hpost) hb'
        rw [h3] at this
        refine this ?_ hM'
        refine ⟨?_, hnd, by rw [hnt', hnt], fun d sv hd => slots_tm hsl' hall d sv hd, fun y t hy => get_more (hF.fx y t hy) ys, fun y hy => ?_⟩
        · simp only [List.length_append, hF.ne, hyl]
          rw [hmm]
          rfl
        · rcases hF.bt y hy with h4 | h4
          · exact .inl (get_more h4 ys)
          · exact .inr (get_more h4 ys)
    · cases h

theorem pcuse_ne {p : PC} (hex : p.ex ≠ []) {S : St} {l : List PR} (h : p.use S = some l) : l ≠ [] := by
  unfold PC.use at h
  unfold cond at h
  split at h
  · split at h
    · have := optl_length h
      intro e
      subst e
      exact hex (List.eq_nil_of_length_eq_zero this.symm)
    · cases h
  · cases h

theorem pcOf_ok {P : Program} {ext : Nat → Nat} {con : Nat → List SV → St → Option CR} {A : Ask} : ∀ {L : List ((Nat × Nat) × PC)},
    (∀ q, q ∈ L → q.2.ex ≠ [] ∧ ∀ c, InF P q.1.1 (q.1.2, c) → PcKOk P A q.2 c) → PcOk ⟨P, ext, con, pcOf L⟩ A
  | [], _ => fun fn key c S l _ h => by simp [pcOf] at h
  | ((f, k), p) :: L, hL => by
    intro fn key c S l hin h env β a w W0 Tp Q hQ hF hM hp hq
    simp only [pcOf] at h
    have hrest : pcOf L fn key S = some l → PieceWp P c Q a w := fun h =>
      pcOf_ok (ext := ext) (con := con) (fun q hq => hL q (List.mem_cons_of_mem _ hq)) fn key c S l hin h env β a w W0 Tp Q hQ hF hM hp hq
    cases hb : (Nat.beq f fn && Nat.beq k key) with
    | false =>
      rw [hb, cond_false] at h
      exact hrest h
    | true =>
      rw [hb, cond_true] at h
      split at h
      · rename_i l' hl
        injection h with h
        subst h
        rw [Bool.and_eq_true] at hb
        have h1 := Nat.eq_of_beq_eq_true hb.1
        have h2 := Nat.eq_of_beq_eq_true hb.2
        subst h1
        subst h2
        obtain ⟨hex, hk⟩ := hL ((f, k), p) (List.mem_cons_self ..)
        exact pcuse_ok (hk c hin) hl hQ hF hM (pcuse_ne hex hl) hp hq
      · exact hrest h
end Eng
end
section
/-
  The walk by reckoning: the contract of a loop from its rounds, of a region from its walk.
-/
namespace Eng
open Go Go.RowKit

/-- What holds at a loop's head. -/
structure HS where
  mout : Nat
  ret : List SW
  mem1 : List (List SC × Bool)
def HS.k (p : PC) (h : HS) : K := { f := 0, args := p.args.map .ww, mem := p.mem, m := p.m, id := 0, mout := h.mout, ret := .tt h.ret, mem1 := h.mem1 }
def headSt (p : PC) (h : HS) : St := { nt := p.nt, tm := zipT p.sl h.ret, fx := [], bt := [], mem := h.mem1, ne := p.m + h.mout, fn := 0, blk := 0 }
def PC.h0 (p : PC) : HS := ⟨0, p.args, p.mem⟩

def fit (nt : Nat) (κ : K) (ds : List Nat) (S : St) : Option (List SI) :=
  match optl (slotW S) ds with
  | some l => match κ.done (.tt l) S with
    | some x => bif Nat.beq S.nt nt then some x.1 else none
    | none => none
  | none => none
def sxEq : SX → SX → Bool
  | .normal, .normal => true
  | .ret, .ret => true
  | .exit i, .exit j => Nat.beq i j
  | _, _ => false
theorem sxEq_eq {a b : SX} (h : sxEq a b = true) : a = b := by
  cases a <;> cases b <;> simp [sxEq] at h <;> first | rfl | (subst h; rfl)
def endOf (p : PC) (S : St) (e : SX) : Nat → List PX → Tree
  | _, [] => .bad 40
  | j, x :: r => bif sxEq x.e e then (match fit p.nt (x.k p) x.out S with
    | some τ => .fin (enc τ) { st0 with fn := j }
    | none => endOf p S e (j + 1) r) else endOf p S e (j + 1) r
def kend (p : PC) (h : HS) : SX → St → Tree
  | .normal, S => match fit p.nt (h.k p) p.sl S with
    | some τ => .fin (enc τ) st0
    | none => .bad 41
  | e, S => endOf p S e 1 p.ex
def Ask.rnd (A : Ask) (p : PC) (i : Nat) (h : HS) (Inv : Nat → List Int → List Int → Prop) (μ : Nat → List Int → List Int → Nat) : Ask :=
  { A with fin := fun v S e => match S.fn with
      | 0 => Inv (i + 1) (e.take p.m) ((dec v).map (·.val e)) ∧ μ (i + 1) (e.take p.m) ((dec v).map (·.val e)) < μ i (e.take p.m) ((e.drop p.m).take h.mout)
      | j + 1 => match p.ex[j]? with
        | some x => A.post x.id (e.take p.m) ((dec v).map (·.val e))
        | none => False }

section
variable {C : Cfg} {A : Ask}

/-- What the walk has come to, in the contract's own names. -/
theorem fit_ok {nt : Nat} {κ : K} {ds : List Nat} {S : St} {τ : List SI} {ret : List SW} (hret : κ.ret = .tt ret) (hd : fit nt κ ds S = some τ) {env ee : List Int} {β δ : List (Nat × Nat)} {w w' : World} {env' : List Int} {β' : List (Nat × Nat)} {a : Act}
    (hl : env.length = κ.m) (he : env' = env ++ ee) (hδ : β' = β ++ δ) (hnb : β.length = κ.mem.length) (hF : FRel env' β' S a) (hM' : MRel w (TpOf β κ.mem) env' β' S.mem w') :
    a.tmps.size = nt ∧ (τ.map (·.val env')).length = κ.mout ∧ ∃ βc rs, Longer β βc ∧ All2 (SW.is (env ++ τ.map (·.val env')) βc) ret rs ∧ Slots a ds rs ∧ MRel w (TpOf β κ.mem) (env ++ τ.map (·.val env')) βc κ.mem1 w' ∧
      (∀ i x, κ.mem.length ≤ i → βc[i]? = some x → w.heap.size ≤ x.1) := by
  unfold fit at hd
  split at hd
  · rename_i l hl'
    obtain ⟨us, hus, hsl⟩ := all2_slots hF hl'
    split at hd
    · rename_i x hx
      obtain ⟨τ', ρk⟩ := x
      cases hb : Nat.beq S.nt nt with
      | false => rw [hb, cond_false] at hd; cases hd
      | true =>
      rw [hb, cond_true] at hd
      have hb := Nat.eq_of_beq_eq_true hb
      injection hd with hd
      simp only at hd
      subst hd
      obtain ⟨h1, βc, h2, h3, h4, h5⟩ := done_core (u := .tuple us.toArray) hx hl he hδ hnb hM' ⟨us, rfl, hus⟩
      rw [hret] at h3
      obtain ⟨vs, hvs, hall⟩ := h3
      have hvs : us = vs := by
        have := Value.tuple.inj hvs
        simpa using congrArg Array.toList this
      subst hvs
      exact ⟨by rw [hF.nt, hb], h1, βc, us, h2, hall, hsl, h4, h5⟩
    · cases hd
  · cases hd

theorem endOf_ok {p : PC} {S : St} {e : SX} {A' : Ask} {i : Nat} {h0 : HS} {Inv : Nat → List Int → List Int → Prop} {μ : Nat → List Int → List Int → Nat} {env : List Int} :
    ∀ {l : List PX} {j : Nat}, (∀ k x, l[k]? = some x → p.ex[j + k]? = some x) → (endOf p S e (j + 1) l).holds (A'.rnd p i h0 Inv μ) env →
      ∃ x τ, x ∈ p.ex ∧ x.e = e ∧ fit p.nt (x.k p) x.out S = some τ ∧ A'.post x.id (env.take p.m) (τ.map (·.val env))
  | [], j, _, h => h.elim
  | x :: l, j, hl, h => by
    have rest : (endOf p S e (j + 1 + 1) l).holds (A'.rnd p i h0 Inv μ) env → ∃ x τ, x ∈ p.ex ∧ x.e = e ∧ fit p.nt (x.k p) x.out S = some τ ∧ A'.post x.id (env.take p.m) (τ.map (·.val env)) := fun h =>
      endOf_ok (h0 := h0) (fun k y hy => by
        have := hl (k + 1) y (by simpa using hy)
        rwa [show j + (k + 1) = j + 1 + k by omega] at this) h
    unfold endOf at h
    cases hb : sxEq x.e e with
    | false => rw [hb, cond_false] at h; exact rest h
    | true =>
      rw [hb, cond_true] at h
      split at h
      · rename_i τ hτ
        have hx := hl 0 x rfl
        have h1 : (match p.ex[j]? with
          | some x => A'.post x.id (env.take p.m) ((dec (enc τ)).map (·.val env))
          | none => False) := h
        rw [Nat.add_zero] at hx
        rw [hx, dec_enc] at h1
        exact ⟨x, τ, List.mem_of_getElem? hx, sxEq_eq hb, hτ, h1⟩
      · exact rest h

theorem loop_of (hm : C.P.follows .mixedOrders = true) (hE : Ext C.P C.ext) (hC : ConOk C A) (hP : PcOk C A) (n : Nat) {p : PC} {fn blk : Nat} {x : Code} (hsub : ∀ q, q ∈ pieces blk x → InF C.P fn q)
    (H : Nat → HS) (Inv : Nat → List Int → List Int → Prop) (μ : Nat → List Int → List Int → Nat) (h0 : H 0 = p.h0)
    (hst : ∀ env : List Int, env.length = p.m → Rng env (rngA (p.args.map .ww) ++ rngM p.mem) → (∀ x, x ∈ p.ex → A.pre x.id env) → Inv 0 env [])
    (hr : ∀ (i : Nat) (env ys : List Int), env.length = p.m → ys.length = (H i).mout → Rng (env ++ ys) (rngA ((H i).ret.map .ww) ++ rngM (H i).mem1) → Inv i env ys →
      (xcode C n fn blk x (headSt p (H i)) (kend p (H (i + 1)))).holds (A.rnd p i (H i) Inv μ) (env ++ ys)) : PcKOk C.P A p (.loop x) := by
  intro env β us a w Q hQ hl hM hus hnd hnt hsl hpre hq
  have main : ∀ (N i : Nat) (ys : List Int) (β' : List (Nat × Nat)) (rs : List Value) (a' : Act) (w' : World), μ i env ys = N → ys.length = (H i).mout → Inv i env ys → Longer β β' → All2 (SW.is (env ++ ys) β') (H i).ret rs →
      MRel w (TpOf β p.mem) (env ++ ys) β' (H i).mem1 w' → a'.defers = [] → a'.tmps.size = p.nt → Slots a' p.sl rs → LoopRuns C.P x Q a' w' := by
    intro N
    induction N using Nat.strongRecOn with
    | _ N ih =>
      intro i ys β1 rs a1 w1 hμ hyl hinv ⟨δ1, hδ1⟩ hrs hM1 hnd1 hnt1 hsl1
      have hh := hr i env ys hl hyl (Rng.append (rngA_ok (all2_ww hrs)) (rngM_ok hM1)) hinv
      have hF : FRel (env ++ ys) β1 (headSt p (H i)) a1 := ⟨by simp [headSt, hl, hyl], hnd1, hnt1, fun d sv hd => slots_tm hsl1 hrs d sv hd, fun y t hy => by simp [headSt, lk] at hy, fun y hy => by simp [headSt] at hy⟩
      refine LoopRuns.step ((code_ok (A := A.rnd p i (H i) Inv μ) (W0 := w) (Tp := TpOf β p.mem) hm hE hC hP n).1 fn blk x _ _ _ (env ++ ys) β1 a1 w1 hsub hQ.then hF hM1 hh ?_)
      intro e S' env' β2 a' w' ⟨ee, he⟩ ⟨δ2, hδ2⟩ hF' hM' hend
      have he' : env' = env ++ (ys ++ ee) := by rw [he]; simp
      have hδ' : β2 = β ++ (δ1 ++ δ2) := by rw [hδ2, hδ1]; simp
      have htake : env'.take p.m = env := by rw [he', List.take_append_of_le_length (by omega), List.take_of_length_le (by omega)]
      have leave : ∀ x' τ, x' ∈ p.ex → fit p.nt (x'.k p) x'.out S' = some τ → A.post x'.id (env'.take p.m) (τ.map (·.val env')) → Q x'.e.ex a' w' := by
        intro x' τ hx' hτ hpost
        obtain ⟨hz, h1, βc, rs', h2, h3, h4, h5, h6⟩ := fit_ok (κ := x'.k p) (ret := x'.ret) rfl hτ hl he' hδ' hM.nb hF' hM'
        rw [htake] at hpost
        exact hq x' hx' _ βc rs' a' w' h1 hpost h2 h3 h5 h6 hF'.nd hz h4
      have outs : ∀ e, (endOf p S' e 1 p.ex).holds (A.rnd p i (H i) Inv μ) env' → Q e.ex a' w' := by
        intro e hh
        obtain ⟨x', τ, hx', hxe, hτ, hpost⟩ := endOf_ok (j := 0) (fun k y hy => by rwa [Nat.zero_add]) hh
        rw [← hxe]
        exact leave x' τ hx' hτ hpost
      cases e with
      | ret => exact outs .ret hend
      | exit id => exact outs (.exit id) hend
      | normal =>
        simp only [kend] at hend
        split at hend
        · rename_i τ hτ
          obtain ⟨hz, h1, βc, rs', h2, h3, h4, h5, h6⟩ := fit_ok (κ := (H (i + 1)).k p) (ret := (H (i + 1)).ret) rfl hτ hl he' hδ' hM.nb hF' hM'
          have hend : Inv (i + 1) (env'.take p.m) ((dec (enc τ)).map (·.val env')) ∧ μ (i + 1) (env'.take p.m) ((dec (enc τ)).map (·.val env')) < μ i (env'.take p.m) ((env'.drop p.m).take (H i).mout) := hend
          have hdrop : (env'.drop p.m).take (H i).mout = ys := by
            rw [he', List.drop_append_of_le_length (by omega), List.drop_of_length_le (by omega), List.nil_append, List.take_append_of_le_length (by omega), List.take_of_length_le (by omega)]
          rw [dec_enc, htake, hdrop] at hend
          exact ih _ (by rw [← hμ]; exact hend.2) (i + 1) _ βc rs' a' w' rfl h1 hend.1 h2 h3 h5 hF'.nd hz h4
        · exact hend.elim
  have hr0 : (H 0).ret = p.args := by rw [h0]; rfl
  have hm0 : (H 0).mem1 = p.mem := by rw [h0]; rfl
  exact main _ 0 [] β us a w rfl (by rw [h0]; rfl) (hst env hl (Rng.append (rngA_ok (all2_ww hus)) (rngM_ok hM)) hpre) (Longer.refl _) (by rw [hr0, List.append_nil]; exact hus) (by rw [hm0, List.append_nil]; exact hM) hnd hnt hsl

/-- The contract of a region. -/
theorem piece_of (hm : C.P.follows .mixedOrders = true) (hE : Ext C.P C.ext) (hC : ConOk C A) (hP : PcOk C A) (n : Nat) {p : PC} {fn blk : Nat} {c : Code} (hsub : ∀ q, q ∈ pieces blk c → InF C.P fn q)
    (hnl : ∀ Q a w, c.wp C.P Q a w → PieceWp C.P c Q a w)
    (hr : ∀ env : List Int, env.length = p.m → Rng env (rngA (p.args.map .ww) ++ rngM p.mem) → (∀ x, x ∈ p.ex → A.pre x.id env) →
      (xcode C n fn blk c (headSt p p.h0) (fun e S => endOf p S e 1 p.ex)).holds (A.rnd p 0 p.h0 (fun _ _ _ => True) (fun _ _ _ => 0)) env) : PcKOk C.P A p c := by
  intro env β us a w Q hQ hl hM hus hnd hnt hsl hpre hq
  have hh := hr env hl (Rng.append (rngA_ok (all2_ww hus)) (rngM_ok hM)) hpre
  have hF : FRel env β (headSt p p.h0) a := ⟨by simp [headSt, PC.h0, hl], hnd, hnt, fun d sv hd => slots_tm hsl hus d sv hd, fun y t hy => by simp [headSt, lk] at hy, fun y hy => by simp [headSt] at hy⟩
  refine hnl Q a w ((code_ok (A := A.rnd p 0 p.h0 (fun _ _ _ => True) (fun _ _ _ => 0)) (W0 := w) (Tp := TpOf β p.mem) hm hE hC hP n).1 fn blk c _ _ _ env β a w hsub hQ hF hM hh ?_)
  intro e S' env' β2 a' w' ⟨ee, he⟩ ⟨δ2, hδ2⟩ hF' hM' hend
  have htake : env'.take p.m = env := by rw [he, List.take_append_of_le_length (by omega), List.take_of_length_le (by omega)]
  obtain ⟨x', τ, hx', hxe, hτ, hpost⟩ := endOf_ok (j := 0) (fun k y hy => by rwa [Nat.zero_add]) hend
  obtain ⟨hz, h1, βc, rs', h2, h3, h4, h5, h6⟩ := fit_ok (κ := x'.k p) (ret := x'.ret) rfl hτ hl he hδ2 hM.nb hF' hM'
  rw [htake] at hpost
  rw [← hxe]
  exact hq x' hx' _ βc rs' a' w' h1 hpost h2 h3 h5 h6 hF'.nd hz h4
end
end Eng
end
section
/-
  The walk by reckoning: which piece a contract speaks of; trees held against each other.
-/
namespace Eng
open Go Go.RowKit

def pieceOf (P : Program) (fn key : Nat) : Code :=
  match P.funcs[fn]? with
  | some f => match f.body with
    | some b => match (pieces 0 b).find? (fun p => Nat.beq p.1 key) with
      | some p => p.2
      | none => .skip
    | none => .skip
  | none => .skip
def oneB (P : Program) (fn key : Nat) : Bool :=
  match P.funcs[fn]? with
  | some f => match f.body with
    | some b => Nat.beq ((pieces 0 b).filter (fun p => Nat.beq p.1 key)).length 1
    | none => false
  | none => false
def isLoop : Code → Bool
  | .loop _ => true
  | _ => false
def bodyOf (P : Program) (fn key : Nat) : Code :=
  match pieceOf P fn key with
  | .loop x => x
  | _ => .skip
theorem piece_loop {P : Program} {fn key : Nat} (h : isLoop (pieceOf P fn key) = true) : pieceOf P fn key = .loop (bodyOf P fn key) := by
  unfold bodyOf
  cases hp : pieceOf P fn key <;> rw [hp] at h <;> first | rfl | cases h
theorem find_filter {α : Type} {f : α → Bool} : ∀ {l : List α} {x y : α}, (l.filter f).length = 1 → x ∈ l → f x = true → l.find? f = some y → x = y
  | [], _, _, h, _, _, _ => by simp at h
  | z :: l, x, y, h, hx, hf, hy => by
    cases hz : f z with
    | true =>
      rw [List.find?_cons_of_pos hz] at hy
      injection hy with hy
      subst hy
      rw [List.filter_cons_of_pos hz] at h
      rcases List.mem_cons.1 hx with rfl | hx
      · rfl
      · have : (l.filter f).length = 0 := by simpa using h
        have := List.eq_nil_of_length_eq_zero this
        have hm : x ∈ l.filter f := List.mem_filter.2 ⟨hx, hf⟩
        rw [this] at hm
        cases hm
    | false =>
      rw [List.find?_cons_of_neg (by simp [hz])] at hy
      rw [List.filter_cons_of_neg (by simp [hz])] at h
      rcases List.mem_cons.1 hx with rfl | hx
      · rw [hf] at hz; cases hz
      · exact find_filter h hx hf hy
theorem piece_one {P : Program} {fn key : Nat} (h : oneB P fn key = true) {c : Code} (hin : InF P fn (key, c)) : c = pieceOf P fn key := by
  obtain ⟨f, b, hf, hb, hm⟩ := hin
  unfold oneB at h
  simp only [hf, hb] at h
  have h := Nat.eq_of_beq_eq_true h
  unfold pieceOf
  simp only [hf, hb]
  split
  · rename_i p hp
    rw [← find_filter h hm (by simp) hp]
  · rename_i hn
    have := List.find?_eq_none.1 hn _ hm
    simp at this
theorem pieces_sub {blk : Nat} {x : Code} : ∀ {c : Code} {b : Nat}, (2 * blk, Code.loop x) ∈ pieces b c → ∀ q, q ∈ pieces blk x → q ∈ pieces b c := by
  intro c
  induction c with
  | seq s t ihs iht =>
    intro b h q hq
    rcases List.mem_append.1 h with h | h
    · exact List.mem_append_left _ (ihs h q hq)
    · exact List.mem_append_right _ (iht h q hq)
  | cond o s t ihs iht =>
    intro b h q hq
    rcases List.mem_append.1 h with h | h
    · exact List.mem_append_left _ (ihs h q hq)
    · exact List.mem_append_right _ (iht h q hq)
  | block id s ih => intro b h q hq; exact ih (b := id) h q hq
  | scope s ih => intro b h q hq; exact ih (b := b) h q hq
  | loop s ih =>
    intro b h q hq
    rcases List.mem_cons.1 h with h | h
    · injection h with h1 h2
      injection h2 with h2
      have : blk = b := by omega
      subst this; subst h2
      exact List.mem_cons_of_mem _ hq
    · exact List.mem_cons_of_mem _ (ih h q hq)
  | region id ops d =>
    intro b h q hq
    simp [pieces] at h
  | _ => intro b h; simp [pieces] at h
theorem sub_of_in {P : Program} {fn blk : Nat} {x : Code} (hin : InF P fn (2 * blk, .loop x)) : ∀ q, q ∈ pieces blk x → InF P fn q := by
  obtain ⟨f, b, hf, hb, hm⟩ := hin
  exact fun q hq => ⟨f, b, hf, hb, pieces_sub hm q hq⟩

/-- The contract of the loop that stands in a block. -/
theorem loop_piece {C : Cfg} {A : Ask} (hm : C.P.follows .mixedOrders = true) (hE : Ext C.P C.ext) (hC : ConOk C A) (hP : PcOk C A) (n : Nat) {p : PC} {fn blk : Nat} (h1 : oneB C.P fn (2 * blk) = true) (h2 : isLoop (pieceOf C.P fn (2 * blk)) = true)
    (H : Nat → HS) (Inv : Nat → List Int → List Int → Prop) (μ : Nat → List Int → List Int → Nat) (h0 : H 0 = p.h0)
    (hst : ∀ env : List Int, env.length = p.m → Rng env (rngA (p.args.map .ww) ++ rngM p.mem) → (∀ x, x ∈ p.ex → A.pre x.id env) → Inv 0 env [])
    (hr : ∀ (i : Nat) (env ys : List Int), env.length = p.m → ys.length = (H i).mout → Rng (env ++ ys) (rngA ((H i).ret.map .ww) ++ rngM (H i).mem1) → Inv i env ys →
      (xcode C n fn blk (bodyOf C.P fn (2 * blk)) (headSt p (H i)) (kend p (H (i + 1)))).holds (A.rnd p i (H i) Inv μ) (env ++ ys)) : ∀ c, InF C.P fn (2 * blk, c) → PcKOk C.P A p c := by
  intro c hin
  have hc := piece_one h1 hin
  rw [piece_loop h2] at hc
  subst hc
  exact loop_of hm hE hC hP n (sub_of_in hin) H Inv μ h0 hst hr

/-! ### trees held against each other -/
def stB (S S' : St) : Bool :=
  Nat.beq S.nt S'.nt && (S.tm.isEmpty && S'.tm.isEmpty) && (S.fx.isEmpty && S'.fx.isEmpty) && (S.bt.isEmpty && S'.bt.isEmpty) && (S.mem.isEmpty && S'.mem.isEmpty) && Nat.beq S.ne S'.ne && Nat.beq S.fn S'.fn && Nat.beq S.blk S'.blk
theorem stB_eq {S S' : St} (h : stB S S' = true) : S = S' := by
  obtain ⟨a, b, c, d, e, f, g, i⟩ := S
  obtain ⟨a', b', c', d', e', f', g', i'⟩ := S'
  simp only [stB, Bool.and_eq_true, List.isEmpty_iff] at h
  obtain ⟨⟨⟨⟨⟨⟨⟨h1, h2, h3⟩, h4, h5⟩, h6, h7⟩, h8, h9⟩, h10⟩, h11⟩, h12⟩ := h
  rw [Nat.eq_of_beq_eq_true h1, h2, h3, h4, h5, h6, h7, h8, h9, Nat.eq_of_beq_eq_true h10, Nat.eq_of_beq_eq_true h11, Nat.eq_of_beq_eq_true h12]
def Tree.beq : Tree → Tree → Bool
  | .fin v S, .fin v' S' => SV.beq v v' && stB S S'
  | .dfn o xs t, .dfn o' xs' t' => decide (o = o') && (listBeq SI.beq xs xs' && Tree.beq t t')
  | .hav id xs m t, .hav id' xs' m' t' => Nat.beq id id' && (listBeq SI.beq xs xs' && (Nat.beq m m' && Tree.beq t t'))
  | .br x t f, .br x' t' f' => Nat.beq x x' && (Tree.beq t t' && Tree.beq f f')
  | .both t f, .both t' f' => Tree.beq t t' && Tree.beq f f'
  | .brE x j t f, .brE x' j' t' f' => Nat.beq x x' && (decide (j = j') && (Tree.beq t t' && Tree.beq f f'))
  | .obl e t, .obl e' t' => SI.beq e e' && Tree.beq t t'
  | .bad n, .bad m => Nat.beq n m
  | _, _ => false
theorem Tree.beq_eq : ∀ {s t : Tree}, Tree.beq s t = true → s = t := by
  intro s
  induction s with
  | leaf e S => intro t h; cases t <;> simp [Tree.beq] at h
  | fin v S =>
    intro t h
    cases t <;> simp only [Tree.beq, Bool.and_eq_true, Bool.false_eq_true] at h
    rw [SV.beq_eq h.1, stB_eq h.2]
  | dfn o xs t ih =>
    intro t h
    cases t <;> simp only [Tree.beq, Bool.and_eq_true, decide_eq_true_eq, Bool.false_eq_true] at h
    rw [h.1, listBeq_eq (fun _ _ => SI.beq_eq) h.2.1, ih h.2.2]
  | hav id xs m t ih =>
    intro t h
    cases t <;> simp only [Tree.beq, Bool.and_eq_true, Bool.false_eq_true] at h
    rw [Nat.eq_of_beq_eq_true h.1, listBeq_eq (fun _ _ => SI.beq_eq) h.2.1, Nat.eq_of_beq_eq_true h.2.2.1, ih h.2.2.2]
  | br x t f iht ihf =>
    intro t h
    cases t <;> simp only [Tree.beq, Bool.and_eq_true, Bool.false_eq_true] at h
    rw [Nat.eq_of_beq_eq_true h.1, iht h.2.1, ihf h.2.2]
  | both t f iht ihf =>
    intro t h
    cases t <;> simp only [Tree.beq, Bool.and_eq_true, Bool.false_eq_true] at h
    rw [iht h.1, ihf h.2]
  | brE x j t f iht ihf =>
    intro t h
    cases t <;> simp only [Tree.beq, Bool.and_eq_true, decide_eq_true_eq, Bool.false_eq_true] at h
    rw [Nat.eq_of_beq_eq_true h.1, h.2.1, iht h.2.2.1, ihf h.2.2.2]
  | obl e t ih =>
    intro t h
    cases t <;> simp only [Tree.beq, Bool.and_eq_true, Bool.false_eq_true] at h
    rw [SI.beq_eq h.1, ih h.2]
  | bad n =>
    intro t h
    cases t <;> simp only [Tree.beq, Bool.false_eq_true] at h
    rw [Nat.eq_of_beq_eq_true h]
theorem all_trees {f g : Nat → Tree} {n : Nat} (h : (List.range n).all (fun i => Tree.beq (f i) (g i)) = true) {i : Nat} (hi : i < n) : f i = g i :=
  Tree.beq_eq (List.all_eq_true.1 h i (List.mem_range.2 hi))
end Eng
end
