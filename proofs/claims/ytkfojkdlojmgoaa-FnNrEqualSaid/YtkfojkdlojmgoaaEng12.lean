/-
  The walk by reckoning: trees of what is to be shown; operations in a row; code.
-/
import Derived.Test.YtkfojkdlojmgoaaEng11
import Derived.Scope
namespace Eng
open Go Go.RowKit

inductive SX where
  | normal
  | ret
  | exit (id : Nat)

def SX.ex : SX → Exit
  | .normal => .normal
  | .ret => .ret
  | .exit id => .exit id

inductive Tree where
  | leaf (e : SX) (S : St)
  | fin (v : SV) (S : St)
  | dfn (o : IOp) (xs : List SI) (t : Tree)
  | hav (id : Nat) (xs : List SI) (m : Nat) (t : Tree)
  | br (x : Nat) (t f : Tree)
  | both (t f : Tree)
  | bad (n : Nat)

/-- What is asked of a call (a number names it) and what it is known to leave; what is asked of an end. -/
structure Ask where
  pre : Nat → List Int → Prop
  post : Nat → List Int → List Int → Prop
  leaf : SX → St → List Int → Prop
  fin : SV → St → List Int → Prop

def Tree.holds (A : Ask) : Tree → List Int → Prop
  | .leaf e S, env => A.leaf e S env
  | .fin v S, env => A.fin v S env
  | .dfn o xs t, env => ∀ x, x = o.ev (xs.map (·.val env)) → t.holds A (env ++ [x])
  | .hav id xs m t, env => A.pre id (xs.map (·.val env)) ∧ ∀ ys, ys.length = m → A.post id (xs.map (·.val env)) ys → t.holds A (env ++ ys)
  | .br x t f, env => (env.getD x 0 = 1 → t.holds A env) ∧ (env.getD x 0 = 0 → f.holds A env)
  | .both t f, env => t.holds A env ∧ f.holds A env
  | .bad _, _ => False

def defsT : List (IOp × List SI) → Tree → Tree
  | [], t => t
  | (o, xs) :: r, t => .dfn o xs (defsT r t)

theorem defsT_holds {A : Ask} {t : Tree} : ∀ (l : List (IOp × List SI)) (env : List Int), (defsT l t).holds A env → t.holds A (runDefs env l)
  | [], _, h => h
  | (o, xs) :: r, env, h => by
    rw [runDefs]
    exact defsT_holds r _ (h _ rfl)

def putK (dst : Option Tmp) (v : SV) (S : St) (k : St → Tree) : Tree :=
  match dst with
  | none => k S
  | some d => bif Nat.blt d S.nt then k { S with tm := (d, v) :: S.tm } else .bad 1

/-- What a contract says of a call: what is asked of these integers, how many new ones there are, what is handed back, the regions behind it. -/
structure CR where
  id : Nat
  xs : List SI
  m : Nat
  ret : SV
  mem : List (List SC × Bool)

structure Cfg where
  P : Program
  ext : Nat → Nat
  con : Nat → List SV → St → Option CR

def xstep (C : Cfg) (xc : Nat → List SV → St → (SV → St → Tree) → Tree) (o : Oper) : Nat → St → (St → Tree) → Tree
  | n, S, k => match xval C.P C.ext o S with
    | .fail => .bad 2
    | .val l v => defsT l (putK o.dst v (S.grow l) k)
    | .sto r q cs => match S.mem[r]? with
      | some (old, _) => putK o.dst (.tt []) { S with mem := S.mem.set r (wrAt old q cs, true) } k
      | none => .bad 3
    | .new _ cs v => putK o.dst (scv v) { S with mem := S.mem ++ [(cs, true)] } k
    | .ask x => match n with
      | 0 => .bad 4
      | n + 1 => .br x (xstep C xc o n { S with fx := (x, true) :: S.fx } k) (xstep C xc o n { S with fx := (x, false) :: S.fx } k)
    | .call f args => xc f args S (fun v S' => putK o.dst v S' k)

/-- An operation's guard. -/
def xguard (ops : Array Oper) (o : Oper) (S : St) (kr ks : St → Tree) : Tree :=
  match o.guard with
  | none => kr S
  | some (j, want) => match (ops[j]?).bind (·.dst) with
    | none => ks S
    | some d => match lk d S.tm with
      | some (.ww (.cc (.bb e))) => match know S e with
        | .lit t => bif t == want then kr S else ks S
        | .var x => .br x (bif want then kr { S with fx := (x, true) :: S.fx } else ks { S with fx := (x, true) :: S.fx })
            (bif want then ks { S with fx := (x, false) :: S.fx } else kr { S with fx := (x, false) :: S.fx })
      | some (.tt []) => ks S
      | _ => .bad 5

def xops (C : Cfg) (xc : Nat → List SV → St → (SV → St → Tree) → Tree) (ops : Array Oper) : List Oper → St → (St → Tree) → Tree
  | [], S, k => k S
  | o :: r, S, k => xguard ops o S (fun S' => xstep C xc o 2 S' (fun S'' => xops C xc ops r S'' k)) (fun S' => putK o.dst (.tt []) S' (fun S'' => xops C xc ops r S'' k))

/-- The state says nothing of a frame. -/
structure Facts (env : List Int) (S : St) : Prop where
  ne : env.length = S.ne
  fx : ∀ (x : Nat) (t : Bool), lk x S.fx = some t → env[x]? = some (b01 t)
  bt : ∀ (x : Nat), x ∈ S.bt → env[x]? = some 0 ∨ env[x]? = some 1

theorem FRel.facts {env : List Int} {β : List (Nat × Nat)} {S : St} {a : Act} (h : FRel env β S a) : Facts env S := ⟨h.ne, h.fx, h.bt⟩

/-- A longer list. -/
def Longer {α : Type} (l m : List α) : Prop := ∃ e, m = l ++ e
theorem Longer.refl {α : Type} (l : List α) : Longer l l := ⟨[], by simp⟩
theorem Longer.trans {α : Type} {l m n : List α} (h : Longer l m) (k : Longer m n) : Longer l n := by
  obtain ⟨e, rfl⟩ := h
  obtain ⟨f, rfl⟩ := k
  exact ⟨e ++ f, by simp⟩
theorem Longer.defs (env : List Int) (l : List (IOp × List SI)) : Longer env (runDefs env l) := by
  obtain ⟨e, h, _⟩ := runDefs_more l env
  exact ⟨e, h⟩

/-- The caller's frame behind a call. -/
theorem FRel.behind {env env' : List Int} {β β' : List (Nat × Nat)} {S S' : St} {a : Act} (h : FRel env β S a) (he : Longer env env') (hb : Longer β β') (hf : Facts env' S')
    (ht : S'.tm = S.tm) (hn : S'.nt = S.nt) : FRel env' β' S' a := by
  obtain ⟨e, rfl⟩ := he
  obtain ⟨b, rfl⟩ := hb
  have h1 := h.more e b
  exact ⟨hf.ne, h.nd, by rw [hn]; exact h.nt, fun d sv hd => h1.tm d sv (by rw [ht] at hd; exact hd), hf.fx, hf.bt⟩

section
variable {C : Cfg} {A : Ask} {W0 : World} {Tp : Nat → Nat → Prop} {env : List Int} {β : List (Nat × Nat)} {S : St} {a : Act} {w : World}

/-- Of the function that meets the calls. -/
def XcOk (C : Cfg) (A : Ask) (W0 : World) (Tp : Nat → Nat → Prop) (xc : Nat → List SV → St → (SV → St → Tree) → Tree) : Prop :=
  ∀ (f : Nat) (args : List SV) (S : St) (kk : SV → St → Tree) (env : List Int) (β : List (Nat × Nat)) (w : World) (vs : List Value) (R : Value → World → Prop),
    C.ext f = 0 → Facts env S → MRel W0 Tp env β S.mem w → All2 (SV.is env β) args vs → (xc f args S kk).holds A env →
    (∀ v u S' env' β' w', Longer env env' → Longer β β' → Facts env' S' → S'.tm = S.tm → S'.nt = S.nt → MRel W0 Tp env' β' S'.mem w' → v.is env' β' u → (kk v S').holds A env' → R u w') →
    Calls C.P f vs.toArray w (fun e w' => ∃ u, e = .returned u ∧ R u w')

/-- What follows an operation. -/
def After (A : Ask) (W0 : World) (Tp : Nat → Nat → Prop) (env : List Int) (β : List (Nat × Nat)) (k : St → Tree) (K : Act → World → Prop) : Prop :=
  ∀ (S' : St) (env' : List Int) (β' : List (Nat × Nat)) (a' : Act) (w' : World), Longer env env' → Longer β β' → FRel env' β' S' a' → MRel W0 Tp env' β' S'.mem w' → (k S').holds A env' → K a' w'

theorem putK_ok {k : St → Tree} {K : Act → World → Prop} {dst : Option Tmp} {v : SV} {u : Value} (hF : FRel env β S a) (hv : v.is env β u)
    (h : (putK dst v S k).holds A env) (hk : ∀ (S' : St) (a' : Act), FRel env β S' a' → S'.mem = S.mem → (k S').holds A env → K a' w) : K (a.put dst u) w := by
  cases dst with
  | none => exact hk S a hF rfl h
  | some d =>
    unfold putK at h
    simp only [] at h
    cases hb : Nat.blt d S.nt
    · simp only [hb, cond_false] at h; exact h.elim
    · simp only [hb, cond_true] at h
      have hlt : d < S.nt := by simpa using hb
      exact hk _ _ (hF.put hlt hv) rfl h

theorem FRel.know {x : Nat} {t : Bool} (hF : FRel env β S a) (h : env.getD x 0 = b01 t) (hx : env[x]? = some 0 ∨ env[x]? = some 1) : FRel env β { S with fx := (x, t) :: S.fx } a := by
  refine ⟨hF.ne, hF.nd, hF.nt, hF.tm, fun y s hy => ?_, hF.bt⟩
  by_cases hxy : x = y
  · subst hxy
    rw [lk_cons_same] at hy
    injection hy with hy
    subst hy
    rcases hx with h1 | h1
    · simp [h1] at h; rw [h1, h]
    · simp [h1] at h; rw [h1, h]
  · rw [lk_cons_ne _ _ hxy] at hy
    exact hF.fx y s hy

theorem xstep_ok (hE : Ext C.P C.ext) {xc : Nat → List SV → St → (SV → St → Tree) → Tree} (hxc : XcOk C A W0 Tp xc) {o : Oper} {ops : Array Oper} {Q : Exit → Act → World → Prop} {k : St → Tree} {K : Act → World → Prop}
    (hw : ∀ a' : Act, a'.tmps = a.tmps → Region.wanted o (yielded ops a'.tmps) = true) :
    ∀ (n : Nat) (S : St), FRel env β S a → MRel W0 Tp env β S.mem w → (xstep C xc o n S k).holds A env → After A W0 Tp env β k K →
      wpT C.P ops Q (tagOf C.ext o) o K a w := by
  intro n
  induction n with
  | zero => ?_
  | succ n ih => ?_
  all_goals
    intro S hF hM h hk
    have hwa := hw a rfl
    unfold xstep at h
    split at h
    · exact h.elim
    · rename_i l v hx
      obtain ⟨u, hu, hrun⟩ := xval_val hE hF hM.cells hx
      have h1 := defsT_holds l env h
      have h2 : K (a.put o.dst u) w := putK_ok (hF.grow l) (S := S.grow l) hu h1 fun S' a' hF' hmem hh =>
        hk S' _ β a' w (Longer.defs env l) (Longer.refl β) hF' (by rw [hmem]; exact hM.grow l) hh
      unfold wpT
      rw [if_pos hwa]
      rcases hrun with ⟨ht, hr⟩ | ⟨ht, hr⟩
      · rw [ht]; exact ⟨u, hr, h2⟩
      · rw [ht]; exact ⟨u, hr, h2⟩
    · rename_i r q cs hx
      obtain ⟨old, b, w', hr, hrun, hM', ht⟩ := xval_sto hF hM hx
      simp only [hr] at h
      have h2 : K (a.put o.dst undef) w' := putK_ok (S := { S with mem := S.mem.set r (wrAt old q cs, true) }) (β := β) (env := env) (v := .tt [])
        ⟨hF.ne, hF.nd, hF.nt, hF.tm, hF.fx, hF.bt⟩ ⟨[], rfl, trivial⟩ h fun S' a' hF' hmem hh =>
          hk S' _ β a' w' (Longer.refl _) (Longer.refl β) hF' (by rw [hmem]; exact hM') hh
      refine wpT_eff hwa (by rw [ht]; decide) ?_
      unfold Oper.wp
      rw [hrun]
      exact h2
    · rename_i t0 cs v hx
      obtain ⟨⟨w', u, hrun, hM', hv⟩, ht⟩ := xval_new hF hM hx
      have hF1 : FRel env (β ++ [(w.heap.size, 0)]) { S with mem := S.mem ++ [(cs, true)] } a := by
        have := hF.more [] [(w.heap.size, 0)]
        rw [List.append_nil] at this
        exact ⟨this.ne, this.nd, this.nt, this.tm, this.fx, this.bt⟩
      have h2 : K (a.put o.dst u) w' := putK_ok (S := { S with mem := S.mem ++ [(cs, true)] }) hF1 (v := scv v) hv h fun S' a' hF' hmem hh =>
        hk S' _ _ a' w' (Longer.refl _) ⟨_, rfl⟩ hF' (by rw [hmem]; exact hM') hh
      refine wpT_eff hwa (by rw [ht]; decide) ?_
      unfold Oper.wp
      rw [hrun]
      exact h2
    · rename_i x hx
      first
        | exact h.elim
        | (obtain ⟨h1, h2⟩ := h
           have hbit : env[x]? = some 0 ∨ env[x]? = some 1 := xval_ask hF hx
           rcases hbit with hb | hb
           · exact ih _ (hF.know (t := false) (by simp [hb, b01]) (.inl hb)) hM (h2 (by simp [hb])) hk
           · exact ih _ (hF.know (t := true) (by simp [hb, b01]) (.inr hb)) hM (h1 (by simp [hb])) hk)
    · rename_i f args hx
      obtain ⟨c, vs, ho, hc, hall, hargs, hext, ht⟩ := xval_call hF hx
      have hcall := hxc f args S _ env β w vs (fun u w' => K (a.put o.dst u) w') hext hF.facts hM hall h fun v u S' env' β' w' he hb hf htm hnt hM' hv hh =>
        putK_ok (hF.behind he hb hf htm hnt) hv hh fun S'' a' hF' hmem hh' => hk S'' env' β' a' w' he hb hF' (by rw [hmem]; exact hM') hh'
      refine wpT_eff hwa (by rw [ht]; decide) ?_
      unfold Oper.wp
      rw [run_call (P := C.P) (a := a) ho hc w, hargs, hE.enter f hext]
      simp only [Oper.upon]
      exact hcall.mono fun e w' ⟨u, he, hu⟩ => by subst he; exact hu
end
end Eng
