/-
  The walk by reckoning: trees of what is to be shown; operations in a row; code.
-/
import Derived.Test.YtakddcclpocejaaEng11b
import Derived.Scope
namespace Eng
open Go Go.RowKit

inductive SX where
  | normal
  | ret
  | exit (id : Nat)

def SX.ex : SX → Exit
  | .normal => .normal
  | .ret => .ret
  | .exit id => .exit id

inductive Tree where
  | leaf (e : SX) (S : St)
  | fin (v : SV) (S : St)
  | dfn (o : IOp) (xs : List SI) (t : Tree)
  | hav (id : Nat) (xs : List SI) (m : Nat) (t : Tree)
  | br (x : Nat) (t f : Tree)
  | both (t f : Tree)
  | brE (x : Nat) (j : Int) (t f : Tree)
  | obl (e : SI) (t : Tree)
  | bad (n : Nat)

/-- What is asked of a call (a number names it) and what it is known to leave; what is asked of an end. -/
structure Ask where
  pre : Nat → List Int → Prop
  post : Nat → List Int → List Int → Prop
  leaf : SX → St → List Int → Prop
  fin : SV → St → List Int → Prop

def Tree.holds (A : Ask) : Tree → List Int → Prop
  | .leaf e S, env => A.leaf e S env
  | .fin v S, env => A.fin v S env
  | .dfn o xs t, env => ∀ x, x = o.ev (xs.map (·.val env)) → t.holds A (env ++ [x])
  | .hav id xs m t, env => A.pre id (xs.map (·.val env)) ∧ ∀ ys, ys.length = m → A.post id (xs.map (·.val env)) ys → t.holds A (env ++ ys)
  | .br x t f, env => (env.getD x 0 = 1 → t.holds A env) ∧ (env.getD x 0 = 0 → f.holds A env)
  | .both t f, env => t.holds A env ∧ f.holds A env
  | .brE x j t f, env => (env.getD x 0 = j → t.holds A env) ∧ (env.getD x 0 ≠ j → f.holds A env)
  | .obl e t, env => 0 ≤ e.val env ∧ t.holds A env
  | .bad _, _ => False

def defsT : List (IOp × List SI) → Tree → Tree
  | [], t => t
  | (o, xs) :: r, t => .dfn o xs (defsT r t)

theorem defsT_holds {A : Ask} {t : Tree} : ∀ (l : List (IOp × List SI)) (env : List Int), (defsT l t).holds A env → t.holds A (runDefs env l)
  | [], _, h => h
  | (o, xs) :: r, env, h => by
    rw [runDefs]
    exact defsT_holds r _ (h _ rfl)

def putK (dst : Option Tmp) (v : SV) (S : St) (k : St → Tree) : Tree :=
  match dst with
  | none => k S
  | some d => bif Nat.blt d S.nt then k { S with tm := (d, v) :: S.tm } else .bad 1

/-- What a contract says of a call: what is asked of these integers, how many new ones there are, what is handed back, the regions behind it. -/
structure CR where
  id : Nat
  xs : List SI
  m : Nat
  ret : SV
  mem : List (List SC × Bool)

/-- What a contract says of a piece of code: its end, what is asked, how many new integers there are, the slots and the regions behind it. -/
structure PR where
  e : SX
  id : Nat
  xs : List SI
  m : Nat
  tm : List (Nat × SV)
  mem : List (List SC × Bool)

structure Cfg where
  P : Program
  ext : Nat → Nat
  con : Nat → List SV → St → Option CR
  pcon : Nat → Nat → St → Option (List PR)

/-- A name that is known to be a number, in the slots. -/
def SI.at (x : Nat) (j : Int) : SI → SI
  | .var y => bif Nat.beq y x then .lit j else .var y
  | e => e
def SC.at (x : Nat) (j : Int) : SC → SC
  | .ii k e => .ii k (e.at x j)
  | c => c
def SV.at (x : Nat) (j : Int) : SV → SV
  | .ww (.cc c) => .ww (.cc (c.at x j))
  | v => v
def St.at (x : Nat) (j : Int) (S : St) : St := { S with tm := S.tm.map fun p => (p.1, p.2.at x j) }

/-- What must be known first. -/
inductive Need where
  | no
  | split (x n : Nat)
  | shift (k : IntKind) (op : BinOp) (e e' : SI)
def need (P : Program) (o : Oper) (S : St) : Need :=
  match o.op with
  | .indexAddr t x ix => match xev S x, xev S ix with
    | some (.ww (.cc (.pp _ _))), some (.ww (.cc (.ii _ (.var v)))) => match P.underlying t with
      | some (.array n _) => .split v n
      | _ => .no
    | some (.ww (.cc (.ss _ _ n _))), some (.ww (.cc (.ii _ (.var v)))) => .split v n
    | _, _ => .no
  | .binOp op _ x y _ => match op with
    | .shl | .shr => match xev S x, xev S y with
      | some (.ww (.cc (.ii k e))), some (.ww (.cc (.ii k' (.var v)))) => bif unsB k' then .no else .shift k op e (.var v)
      | _, _ => .no
    | _ => .no
  | _ => .no
def splitT (x : Nat) (f : Nat → Tree) : Nat → Tree
  | 0 => .bad 30
  | n + 1 => .brE x n (f n) (splitT x f n)

def xstep (C : Cfg) (xc : Nat → List SV → St → (SV → St → Tree) → Tree) (o : Oper) : Nat → St → (St → Tree) → Tree
  | n, S, k => match need C.P o S with
   | .split x m => match n with
      | 0 => .bad 31
      | n + 1 => splitT x (fun j => xstep C xc o n (S.at x j) k) m
   | .shift kk op e e' => .obl e' (defsT [(.bin op kk, [e, e'])] (putK o.dst (scv (.ii kk (.var S.ne))) (S.grow [(.bin op kk, [e, e'])]) k))
   | .no => match yval C.P C.ext o S with
    | .fail => .bad 2
    | .val l v => defsT l (putK o.dst v (S.grow l) k)
    | .sto r q cs => match S.mem[r]? with
      | some (old, _) => putK o.dst (.tt []) { S with mem := S.mem.set r (wrAt old q cs, true) } k
      | none => .bad 3
    | .new _ cs v => putK o.dst (scv v) { S with mem := S.mem ++ [(cs, true)] } k
    | .ask x => match n with
      | 0 => .bad 4
      | n + 1 => .br x (xstep C xc o n { S with fx := (x, true) :: S.fx } k) (xstep C xc o n { S with fx := (x, false) :: S.fx } k)
    | .call f args => xc f args S (fun v S' => putK o.dst v S' k)

/-- An operation's guard. -/
def xguard (ops : Array Oper) (o : Oper) (S : St) (kr ks : St → Tree) : Tree :=
  match o.guard with
  | none => kr S
  | some (j, want) => match (ops[j]?).bind (·.dst) with
    | none => ks S
    | some d => match lk d S.tm with
      | some (.ww (.cc (.bb e))) => match know S e with
        | .lit t => bif t == want then kr S else ks S
        | .var x => .br x (bif want then kr { S with fx := (x, true) :: S.fx } else ks { S with fx := (x, true) :: S.fx })
            (bif want then ks { S with fx := (x, false) :: S.fx } else kr { S with fx := (x, false) :: S.fx })
      | some (.tt []) => ks S
      | _ => .bad 5

def xops (C : Cfg) (xc : Nat → List SV → St → (SV → St → Tree) → Tree) (ops : Array Oper) : List Oper → St → (St → Tree) → Tree
  | [], S, k => k S
  | o :: r, S, k => xguard ops o S (fun S' => xstep C xc o 2 S' (fun S'' => xops C xc ops r S'' k)) (fun S' => putK o.dst (.tt []) S' (fun S'' => xops C xc ops r S'' k))

/-- The state says nothing of a frame. -/
structure Facts (env : List Int) (S : St) : Prop where
  ne : env.length = S.ne
  fx : ∀ (x : Nat) (t : Bool), lk x S.fx = some t → env[x]? = some (b01 t)
  bt : ∀ (x : Nat), x ∈ S.bt → env[x]? = some 0 ∨ env[x]? = some 1

theorem FRel.facts {env : List Int} {β : List (Nat × Nat)} {S : St} {a : Act} (h : FRel env β S a) : Facts env S := ⟨h.ne, h.fx, h.bt⟩

/-- A longer list. -/
def Longer {α : Type} (l m : List α) : Prop := ∃ e, m = l ++ e
theorem Longer.refl {α : Type} (l : List α) : Longer l l := ⟨[], by simp⟩
theorem Longer.trans {α : Type} {l m n : List α} (h : Longer l m) (k : Longer m n) : Longer l n := by
  obtain ⟨e, rfl⟩ := h
  obtain ⟨f, rfl⟩ := k
  exact ⟨e ++ f, by simp⟩
theorem Longer.defs (env : List Int) (l : List (IOp × List SI)) : Longer env (runDefs env l) := by
  obtain ⟨e, h, _⟩ := runDefs_more l env
  exact ⟨e, h⟩

/-- The caller's frame behind a call. -/
theorem FRel.behind {env env' : List Int} {β β' : List (Nat × Nat)} {S S' : St} {a : Act} (h : FRel env β S a) (he : Longer env env') (hb : Longer β β') (hf : Facts env' S')
    (ht : S'.tm = S.tm) (hn : S'.nt = S.nt) : FRel env' β' S' a := by
  obtain ⟨e, rfl⟩ := he
  obtain ⟨b, rfl⟩ := hb
  have h1 := h.more e b
  exact ⟨hf.ne, h.nd, by rw [hn]; exact h.nt, fun d sv hd => h1.tm d sv (by rw [ht] at hd; exact hd), hf.fx, hf.bt⟩

section
variable {C : Cfg} {A : Ask} {W0 : World} {Tp : Nat → Nat → Prop} {env : List Int} {β : List (Nat × Nat)} {S : St} {a : Act} {w : World}

/-- Of the function that meets the calls. -/
def XcOk (C : Cfg) (A : Ask) (W0 : World) (Tp : Nat → Nat → Prop) (xc : Nat → List SV → St → (SV → St → Tree) → Tree) : Prop :=
  ∀ (f : Nat) (args : List SV) (S : St) (kk : SV → St → Tree) (env : List Int) (β : List (Nat × Nat)) (w : World) (vs : List Value) (R : Value → World → Prop),
    C.ext f = 0 → Facts env S → MRel W0 Tp env β S.mem w → All2 (SV.is env β) args vs → (xc f args S kk).holds A env →
    (∀ v u S' env' β' w', Longer env env' → Longer β β' → Facts env' S' → S'.tm = S.tm → S'.nt = S.nt → MRel W0 Tp env' β' S'.mem w' → v.is env' β' u → (kk v S').holds A env' → R u w') →
    Calls C.P f vs.toArray w (fun e w' => ∃ u, e = .returned u ∧ R u w')

/-- What follows an operation. -/
def After (A : Ask) (W0 : World) (Tp : Nat → Nat → Prop) (env : List Int) (β : List (Nat × Nat)) (k : St → Tree) (K : Act → World → Prop) : Prop :=
  ∀ (S' : St) (env' : List Int) (β' : List (Nat × Nat)) (a' : Act) (w' : World), Longer env env' → Longer β β' → FRel env' β' S' a' → MRel W0 Tp env' β' S'.mem w' → (k S').holds A env' → K a' w'

theorem putK_ok {k : St → Tree} {K : Act → World → Prop} {dst : Option Tmp} {v : SV} {u : Value} (hF : FRel env β S a) (hv : v.is env β u)
    (h : (putK dst v S k).holds A env) (hk : ∀ (S' : St) (a' : Act), FRel env β S' a' → S'.mem = S.mem → (k S').holds A env → K a' w) : K (a.put dst u) w := by
  cases dst with
  | none => exact hk S a hF rfl h
  | some d =>
    unfold putK at h
    simp only [] at h
    cases hb : Nat.blt d S.nt
    · simp only [hb, cond_false] at h; exact h.elim
    · simp only [hb, cond_true] at h
      have hlt : d < S.nt := by simpa using hb
      exact hk _ _ (hF.put hlt hv) rfl h

theorem FRel.know {x : Nat} {t : Bool} (hF : FRel env β S a) (h : env.getD x 0 = b01 t) (hx : env[x]? = some 0 ∨ env[x]? = some 1) : FRel env β { S with fx := (x, t) :: S.fx } a := by
  refine ⟨hF.ne, hF.nd, hF.nt, hF.tm, fun y s hy => ?_, hF.bt⟩
  by_cases hxy : x = y
  · subst hxy
    rw [lk_cons_same] at hy
    injection hy with hy
    subst hy
    rcases hx with h1 | h1
    · simp [h1] at h; rw [h1, h]
    · simp [h1] at h; rw [h1, h]
  · rw [lk_cons_ne _ _ hxy] at hy
    exact hF.fx y s hy

theorem SI.is_at {x : Nat} {j n : Int} {e : SI} (hx : env[x]? = some j) (h : e.is env n) : (e.at x j).is env n := by
  cases e with
  | lit m => exact h
  | var y =>
    unfold SI.at
    cases hb : Nat.beq y x
    · simp only [hb, cond_false]; exact h
    · have hyx := Nat.eq_of_beq_eq_true hb
      subst hyx
      simp only [hb, cond_true]
      have h' : env[y]? = some n := h
      rw [hx] at h'
      injection h' with h'
      exact h'.symm
theorem SV.is_at {x : Nat} {j : Int} {v : SV} {u : Value} (hx : env[x]? = some j) (h : v.is env β u) : (v.at x j).is env β u := by
  cases v with
  | tt l => exact h
  | ww s =>
    cases s with
    | aa l => exact h
    | cc c =>
      cases c with
      | ii k e =>
        obtain ⟨n, h1, h2, h3⟩ := h
        exact ⟨n, SI.is_at hx h1, h2, h3⟩
      | _ => exact h
theorem lk_map {α γ : Type} (f : α → γ) : ∀ (l : List (Nat × α)) (d : Nat), lk d (l.map fun p => (p.1, f p.2)) = (lk d l).map f
  | [], _ => rfl
  | (k, v) :: r, d => by
    simp only [List.map_cons, lk]
    cases Nat.beq k d
    · simp only [cond_false]; exact lk_map f r d
    · rfl
theorem FRel.at {x : Nat} {j : Int} (hF : FRel env β S a) (hx : env[x]? = some j) : FRel env β (S.at x j) a := by
  refine ⟨hF.ne, hF.nd, hF.nt, fun d sv hd => ?_, hF.fx, hF.bt⟩
  simp only [St.at, lk_map] at hd
  cases h : lk d S.tm with
  | none => simp [h] at hd
  | some v =>
    simp [h] at hd
    subst hd
    obtain ⟨u, hu, hs⟩ := hF.tm d v h
    exact ⟨u, hu, SV.is_at hx hs⟩
theorem splitT_holds {x : Nat} {f : Nat → Tree} : ∀ {n : Nat}, (splitT x f n).holds A env → ∃ j : Nat, env.getD x 0 = (j : Int) ∧ (f j).holds A env
  | 0, h => h.elim
  | n + 1, h => by
    by_cases hj : env.getD x 0 = (n : Int)
    · exact ⟨n, hj, h.1 hj⟩
    · exact splitT_holds (h.2 hj)
theorem need_split {o : Oper} {x n : Nat} (hF : FRel env β S a) (h : need C.P o S = .split x n) : ∃ j, env[x]? = some j := by
  unfold need at h
  split at h
  · split at h
    · rename_i hu hv
      split at h
      · injection h with h1 h2
        subst h1
        obtain ⟨n, hn, _⟩ := xev_is hF hv
        exact ⟨n, hn⟩
      · cases h
    · rename_i hu hv
      injection h with h1 h2
      subst h1
      obtain ⟨n, hn, _⟩ := xev_is hF hv
      exact ⟨n, hn⟩
    · cases h
  · split at h
    · split at h
      · unfold cond at h; split at h <;> cases h
      · cases h
    · split at h
      · unfold cond at h; split at h <;> cases h
      · cases h
    · cases h
  · cases h
theorem need_shift {o : Oper} {k : IntKind} {op : BinOp} {e e' : SI} (h : need C.P o S = .shift k op e e') :
    ∃ t x y yt k', o.op = .binOp op t x y yt ∧ (op = .shl ∨ op = .shr) ∧ xev S x = some (.ww (.cc (.ii k e))) ∧ xev S y = some (.ww (.cc (.ii k' e'))) := by
  unfold need at h
  split at h
  · split at h
    · split at h <;> cases h
    · cases h
    · cases h
  · rename_i op' t x y yt ho
    split at h
    · split at h
      · rename_i k1 e1 k2 v hx hy
        unfold cond at h
        split at h
        · cases h
        · injection h with h1 h2 h3 h4
          subst h1; subst h2; subst h3; subst h4
          exact ⟨_, _, _, _, _, ho, .inl rfl, hx, hy⟩
      · cases h
    · split at h
      · rename_i k1 e1 k2 v hx hy
        unfold cond at h
        split at h
        · cases h
        · injection h with h1 h2 h3 h4
          subst h1; subst h2; subst h3; subst h4
          exact ⟨_, _, _, _, _, ho, .inr rfl, hx, hy⟩
      · cases h
    · cases h
  · cases h
theorem shift_val {o : Oper} {k : IntKind} {op : BinOp} {e e' : SI} (hF : FRel env β S a) (h : need C.P o S = .shift k op e e') (h0 : 0 ≤ e'.val env) :
    tagOf C.ext o = 0 ∧ ∃ u, (scv (.ii k (.var S.ne))).is (runDefs env [(.bin op k, [e, e'])]) β u ∧ ∀ w', (execOp a.eval o).run C.P w' = .ok (.value u) w' := by
  obtain ⟨t, x, y, yt, k', ho, hop, hx, hy⟩ := need_shift h
  obtain ⟨i, hi, hif, e1⟩ := xev_is hF hx
  obtain ⟨j, hj, hjf, e2⟩ := xev_is hF hy
  obtain ⟨dst, op', type, pos, after, guard⟩ := o
  simp only at ho
  subst ho
  rw [hj.val] at h0
  refine ⟨rfl, .int k (binEv op k i j), ⟨binEv op k i j, ?_, fits_bin j hif, rfl⟩, fun w' => ?_⟩
  · show (env ++ [_])[S.ne]? = some _
    rw [← hF.ne]
    simp [IOp.ev, hi.val, hj.val]
  · have := yl_shift (P := C.P) t x y i j hop h0 w' (k := k) (k' := k')
    simp only [execOp]
    rw [Sem.run_bind, e1, e2]
    rw [this]
    rfl

theorem xstep_ok (hE : Ext C.P C.ext) {xc : Nat → List SV → St → (SV → St → Tree) → Tree} (hxc : XcOk C A W0 Tp xc) {o : Oper} {ops : Array Oper} {Q : Exit → Act → World → Prop} {k : St → Tree} {K : Act → World → Prop}
    (hw : ∀ a' : Act, a'.tmps = a.tmps → Region.wanted o (yielded ops a'.tmps) = true) :
    ∀ (n : Nat) (S : St), FRel env β S a → MRel W0 Tp env β S.mem w → (xstep C xc o n S k).holds A env → After A W0 Tp env β k K →
      wpT C.P ops Q (tagOf C.ext o) o K a w := by
  intro n
  induction n with
  | zero => ?_
  | succ n ih => ?_
  all_goals
    intro S hF hM h hk
    have hwa := hw a rfl
    unfold xstep at h
    split at h
    · rename_i x m hneed
      first
        | exact h.elim
        | (obtain ⟨i, hi⟩ := need_split (C := C) hF hneed
           obtain ⟨j, hj, hh⟩ := splitT_holds h
           have hij : i = (j : Int) := by simpa [hi] using hj
           subst hij
           exact ih _ (hF.at hi) hM hh hk)
    · rename_i kk op e e' hneed
      obtain ⟨h0, hh⟩ := h
      obtain ⟨ht, u, hu, hrun⟩ := shift_val (C := C) hF hneed h0
      have h1 := defsT_holds _ env hh
      have h2 : K (a.put o.dst u) w := putK_ok (hF.grow _) (S := S.grow _) hu h1 fun S' a' hF' hmem hh =>
        hk S' _ β a' w (Longer.defs env _) (Longer.refl β) hF' (by rw [hmem]; exact hM.grow _) hh
      unfold wpT
      rw [if_pos hwa, ht]
      exact ⟨u, hrun, h2⟩
    · rename_i hneed
      clear hneed
      split at h
      · exact h.elim
      · rename_i l v hx
        obtain ⟨u, hu, hrun⟩ := yval_val hE hF hM.cells hx
        have h1 := defsT_holds l env h
        have h2 : K (a.put o.dst u) w := putK_ok (hF.grow l) (S := S.grow l) hu h1 fun S' a' hF' hmem hh =>
          hk S' _ β a' w (Longer.defs env l) (Longer.refl β) hF' (by rw [hmem]; exact hM.grow l) hh
        unfold wpT
        rw [if_pos hwa]
        rcases hrun with ⟨ht, hr⟩ | ⟨ht, hr⟩
        · rw [ht]; exact ⟨u, hr, h2⟩
        · rw [ht]; exact ⟨u, hr, h2⟩
      · rename_i r q cs hx
        obtain ⟨old, b, w', hr, hrun, hM', ht⟩ := xval_sto hF hM (yval_of hx (by simp) (by simp))
        simp only [hr] at h
        have h2 : K (a.put o.dst undef) w' := putK_ok (S := { S with mem := S.mem.set r (wrAt old q cs, true) }) (β := β) (env := env) (v := .tt [])
          ⟨hF.ne, hF.nd, hF.nt, hF.tm, hF.fx, hF.bt⟩ ⟨[], rfl, trivial⟩ h fun S' a' hF' hmem hh =>
            hk S' _ β a' w' (Longer.refl _) (Longer.refl β) hF' (by rw [hmem]; exact hM') hh
        refine wpT_eff hwa (by rw [ht]; decide) ?_
        unfold Oper.wp
        rw [hrun]
        exact h2
      · rename_i t0 cs v hx
        obtain ⟨⟨w', u, hrun, hM', hv⟩, ht⟩ := xval_new hF hM (yval_of hx (by simp) (by simp))
        have hF1 : FRel env (β ++ [(w.heap.size, 0)]) { S with mem := S.mem ++ [(cs, true)] } a := by
          have := hF.more [] [(w.heap.size, 0)]
          rw [List.append_nil] at this
          exact ⟨this.ne, this.nd, this.nt, this.tm, this.fx, this.bt⟩
        have h2 : K (a.put o.dst u) w' := putK_ok (S := { S with mem := S.mem ++ [(cs, true)] }) hF1 (v := scv v) hv h fun S' a' hF' hmem hh =>
          hk S' _ _ a' w' (Longer.refl _) ⟨_, rfl⟩ hF' (by rw [hmem]; exact hM') hh
        refine wpT_eff hwa (by rw [ht]; decide) ?_
        unfold Oper.wp
        rw [hrun]
        exact h2
      · rename_i x hx
        first
          | exact h.elim
          | (obtain ⟨h1, h2⟩ := h
             have hbit : env[x]? = some 0 ∨ env[x]? = some 1 := xval_ask hF (yval_of hx (by simp) (by simp))
             rcases hbit with hb | hb
             · exact ih _ (hF.know (t := false) (by simp [hb, b01]) (.inl hb)) hM (h2 (by simp [hb])) hk
             · exact ih _ (hF.know (t := true) (by simp [hb, b01]) (.inr hb)) hM (h1 (by simp [hb])) hk)
      · rename_i f args hx
        obtain ⟨c, vs, ho, hc, hall, hargs, hext, ht⟩ := xval_call hF (yval_of hx (by simp) (by simp))
        have hcall := hxc f args S _ env β w vs (fun u w' => K (a.put o.dst u) w') hext hF.facts hM hall h fun v u S' env' β' w' he hb hf htm hnt hM' hv hh =>
          putK_ok (hF.behind he hb hf htm hnt) hv hh fun S'' a' hF' hmem hh' => hk S'' env' β' a' w' he hb hF' (by rw [hmem]; exact hM') hh'
        refine wpT_eff hwa (by rw [ht]; decide) ?_
        unfold Oper.wp
        rw [run_call (P := C.P) (a := a) ho hc w, hargs, hE.enter f hext]
        simp only [Oper.upon]
        exact hcall.mono fun e w' ⟨u, he, hu⟩ => by subst he; exact hu
end
end Eng
