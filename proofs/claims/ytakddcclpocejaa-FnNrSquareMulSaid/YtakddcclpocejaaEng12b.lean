/-
  The walk by reckoning: a region whose operations do not all change places freely: what reads and what looks at its operands alone is taken first, all orders of the others are walked.
-/
import Derived.Test.YtakddcclpocejaaEng12
import Derived.OrdersHeld
namespace Eng
open Go Go.RowKit

def SI.beq : SI → SI → Bool
  | .lit n, .lit m => decide (n = m)
  | .var x, .var y => Nat.beq x y
  | _, _ => false
theorem SI.beq_eq {a b : SI} (h : a.beq b = true) : a = b := by
  cases a <;> cases b <;> simp [SI.beq] at h <;> first | (subst h; rfl) | (rw [h])
def SB.beq : SB → SB → Bool
  | .lit n, .lit m => n == m
  | .var x, .var y => Nat.beq x y
  | _, _ => false
theorem SB.beq_eq {a b : SB} (h : a.beq b = true) : a = b := by
  cases a <;> cases b <;> simp [SB.beq] at h <;> first | (subst h; rfl) | (rw [h])
def SC.beq : SC → SC → Bool
  | .ii k e, .ii k' e' => decide (k = k') && e.beq e'
  | .bb e, .bb e' => e.beq e'
  | .pp r o, .pp r' o' => Nat.beq r r' && Nat.beq o o'
  | .ss r o l c, .ss r' o' l' c' => Nat.beq r r' && (Nat.beq o o' && (Nat.beq l l' && Nat.beq c c'))
  | _, _ => false
theorem SC.beq_eq {a b : SC} (h : a.beq b = true) : a = b := by
  cases a <;> cases b <;> simp only [SC.beq, Bool.and_eq_true, decide_eq_true_eq] at h <;> try cases h
  · rename_i h1 h2; rw [h1, SI.beq_eq h2]
  · rw [SB.beq_eq h]
  · rename_i h1 h2; rw [Nat.eq_of_beq_eq_true h1, Nat.eq_of_beq_eq_true h2]
  · rename_i h1 h2
    rw [Nat.eq_of_beq_eq_true h1, Nat.eq_of_beq_eq_true h2.1, Nat.eq_of_beq_eq_true h2.2.1, Nat.eq_of_beq_eq_true h2.2.2]
def listBeq {α : Type} (f : α → α → Bool) : List α → List α → Bool
  | [], [] => true
  | x :: l, y :: m => f x y && listBeq f l m
  | _, _ => false
theorem listBeq_eq {α : Type} {f : α → α → Bool} (hf : ∀ a b, f a b = true → a = b) : ∀ {l m : List α}, listBeq f l m = true → l = m
  | [], [], _ => rfl
  | x :: l, y :: m, h => by
    rw [listBeq, Bool.and_eq_true] at h
    rw [hf _ _ h.1, listBeq_eq hf h.2]
  | [], _ :: _, h => by cases h
  | _ :: _, [], h => by cases h

theorem SC.is.fun_ {env env' : List Int} {β β' : List (Nat × Nat)} (he : Longer env env') (hb : Longer β β') {e : SC} {v u : Value} (h : e.is env β v) (k : e.is env' β' u) : u = v := by
  obtain ⟨e', rfl⟩ := he
  obtain ⟨b', rfl⟩ := hb
  have h := h.more e' b'
  cases e with
  | ii kk x =>
    obtain ⟨n, h1, _, rfl⟩ := h
    obtain ⟨m, h2, _, rfl⟩ := k
    rw [← h1.val, ← h2.val]
  | bb x =>
    obtain ⟨n, h1, rfl⟩ := h
    obtain ⟨m, h2, rfl⟩ := k
    have := h1.si.val.symm.trans h2.si.val
    cases n <;> cases m <;> simp [b01] at this <;> rfl
  | pp r o =>
    obtain ⟨x, h1, rfl⟩ := h
    obtain ⟨y, h2, rfl⟩ := k
    rw [h1] at h2
    injection h2 with h2
    subst h2; rfl
  | ss r o l c =>
    obtain ⟨x, h1, rfl⟩ := h
    obtain ⟨y, h2, rfl⟩ := k
    rw [h1] at h2
    injection h2 with h2
    subst h2; rfl
  | kk w => rw [h.1, k.1]

/-- These regions stand as they stood. -/
def sameB (prot : List Nat) (m m' : List (List SC × Bool)) : Bool :=
  prot.all fun r => match m[r]?, m'[r]? with
    | some (cs, _), some (ds, _) => listBeq SC.beq cs ds
    | _, _ => false

/-- Cells that hold these values. -/
def Holds (β : List (Nat × Nat)) (prot : List Nat) (mem : List (List SC × Bool)) (w0 : World) (w : World) : Prop :=
  ∀ r ∈ prot, ∀ cs wr x, mem[r]? = some (cs, wr) → β[r]? = some x → ∀ j, j < cs.length → w.cell? ⟨x.1, x.2 + j, none⟩ = w0.cell? ⟨x.1, x.2 + j, none⟩

section
variable {C : Cfg} {A : Ask} {W0 : World} {Tp : Nat → Nat → Prop} {env : List Int} {β : List (Nat × Nat)} {S : St} {a : Act} {w : World}

theorem holds_of {prot : List Nat} {mem mem' : List (List SC × Bool)} {env' : List Int} {β' : List (Nat × Nat)} {w0 : World} (h0 : MRel W0 Tp env β mem w0) (h : MRel W0 Tp env' β' mem' w)
    (he : Longer env env') (hb : Longer β β') (hs : sameB prot mem mem' = true) : Holds β prot mem w0 w := by
  intro r hr cs wr x hcs hx j hj
  have h1 := List.all_eq_true.1 hs r hr
  simp only [hcs] at h1
  split at h1
  · rename_i cs1 _ ds wr' e1 e2
    injection e1 with e1
    injection e1 with e1 _
    subst e1
    have heq := listBeq_eq (fun _ _ => SC.beq_eq) h1
    subst heq
    obtain ⟨y, hy, _, hc, _⟩ := h0.cell r _ wr hcs
    rw [hx] at hy
    injection hy with hy
    subst hy
    obtain ⟨z, hz, _, hd, _⟩ := h.cell r _ wr' e2
    have hxz : z = x := by
      obtain ⟨b', rfl⟩ := hb
      rw [get_more hx b'] at hz
      injection hz with hz
      exact hz.symm
    subst hxz
    obtain ⟨v, hv, hvs⟩ := hc j _ (List.getElem?_eq_getElem hj)
    obtain ⟨u, hu, hus⟩ := hd j _ (List.getElem?_eq_getElem hj)
    rw [hv, hu, hvs.fun_ he hb hus]
  · cases h1

theorem SW.is.fun_ {env env' : List Int} {β β' : List (Nat × Nat)} (he : Longer env env') (hb : Longer β β') {e : SW} {v u : Value} (h : e.is env β v) (k : e.is env' β' u) : u = v := by
  cases e with
  | cc x => exact SC.is.fun_ (env := env) he hb h k
  | aa l =>
    obtain ⟨vs, rfl, h⟩ := h
    obtain ⟨us, rfl, k⟩ := k
    have key : ∀ (l : List SC) (vs us : List Value), All2 (SC.is env β) l vs → All2 (SC.is env' β') l us → us = vs := by
      intro l
      induction l with
      | nil => intro vs us h k; cases vs <;> cases us <;> first | rfl | exact h.elim | exact k.elim
      | cons x l ih =>
        intro vs us h k
        cases vs with
        | nil => exact h.elim
        | cons v vs =>
          cases us with
          | nil => exact k.elim
          | cons u us => rw [h.1.fun_ he hb k.1, ih vs us h.2 k.2]
    rw [key l vs us h k]

theorem SV.is.fun_ {env env' : List Int} {β β' : List (Nat × Nat)} (he : Longer env env') (hb : Longer β β') {e : SV} {v u : Value} (h : e.is env β v) (k : e.is env' β' u) : u = v := by
  cases e with
  | ww x => exact SW.is.fun_ (env := env) he hb h k
  | tt l =>
    obtain ⟨vs, rfl, h⟩ := h
    obtain ⟨us, rfl, k⟩ := k
    have key : ∀ (l : List SW) (vs us : List Value), All2 (SW.is env β) l vs → All2 (SW.is env' β') l us → us = vs := by
      intro l
      induction l with
      | nil => intro vs us h k; cases vs <;> cases us <;> first | rfl | exact h.elim | exact k.elim
      | cons x l ih =>
        intro vs us h k
        cases vs with
        | nil => exact h.elim
        | cons v vs =>
          cases us with
          | nil => exact k.elim
          | cons u us => rw [h.1.fun_ he hb k.1, ih vs us h.2 k.2]
    rw [key l vs us h k]

/-- The regions that stay; the others without their cells. -/
def protMem (prot : List Nat) : Nat → List (List SC × Bool) → List (List SC × Bool)
  | _, [] => []
  | i, (cs, _) :: r => (bif prot.elem i then cs else [], false) :: protMem prot (i + 1) r

theorem protMem_get (prot : List Nat) : ∀ (m : List (List SC × Bool)) (i r : Nat) (cs : List SC) (wr : Bool), (protMem prot i m)[r]? = some (cs, wr) →
    wr = false ∧ ∃ ds wr', m[r]? = some (ds, wr') ∧ ((i + r ∈ prot ∧ cs = ds) ∨ cs = [])
  | [], i, r, cs, wr, h => by simp [protMem] at h
  | (ds, b) :: m, i, 0, cs, wr, h => by
    simp only [protMem, List.getElem?_cons_zero, Option.some.injEq, Prod.mk.injEq] at h
    obtain ⟨h1, h2⟩ := h
    refine ⟨h2.symm, ds, b, rfl, ?_⟩
    cases hb : prot.elem i
    · simp only [hb, cond_false] at h1; exact .inr h1.symm
    · simp only [hb, cond_true] at h1; exact .inl ⟨by simpa using hb, h1.symm⟩
  | (ds, b) :: m, i, r + 1, cs, wr, h => by
    obtain ⟨h1, es, wr', h2, h3⟩ := protMem_get prot m (i + 1) r cs wr (by simpa [protMem] using h)
    exact ⟨h1, es, wr', by simpa using h2, by rw [show i + (r + 1) = i + 1 + r from by omega]; exact h3⟩
theorem protMem_length (prot : List Nat) : ∀ (m : List (List SC × Bool)) (i : Nat), (protMem prot i m).length = m.length
  | [], _ => rfl
  | _ :: m, i => by simp [protMem, protMem_length prot m (i + 1)]

theorem CellsOk.prot {prot : List Nat} {mem : List (List SC × Bool)} (h : CellsOk env β mem w) {w' : World} (hh : Holds β prot mem w w') : CellsOk env β (protMem prot 0 mem) w' := by
  intro r cs wr x hr hx j sc hj
  obtain ⟨rfl, ds, wr', hd, hor⟩ := protMem_get prot mem 0 r cs wr hr
  rcases hor with ⟨hp, rfl⟩ | rfl
  · obtain ⟨v, hv, hs⟩ := h r cs wr' x hd hx j sc hj
    rw [Nat.zero_add] at hp
    exact ⟨v, by rw [hh r hp cs wr' x hd hx j (List.getElem?_eq_some_iff.1 hj).1]; exact hv, hs⟩
  · simp at hj

/-- An operation that is taken first. -/
def stepQ (C : Cfg) (prot : List Nat) (o : Oper) : Nat → St → (St → Tree) → Tree
  | n, S, k => match yval C.P C.ext o { S with mem := protMem prot 0 S.mem } with
    | .val l v => defsT l (putK o.dst v (S.grow l) k)
    | .ask x => match n with
      | 0 => .bad 20
      | n + 1 => .br x (stepQ C prot o n { S with fx := (x, true) :: S.fx } k) (stepQ C prot o n { S with fx := (x, false) :: S.fx } k)
    | _ => .bad 21

theorem stepQ_ok (hE : Ext C.P C.ext) {prot : List Nat} {o : Oper} {k : St → Tree} :
    ∀ (n : Nat) (S : St), FRel env β S a → MRel W0 Tp env β S.mem w → (stepQ C prot o n S k).holds A env →
      ∃ u S' env', Longer env env' ∧ FRel env' β S' (a.put o.dst u) ∧ S'.mem = S.mem ∧ (k S').holds A env' ∧ ∀ w', Holds β prot S.mem w w' → (execOp a.eval o).run C.P w' = .ok (.value u) w' := by
  intro n
  induction n with
  | zero => ?_
  | succ n ih => ?_
  all_goals
    intro S hF hM h
    unfold stepQ at h
    split at h
    · rename_i l v hx
      have hF' : FRel env β { S with mem := protMem prot 0 S.mem } a := ⟨hF.ne, hF.nd, hF.nt, hF.tm, hF.fx, hF.bt⟩
      have h0 : Holds β prot S.mem w w := fun _ _ _ _ _ _ _ _ _ => rfl
      obtain ⟨u, hu, hrun⟩ := yval_val hE hF' (hM.cells.prot h0) hx
      have h1 := defsT_holds l env h
      have all : ∀ w', Holds β prot S.mem w w' → (execOp a.eval o).run C.P w' = .ok (.value u) w' := by
        intro w' hh
        obtain ⟨u', hu', hrun'⟩ := yval_val hE hF' (hM.cells.prot hh) hx
        have e : u' = u := hu.fun_ (Longer.refl _) (Longer.refl _) hu'
        subst e
        rcases hrun' with ⟨_, hr⟩ | ⟨_, hr⟩
        · exact hr w'
        · exact hr
      obtain ⟨S', a', hF2, hm, hh, ha⟩ : ∃ S' a', FRel (runDefs env l) β S' a' ∧ S'.mem = S.mem ∧ (k S').holds A (runDefs env l) ∧ a' = a.put o.dst u := by
        have := putK_ok (w := w) (K := fun a' _ => ∃ S' a'', FRel (runDefs env l) β S' a'' ∧ S'.mem = S.mem ∧ (k S').holds A (runDefs env l) ∧ a'' = a') (hF.grow l) (S := S.grow l) hu h1
          (fun S' a' hF' hm hh => ⟨S', a', hF', by rw [hm]; rfl, hh, rfl⟩)
        exact this
      subst ha
      exact ⟨u, S', _, Longer.defs env l, hF2, hm, hh, all⟩
    · rename_i x hx
      first
        | exact h.elim
        | (obtain ⟨h1, h2⟩ := h
           have hF' : FRel env β { S with mem := protMem prot 0 S.mem } a := ⟨hF.ne, hF.nd, hF.nt, hF.tm, hF.fx, hF.bt⟩
           rcases xval_ask hF' (yval_of hx (by simp) (by simp)) with hb | hb
           · exact ih { S with fx := (x, false) :: S.fx } (hF.know (t := false) (by simp [hb, b01]) (.inl hb)) hM (h2 (by simp [hb]))
           · exact ih { S with fx := (x, true) :: S.fx } (hF.know (t := true) (by simp [hb, b01]) (.inr hb)) hM (h1 (by simp [hb])))
    · exact h.elim

theorem yielded_of {ops : Array Oper} {j d : Nat} {v : Value} (hd : (ops[j]?).bind (·.dst) = some d) (hv : a.tmps[d]? = some v) :
    yielded ops a.tmps j = match v with | .bool b => some b | _ => none := by
  unfold yielded
  rw [hd]
  simp only [Option.bind_some, hv]
  cases v <;> rfl

/-- A guard that holds, one way or the other. -/
theorem xguard_cases {ops : Array Oper} {o : Oper} {kr ks : St → Tree} (hF : FRel env β S a) (h : (xguard ops o S kr ks).holds A env) :
    (∃ S', FRel env β S' a ∧ S'.mem = S.mem ∧ (∀ a' : Act, a'.tmps = a.tmps → Region.wanted o (yielded ops a'.tmps) = true) ∧ (kr S').holds A env) ∨
    (∃ S', FRel env β S' a ∧ S'.mem = S.mem ∧ Region.wanted o (yielded ops a.tmps) = false ∧ (ks S').holds A env) := by
  unfold xguard at h
  split at h
  · rename_i hg
    exact .inl ⟨S, hF, rfl, (fun a' _ => by simp [Region.wanted, hg]), h⟩
  · rename_i j want hg
    have wd : ∀ b : Option Bool, yielded ops a.tmps j = b → Region.wanted o (yielded ops a.tmps) = (b == some want) := by
      intro b hb
      simp only [Region.wanted, hg, hb]
    split at h
    · rename_i hd
      refine .inr ⟨S, hF, rfl, ?_, h⟩
      rw [wd none (by unfold yielded; simp [hd])]
      rfl
    · rename_i d hd
      split at h
      · rename_i e he
        obtain ⟨v, hv, t', ht', rfl⟩ := hF.tm d _ he
        have hy : yielded ops a.tmps j = some t' := by rw [yielded_of hd hv]
        have hk := know_is hF ht'
        have want_of : Region.wanted o (yielded ops a.tmps) = (t' == want) := by
          rw [wd _ hy]
          rfl
        have run : ∀ S', FRel env β S' a → S'.mem = S.mem → t' = want → (kr S').holds A env → (∃ S', FRel env β S' a ∧ S'.mem = S.mem ∧ (∀ a' : Act, a'.tmps = a.tmps → Region.wanted o (yielded ops a'.tmps) = true) ∧ (kr S').holds A env) := fun S' hF' hm htw hh =>
          ⟨S', hF', hm, (fun a' ha' => by rw [ha', want_of, htw]; simp), hh⟩
        have no : ∀ S', FRel env β S' a → S'.mem = S.mem → t' ≠ want → (ks S').holds A env → (∃ S', FRel env β S' a ∧ S'.mem = S.mem ∧ Region.wanted o (yielded ops a.tmps) = false ∧ (ks S').holds A env) := fun S' hF' hm htw hh =>
          ⟨S', hF', hm, by rw [want_of]; simpa using htw, hh⟩
        split at h
        · rename_i t2 hkn
          rw [hkn] at hk
          have hk : t' = t2 := hk
          subst hk
          cases hb : (t' == want)
          · simp only [hb, cond_false] at h
            exact .inr (no S hF rfl (by simpa using hb) h)
          · simp only [hb, cond_true] at h
            exact .inl (run S hF rfl (by simpa using hb) h)
        · rename_i x hkn
          rw [hkn] at hk
          have hx : env[x]? = some (b01 t') := hk
          obtain ⟨h1, h2⟩ := h
          have hbit : env[x]? = some 0 ∨ env[x]? = some 1 := by rw [hx]; cases t' <;> simp [b01]
          have hg0 : env.getD x 0 = b01 t' := by simp [hx]
          cases t'
          · have hF' := hF.know (t := false) hg0 hbit
            have hh := h2 (by rw [hg0]; rfl)
            cases want
            · simp only [cond_false] at hh
              exact .inl (run { S with fx := (x, false) :: S.fx } hF' rfl rfl hh)
            · simp only [cond_true] at hh
              exact .inr (no { S with fx := (x, false) :: S.fx } hF' rfl (by decide) hh)
          · have hF' := hF.know (t := true) hg0 hbit
            have hh := h1 (by rw [hg0]; rfl)
            cases want
            · simp only [cond_false] at hh
              exact .inr (no { S with fx := (x, true) :: S.fx } hF' rfl (by decide) hh)
            · simp only [cond_true] at hh
              exact .inl (run { S with fx := (x, true) :: S.fx } hF' rfl rfl hh)
      · rename_i he
        obtain ⟨v, hv, vs, rfl, _⟩ := hF.tm d _ he
        refine .inr ⟨S, hF, rfl, ?_, h⟩
        rw [wd none (by rw [yielded_of hd hv])]
        rfl
      · exact h.elim

/-- What an operation waits for itself, as bits. -/
def dmask (ops : List Oper) : List Nat := ops.map fun o => mask1 [] o.after.toList

def readyL (L : Nat) : Nat → List Nat → List Nat
  | _, [] => []
  | i, d :: r => bif !(L.testBit i) && Nat.beq (d &&& L) d then i :: readyL L (i + 1) r else readyL L (i + 1) r

/-- Who neither waits for it nor is apart from it, as bits. -/
def bmask1 (ops : Array Oper) (o : Oper) (i : Nat) : Nat → List Oper → Nat
  | _, [] => 0
  | j, p :: r => bif Nat.beq j i || (mask1 [] p.after.toList).testBit i || o.apart ops p then bmask1 ops o i (j + 1) r else 2 ^ j ||| bmask1 ops o i (j + 1) r
def bmask (ops : Array Oper) (l : List Oper) : Nat → List Oper → List Nat
  | _, [] => []
  | i, o :: r => bmask1 ops o i 0 l :: bmask ops l (i + 1) r

/-- Which operation is taken first. -/
def pickQ (C : Cfg) (ops : Array Oper) (B : List Nat) (prot : List Nat) (L : Nat) (S : St) : List Nat → Option Nat
  | [] => none
  | i :: r => match ops[i]?, B[i]? with
    | some o, some b => bif (Nat.beq (b &&& L) b && (Nat.beq (tagOf C.ext o) 0 || (Nat.beq (tagOf C.ext o) 1 && (match yval C.P C.ext o { S with mem := protMem prot 0 S.mem } with | .val _ _ => true | _ => false))))
        then some i else pickQ C ops B prot L S r
    | _, _ => pickQ C ops B prot L S r

theorem pickQ_mem {ops : Array Oper} {B prot : List Nat} {L : Nat} {i : Nat} : ∀ {l : List Nat}, pickQ C ops B prot L S l = some i → i ∈ l ∧ ∃ b, B[i]? = some b ∧ b &&& L = b
  | [], h => by cases h
  | j :: r, h => by
    unfold pickQ at h
    split at h
    · rename_i o b ho hb
      unfold cond at h
      split at h
      · rename_i hc
        injection h with h
        subst h
        rw [Bool.and_eq_true] at hc
        exact ⟨by simp, b, hb, Nat.eq_of_beq_eq_true hc.1⟩
      · have := pickQ_mem h
        exact ⟨by simp [this.1], this.2⟩
    · have := pickQ_mem h
      exact ⟨by simp [this.1], this.2⟩

theorem bit_sub {d L : Nat} (h : d &&& L = d) {i : Nat} (hi : d.testBit i = true) : L.testBit i = true := by
  rw [← h, Nat.testBit_and, Bool.and_eq_true] at hi
  exact hi.2

theorem mask1_nil_bit (e : Edge) (hb : Region.binds .any e = true) : ∀ (l : List Edge), e ∈ l → (mask1 [] l).testBit e.on = true
  | [], h => by cases h
  | f :: r, h => by
    unfold mask1
    rcases List.mem_cons.1 h with rfl | h
    · rw [hb, cond_true, Nat.testBit_or, Nat.testBit_or]
      simp
    · have ih := mask1_nil_bit e hb r h
      cases Region.binds .any f
      · exact ih
      · rw [cond_true, Nat.testBit_or, ih]; rfl

theorem mask1_nil_spec {l : List Edge} {i : Nat} (h : (mask1 [] l).testBit i = true) : ∃ e ∈ l, Region.binds .any e = true ∧ e.on = i := by
  obtain ⟨e, he, hb, hor⟩ := mask1_spec [] i l h
  rcases hor with h1 | h1
  · exact ⟨e, he, hb, h1⟩
  · simp at h1

theorem mem_readyL {L j : Nat} : ∀ {D : List Nat} {i : Nat}, j ∈ readyL L i D ↔ ∃ k d, j = i + k ∧ D[k]? = some d ∧ L.testBit j = false ∧ d &&& L = d
  | [], i => by simp [readyL]
  | d :: r, i => by
    have ih := mem_readyL (L := L) (j := j) (D := r) (i := i + 1)
    have step : (∃ k e, j = i + k ∧ (d :: r)[k]? = some e ∧ L.testBit j = false ∧ e &&& L = e) ↔ (j = i ∧ L.testBit j = false ∧ d &&& L = d) ∨ (∃ k e, j = i + 1 + k ∧ r[k]? = some e ∧ L.testBit j = false ∧ e &&& L = e) := by
      constructor
      · rintro ⟨k, e, hj, he, h1, h2⟩
        cases k with
        | zero =>
          simp at he
          subst he
          exact .inl ⟨by omega, h1, h2⟩
        | succ k => exact .inr ⟨k, e, by omega, by simpa using he, h1, h2⟩
      · rintro (⟨hj, h1, h2⟩ | ⟨k, e, hj, he, h1, h2⟩)
        · exact ⟨0, d, by omega, rfl, h1, h2⟩
        · exact ⟨k + 1, e, by omega, by simpa using he, h1, h2⟩
    rw [step, ← ih, readyL]
    cases hc : (!(L.testBit i) && Nat.beq (d &&& L) d)
    · simp only [cond_false]
      constructor
      · exact .inr
      · rintro (⟨rfl, h1, h2⟩ | h)
        · simp [h1, h2] at hc
        · exact h
    · simp only [cond_true, List.mem_cons]
      rw [Bool.and_eq_true] at hc
      have h1 : L.testBit i = false := by simpa using hc.1
      have h2 := Nat.eq_of_beq_eq_true hc.2
      constructor
      · rintro (rfl | h)
        · exact .inl ⟨rfl, h1, h2⟩
        · exact .inr h
      · rintro (⟨rfl, _, _⟩ | h)
        · exact .inl rfl
        · exact .inr h

/-- The bits say what the array says. -/
structure Lst (n L : Nat) (listed : Array Bool) : Prop where
  size : listed.size = n
  bit : ∀ j, listed.getD j false = L.testBit j

theorem Lst.set {n L : Nat} {listed : Array Bool} (h : Lst n L listed) {i : Nat} (hi : i < n) : Lst n (L ||| 2 ^ i) (listed.setIfInBounds i true) := by
  refine ⟨by simp [h.size], fun j => ?_⟩
  rw [Nat.testBit_or, Nat.testBit_two_pow]
  by_cases hij : i = j
  · subst hij
    simp [h.size, hi]
  · rw [getD_set_ne false hij, h.bit]
    simp [hij]

theorem ready_iff {ops : Array Oper} {n L : Nat} {listed : Array Bool} (hn : ops.size = n) (h : Lst n L listed) (j : Nat) :
    j ∈ Region.ready .any ops listed ↔ j ∈ readyL L 0 (dmask ops.toList) := by
  rw [mem_ready, mem_readyL]
  have flip : ∀ j, j < n → listed.getD j true = listed.getD j false := fun j hj => getD_flip (by rw [h.size]; exact hj)
  constructor
  · rintro ⟨h0, o, ho, hall⟩
    have hlt := (Array.getElem?_eq_some_iff.1 ho).1
    refine ⟨j, mask1 [] o.after.toList, by omega, ?_, ?_, ?_⟩
    · simp only [dmask, List.getElem?_map]
      rw [Array.getElem?_toList, ho]; rfl
    · rw [← h.bit, ← flip j (by omega)]; exact h0
    · apply Nat.eq_of_testBit_eq
      intro i
      rw [Nat.testBit_and]
      cases hb : (mask1 [] o.after.toList).testBit i
      · rfl
      · obtain ⟨e, he, hbi, rfl⟩ := mask1_nil_spec hb
        have := hall e (by simpa using he) hbi
        rw [h.bit] at this
        rw [this]; rfl
  · rintro ⟨k, d, rfl, hd, h1, h2⟩
    rw [Nat.zero_add] at *
    simp only [dmask, List.getElem?_map] at hd
    cases ho : ops[k]? with
    | none =>
      rw [Array.getElem?_toList, ho] at hd
      cases hd
    | some o =>
      rw [Array.getElem?_toList, ho] at hd
      simp at hd
      subst hd
      have hlt := (Array.getElem?_eq_some_iff.1 ho).1
      refine ⟨by rw [flip k (by omega), h.bit]; exact h1, o, rfl, fun e he hb => ?_⟩
      rw [h.bit]
      exact bit_sub h2 (mask1_nil_bit e hb _ (by simpa using he))

theorem bmask1_bit {ops : Array Oper} {o : Oper} {i : Nat} : ∀ {l : List Oper} {j k : Nat} {p : Oper}, l[k]? = some p → (bmask1 ops o i j l).testBit (j + k) = false → j + k = i ∨ (mask1 [] p.after.toList).testBit i = true ∨ o.apart ops p = true
  | [], j, k, p, h, _ => by simp at h
  | q :: r, j, 0, p, h, hb => by
    simp at h
    subst h
    unfold bmask1 at hb
    cases hc : (Nat.beq j i || (mask1 [] q.after.toList).testBit i || o.apart ops q)
    · rw [hc, cond_false, Nat.testBit_or, Nat.testBit_two_pow] at hb
      simp at hb
    · rw [Bool.or_eq_true, Bool.or_eq_true] at hc
      rcases hc with (hc | hc) | hc
      · exact .inl (by have := Nat.eq_of_beq_eq_true hc; omega)
      · exact .inr (.inl hc)
      · exact .inr (.inr hc)
  | q :: r, j, k + 1, p, h, hb => by
    have e : j + (k + 1) = j + 1 + k := by omega
    rw [e] at hb ⊢
    refine bmask1_bit (l := r) (j := j + 1) (by simpa using h) ?_
    unfold bmask1 at hb
    cases hc : (Nat.beq j i || (mask1 [] q.after.toList).testBit i || o.apart ops q)
    · rw [hc, cond_false, Nat.testBit_or] at hb
      simp at hb
      exact hb.2
    · rw [hc, cond_true] at hb; exact hb

theorem bmask_get {ops : Array Oper} {l : List Oper} : ∀ {m : List Oper} {i k : Nat} {b : Nat} {o : Oper}, (bmask ops l i m)[k]? = some b → m[k]? = some o → b = bmask1 ops o (i + k) 0 l
  | [], _, _, _, _, h, _ => by simp [bmask] at h
  | p :: m, i, 0, b, o, h, ho => by simp [bmask] at h ho; subst h; subst ho; rfl
  | p :: m, i, k + 1, b, o, h, ho => by
    have := bmask_get (m := m) (i := i + 1) (k := k) (b := b) (o := o) (by simpa [bmask] using h) (by simpa using ho)
    rw [show i + (k + 1) = i + 1 + k from by omega]; exact this

def allT : List Tree → Tree
  | [] => .bad 22
  | [t] => t
  | t :: r => .both t (allT r)
theorem allT_holds : ∀ {l : List Tree}, (allT l).holds A env → ∀ t ∈ l, t.holds A env
  | [], h, _, _ => h.elim
  | [t], h, u, hu => by simp at hu; subst hu; exact h
  | t :: s :: r, ⟨h1, h2⟩, u, hu => by
    rcases List.mem_cons.1 hu with rfl | hu
    · exact h1
    · exact allT_holds h2 u hu

def xany (C : Cfg) (xc : Nat → List SV → St → (SV → St → Tree) → Tree) (ops : Array Oper) (D B : List Nat) (prot : List Nat) (mem0 : List (List SC × Bool)) : Nat → Nat → St → (St → Tree) → Tree
  | 0, L, S, k => bif (readyL L 0 D).isEmpty then k S else .bad 23
  | n + 1, L, S, k =>
    bif (readyL L 0 D).isEmpty then k S else
    match pickQ C ops B prot L S (readyL L 0 D) with
    | some i => match ops[i]? with
      | some o => xguard ops o S (fun S1 => stepQ C prot o 2 S1 (fun S2 => xany C xc ops D B prot mem0 n (L ||| 2 ^ i) S2 k))
          (fun S1 => putK o.dst (.tt []) S1 (fun S2 => xany C xc ops D B prot mem0 n (L ||| 2 ^ i) S2 k))
      | none => .bad 24
    | none => allT ((readyL L 0 D).map fun i => match ops[i]? with
      | some o => xguard ops o S (fun S1 => xstep C xc o 2 S1 (fun S2 => bif sameB prot mem0 S2.mem then xany C xc ops D B prot mem0 n (L ||| 2 ^ i) S2 k else .bad 25))
          (fun S1 => putK o.dst (.tt []) S1 (fun S2 => xany C xc ops D B prot mem0 n (L ||| 2 ^ i) S2 k))
      | none => .bad 26)

theorem After.more {k : St → Tree} {K : Act → World → Prop} {env' : List Int} {β' : List (Nat × Nat)} (h : After A W0 Tp env β k K) (he : Longer env env') (hb : Longer β β') : After A W0 Tp env' β' k K :=
  fun S' e' b' a' w' he' hb' => h S' e' b' a' w' (he.trans he') (hb.trans hb')

theorem xany_ok (hE : Ext C.P C.ext) {xc : Nat → List SV → St → (SV → St → Tree) → Tree} (hxc : XcOk C A W0 Tp xc) {ops : Array Oper} {Q : Exit → Act → World → Prop} {k : St → Tree}
    (hsel : Region.noSelect ops = true) (hQ : Calm Q) {prot : List Nat} {env0 : List Int} {β0 : List (Nat × Nat)} {mem0 : List (List SC × Bool)} {w0 : World} (hM0 : MRel W0 Tp env0 β0 mem0 w0) :
    ∀ (n : Nat) (L : Nat) (listed : Array Bool) (S : St) (env : List Int) (β : List (Nat × Nat)) (a : Act) (w : World), Lst ops.size L listed → Longer env0 env → Longer β0 β → FRel env β S a → MRel W0 Tp env β S.mem w →
      sameB prot mem0 S.mem = true → (xany C xc ops (dmask ops.toList) (bmask ops ops.toList 0 ops.toList) prot mem0 n L S k).holds A env → After A W0 Tp env β k (Q .normal) →
      wpAnyH C.P .any ops Q (Holds β0 prot mem0 w0) n listed a w := by
  have nil_of : ∀ {L : Nat} {listed : Array Bool}, Lst ops.size L listed → (readyL L 0 (dmask ops.toList)).isEmpty = true → Region.ready .any ops listed = [] := by
    intro L listed hl h
    have h0 := List.isEmpty_iff.1 h
    apply List.eq_nil_iff_forall_not_mem.2
    intro j hj
    rw [ready_iff rfl hl, h0] at hj
    cases hj
  -- whoever holds at the start holds for the state at hand
  have now : ∀ {env : List Int} {β : List (Nat × Nat)} {mem : List (List SC × Bool)} {w : World}, Longer env0 env → Longer β0 β → MRel W0 Tp env β mem w → sameB prot mem0 mem = true →
      ∀ w', Holds β0 prot mem0 w0 w' → Holds β prot mem w w' := by
    intro env β mem w he hb hM hs w' hh r hr cs wr x hcs hx j hj
    have hw := holds_of hM0 hM he hb hs
    have h1 := List.all_eq_true.1 hs r hr
    simp only [hcs] at h1
    split at h1
    · rename_i cs0 wr0 ds wr' e1 e2
      injection e2 with e2
      injection e2 with e2 _
      subst e2
      have heq := listBeq_eq (fun _ _ => SC.beq_eq) h1
      subst heq
      obtain ⟨y, hy, _⟩ := hM0.cell r _ wr0 e1
      have hxy : y = x := by
        obtain ⟨b', rfl⟩ := hb
        rw [get_more hy b'] at hx
        injection hx
      subst hxy
      rw [hh r hr _ wr0 y e1 hy j hj, hw r hr _ wr0 y e1 hy j hj]
    · cases h1
  intro n
  induction n with
  | zero =>
    intro L listed S env β a w hl he hb hF hM hs h hk
    unfold xany at h
    cases hr : (readyL L 0 (dmask ops.toList)).isEmpty
    · simp only [hr, cond_false] at h; exact h.elim
    · simp only [hr, cond_true] at h
      exact wpAnyH_done (nil_of hl hr) (hk S env β a w (Longer.refl _) (Longer.refl _) hF hM h) 0
  | succ n ih =>
    intro L listed S env β a w hl he hb hF hM hs h hk
    have hS := holds_of hM0 hM he hb hs
    unfold xany at h
    cases hr : (readyL L 0 (dmask ops.toList)).isEmpty
    · simp only [hr, cond_false] at h
      have hne : Region.ready .any ops listed ≠ [] := by
        intro e
        have : readyL L 0 (dmask ops.toList) = [] := by
          apply List.eq_nil_iff_forall_not_mem.2
          intro j hj
          rw [← ready_iff rfl hl, e] at hj
          cases hj
        rw [this] at hr; cases hr
      split at h
      · rename_i i hi
        obtain ⟨him, b, hB, hsub⟩ := pickQ_mem hi
        have him : i ∈ Region.ready .any ops listed := (ready_iff rfl hl i).2 him
        have hfree : ∀ o, ops[i]? = some o → ∀ j oj, ops[j]? = some oj → j ≠ i → listed.getD j true = false → (∀ e ∈ oj.after, Region.binds .any e = true → e.on ≠ i) → o.apart ops oj = true := by
          intro o ho j oj hoj hne hun hno
          have hjlt := (Array.getElem?_eq_some_iff.1 hoj).1
          have hbe := bmask_get hB (show ops.toList[i]? = some o by rw [Array.getElem?_toList]; exact ho)
          rw [Nat.zero_add] at hbe
          have hnb : b.testBit j = false := by
            cases hbj : b.testBit j
            · rfl
            · have h1 := bit_sub hsub hbj
              rw [← hl.bit, ← getD_flip (by rw [hl.size]; exact hjlt), hun] at h1
              cases h1
          rw [hbe] at hnb
          have := bmask1_bit (j := 0) (k := j) (show ops.toList[j]? = some oj by rw [Array.getElem?_toList]; exact hoj) (by rw [Nat.zero_add]; exact hnb)
          rw [Nat.zero_add] at this
          rcases this with h1 | h1 | h1
          · exact absurd h1 hne
          · obtain ⟨e, he, hb, hon⟩ := mask1_nil_spec h1
            exact absurd hon (hno e (by simpa using he) hb)
          · exact h1
        split at h
        · rename_i o ho
          have hlt := (Array.getElem?_eq_some_iff.1 ho).1
          have take : ∀ {v : Value}, YieldsIf C.P ops (Holds β0 prot mem0 w0) o v a → wpAnyH C.P .any ops Q (Holds β0 prot mem0 w0) n (listed.setIfInBounds i true) (a.put o.dst v) w →
              wpAnyH C.P .any ops Q (Holds β0 prot mem0 w0) (n + 1) listed a w := fun hy hrest =>
            wpAnyH_first ho (Region.noSelect_spec hsel) (fun c a' w' hq => absurd hq (hQ.pan _ _ _)) n listed a w (hfree o ho) him hy hS hrest
          rcases xguard_cases hF h with ⟨S1, hF1, hm1, hw, h1⟩ | ⟨S1, hF1, hm1, hw, h1⟩
          · obtain ⟨u, S2, env2, he2, hF2, hm2, h2, hrun⟩ := stepQ_ok hE 2 S1 hF1 (by rw [hm1]; exact hM) h1
            have hMs : MRel W0 Tp env2 β S2.mem w := by
              obtain ⟨e', rfl⟩ := he2
              rw [hm2, hm1]; exact hM.more e'
            refine take (.inl ⟨hw a rfl, fun w' hh => hrun w' ?_⟩) (ih _ _ S2 env2 β _ w (hl.set hlt) (he.trans he2) hb hF2 hMs (by rw [hm2, hm1]; exact hs) h2 (hk.more he2 (Longer.refl _)))
            rw [hm1]
            exact now he hb hM hs w' hh
          · have hput : ∃ S2, FRel env β S2 (a.put o.dst undef) ∧ S2.mem = S1.mem ∧ (xany C xc ops (dmask ops.toList) (bmask ops ops.toList 0 ops.toList) prot mem0 n (L ||| 2 ^ i) S2 k).holds A env :=
              putK_ok (w := w) (K := fun a' _ => ∃ S2, FRel env β S2 a' ∧ S2.mem = S1.mem ∧ (xany C xc ops (dmask ops.toList) (bmask ops ops.toList 0 ops.toList) prot mem0 n (L ||| 2 ^ i) S2 k).holds A env) hF1 (v := .tt []) (u := undef) ⟨[], rfl, trivial⟩ h1
                (fun S' a' hF' hm hh => ⟨S', hF', hm, hh⟩)
            obtain ⟨S2, hF2, hm2, h2⟩ := hput
            exact take (.inr ⟨hw, rfl⟩) (ih _ _ S2 env β _ w (hl.set hlt) he hb hF2 (by rw [hm2, hm1]; exact hM) (by rw [hm2, hm1]; exact hs) h2 hk)
        · exact h.elim
      · refine wpAnyH_all rfl hne fun i hi => ?_
        have hT := allT_holds h _ (List.mem_map.2 ⟨i, (ready_iff rfl hl i).1 hi, rfl⟩)
        split at hT
        · rename_i o ho
          have hlt := (Array.getElem?_eq_some_iff.1 ho).1
          have hw1 : wpT C.P ops Q (tagOf C.ext o) o (fun a' w' => Holds β0 prot mem0 w0 w' ∧ wpAnyH C.P .any ops Q (Holds β0 prot mem0 w0) n (listed.setIfInBounds i true) a' w') a w := by
            rcases xguard_cases hF hT with ⟨S1, hF1, hm1, hw, h1⟩ | ⟨S1, hF1, hm1, hw, h1⟩
            · refine xstep_ok hE hxc hw 2 S1 hF1 (by rw [hm1]; exact hM) h1 ?_
              intro S2 env2 β2 a2 w2 he2 hb2 hF2 hM2 h2
              cases hsb : sameB prot mem0 S2.mem
              · simp only [hsb, cond_false] at h2; exact h2.elim
              · simp only [hsb, cond_true] at h2
                exact ⟨holds_of hM0 hM2 (he.trans he2) (hb.trans hb2) hsb, ih _ _ S2 env2 β2 a2 w2 (hl.set hlt) (he.trans he2) (hb.trans hb2) hF2 hM2 hsb h2 (hk.more he2 hb2)⟩
            · unfold wpT
              rw [if_neg (by rw [hw]; decide)]
              have hput : ∃ S2, FRel env β S2 (a.put o.dst undef) ∧ S2.mem = S1.mem ∧ (xany C xc ops (dmask ops.toList) (bmask ops ops.toList 0 ops.toList) prot mem0 n (L ||| 2 ^ i) S2 k).holds A env :=
                putK_ok (w := w) (K := fun a' _ => ∃ S2, FRel env β S2 a' ∧ S2.mem = S1.mem ∧ (xany C xc ops (dmask ops.toList) (bmask ops ops.toList 0 ops.toList) prot mem0 n (L ||| 2 ^ i) S2 k).holds A env) hF1 (v := .tt []) (u := undef) ⟨[], rfl, trivial⟩ h1
                  (fun S' a' hF' hm hh => ⟨S', hF', hm, hh⟩)
              obtain ⟨S2, hF2, hm2, h2⟩ := hput
              exact ⟨hS, ih _ _ S2 env β _ w (hl.set hlt) he hb hF2 (by rw [hm2, hm1]; exact hM) (by rw [hm2, hm1]; exact hs) h2 hk⟩
          exact wpT_wpOp ho hw1
        · exact hT.elim
    · simp only [hr, cond_true] at h
      exact wpAnyH_done (nil_of hl hr) (hk S env β a w (Longer.refl _) (Longer.refl _) hF hM h) (n + 1)

/-- The regions that the region's own stores don't name. -/
def protOf (ops : List Oper) (S : St) : List Nat :=
  (List.range S.mem.length).filter fun r => sameB [r] S.mem S.mem && !(ops.any fun o => match o.op with
    | .store _ ad _ => match xev S ad with
      | some (.ww (.cc (.pp r' _))) => Nat.beq r r'
      | _ => false
    | _ => false)

theorem protOf_same (ops : List Oper) (S : St) : sameB (protOf ops S) S.mem S.mem = true := by
  refine List.all_eq_true.2 fun r hr => ?_
  have h := (List.mem_filter.1 hr).2
  rw [Bool.and_eq_true] at h
  have h1 := h.1
  unfold sameB at h1
  exact List.all_eq_true.1 h1 r (by simp)
end
end Eng
