/-
  The walk by reckoning: its terms, states and steps. No conditions.
-/
import Derived.Orders
import Derived.Tactics
import Derived.WalkKit
import Derived.ChangeKeysEq
import Derived.Scope
import Derived.OrdersHeld
section
/-
  A region that draws its order: whatever order is drawn, the lexical one serves, if the operations that may change places are independent. Conditions: no panic leaves the region.
-/
namespace Eng
open Go

/-- Nothing is asked of a panic, nor of a run that outgrows: they do not happen. -/
structure Calm (Q : Exit → Act → World → Prop) : Prop where
  pan : ∀ c a w, ¬ Q (.panic c) a w
  out : ¬ LetsOut Q

section
variable {P : Program} {ops : Array Oper} {Q : Exit → Act → World → Prop}

/-- One operation, by its tag: 0 looks at its operands alone, 1 reads the world, else whatever. -/
def wpT (P : Program) (ops : Array Oper) (Q : Exit → Act → World → Prop) (t : Nat) (o : Oper) (K : Act → World → Prop) (a : Act) (w : World) : Prop :=
  if Region.wanted o (yielded ops a.tmps) = true then
    (match t with
     | 0 => ∃ v, (∀ w', (execOp a.eval o).run P w' = .ok (.value v) w') ∧ K (a.put o.dst v) w
     | 1 => ∃ v, (execOp a.eval o).run P w = .ok (.value v) w ∧ K (a.put o.dst v) w
     | _ => o.wp P a w K Q)
  else K (a.put o.dst undef) w

theorem wpT_wp {t : Nat} {o : Oper} {K : Act → World → Prop} {a : Act} {w : World} (hw : Region.wanted o (yielded ops a.tmps) = true)
    (h : wpT P ops Q t o K a w) : o.wp P a w K Q := by
  unfold wpT at h
  rw [if_pos hw] at h
  match t, h with
  | 0, ⟨v, hr, hk⟩ => unfold Oper.wp; rw [hr w]; exact hk
  | 1, ⟨v, hr, hk⟩ => unfold Oper.wp; rw [hr]; exact hk
  | _ + 2, h => exact h

theorem wpT_wpOp {i : Nat} {t : Nat} {o : Oper} {K : Act → World → Prop} {a : Act} {w : World} (hi : ops[i]? = some o)
    (h : wpT P ops Q t o K a w) : wpOp P ops Q i K a w := by
  unfold wpOp
  simp only [hi]
  by_cases hw : Region.wanted o (yielded ops a.tmps) = true
  · rw [if_pos hw]; exact .inl (wpT_wp hw h)
  · rw [if_neg hw]; unfold wpT at h; rw [if_neg hw] at h; exact h

theorem wpT_mono {t : Nat} {o : Oper} {K K' : Act → World → Prop} {a : Act} {w : World} (hk : ∀ a w, K a w → K' a w)
    (h : wpT P ops Q t o K a w) : wpT P ops Q t o K' a w := by
  unfold wpT at *
  split
  · rename_i hw
    rw [if_pos hw] at h
    match t, h with
    | 0, ⟨v, hr, h⟩ => exact ⟨v, hr, hk _ _ h⟩
    | 1, ⟨v, hr, h⟩ => exact ⟨v, hr, hk _ _ h⟩
    | _ + 2, h => exact Oper.wp_mono hk h
  · rename_i hw
    rw [if_neg hw] at h
    exact hk _ _ h

/-- It leaves v and changes nothing else. -/
def Still (P : Program) (ops : Array Oper) (t : Nat) (o : Oper) (a : Act) (w : World) (v : Value) : Prop :=
  (Region.wanted o (yielded ops a.tmps) = true ∧ ((t = 0 ∧ ∀ w', (execOp a.eval o).run P w' = .ok (.value v) w') ∨ (t = 1 ∧ (execOp a.eval o).run P w = .ok (.value v) w))) ∨
  (¬ Region.wanted o (yielded ops a.tmps) = true ∧ v = undef)

theorem Still.wpT {t : Nat} {o : Oper} {K : Act → World → Prop} {a : Act} {w : World} {v : Value} (h : Still P ops t o a w v) (hk : K (a.put o.dst v) w) :
    wpT P ops Q t o K a w := by
  unfold Eng.wpT
  rcases h with ⟨hw, ⟨rfl, h⟩ | ⟨rfl, h⟩⟩ | ⟨hw, rfl⟩
  · rw [if_pos hw]; exact ⟨v, h, hk⟩
  · rw [if_pos hw]; exact ⟨v, h, hk⟩
  · rw [if_neg hw]; exact hk

/-- Either still, or an operation of the third kind that is carried out. -/
theorem wpT_cases {t : Nat} {o : Oper} {K : Act → World → Prop} {a : Act} {w : World} (h : wpT P ops Q t o K a w) :
    (∃ v, Still P ops t o a w v ∧ K (a.put o.dst v) w) ∨ (Region.wanted o (yielded ops a.tmps) = true ∧ 2 ≤ t ∧ o.wp P a w K Q) := by
  unfold wpT at h
  split at h
  · rename_i hw
    match t, h with
    | 0, ⟨v, hr, h⟩ => exact .inl ⟨v, .inl ⟨hw, .inl ⟨rfl, hr⟩⟩, h⟩
    | 1, ⟨v, hr, h⟩ => exact .inl ⟨v, .inl ⟨hw, .inr ⟨rfl, hr⟩⟩, h⟩
    | _ + 2, h => exact .inr ⟨hw, by omega, h⟩
  · rename_i hw
    exact .inl ⟨undef, .inr ⟨hw, rfl⟩, h⟩

theorem wpT_eff {t : Nat} {o : Oper} {K : Act → World → Prop} {a : Act} {w : World} (hw : Region.wanted o (yielded ops a.tmps) = true) (ht : 2 ≤ t) (h : o.wp P a w K Q) :
    wpT P ops Q t o K a w := by
  unfold wpT
  rw [if_pos hw]
  match t, ht with
  | _ + 2, _ => exact h

theorem Still.of_same {t : Nat} {o : Oper} {v : Value} {a a' : Act} {w : World} (hy : Still P ops t o a w v) (he : execOp a'.eval o = execOp a.eval o)
    (hw : Region.wanted o (yielded ops a'.tmps) = Region.wanted o (yielded ops a.tmps)) : Still P ops t o a' w v := by
  unfold Still at *
  rw [he, hw]
  exact hy

/-- What looks at its operands alone is still in every world. -/
theorem Still.world {t : Nat} {o : Oper} {v : Value} {a : Act} {w w' : World} (hy : Still P ops t o a w v) (ht : t ≠ 1) : Still P ops t o a w' v := by
  rcases hy with ⟨hw, ⟨h0, h⟩ | ⟨h1, h⟩⟩ | hn
  · exact .inl ⟨hw, .inl ⟨h0, h⟩⟩
  · exact absurd h1 ht
  · exact .inr hn

theorem put_defers (a : Act) (x : Option Tmp) (v : Value) (d : Deferred) :
    ({ a.put x v with defers := d :: (a.put x v).defers } : Act) = ({ a with defers := d :: a.defers } : Act).put x v := by
  cases x <;> rfl

/-- Two neighbours change places. -/
theorem wpT_swap {oi oj : Oper} {ti tj : Nat} {K : Act → World → Prop} {a : Act} {w : World} (hap : oi.apart ops oj = true)
    (hsi : ∀ cs b, oi.op ≠ .select cs b) (hsj : ∀ cs b, oj.op ≠ .select cs b) (hind : ti = 0 ∨ tj = 0 ∨ (ti ≤ 1 ∧ tj ≤ 1)) (hQ : Calm Q)
    (h : wpT P ops Q ti oi (fun a' w' => wpT P ops Q tj oj K a' w') a w) : wpT P ops Q tj oj (fun a' w' => wpT P ops Q ti oi K a' w') a w := by
  obtain ⟨h1, h2, h3⟩ := Oper.apart_spec hap
  have ij : ∀ {b : Act} {v u : Value} {w : World}, Still P ops tj oj (b.put oi.dst v) w u → Still P ops tj oj b w u := fun hy =>
    hy.of_same (execOp_put oj hsj _ oi.dst _ h1).symm (wanted_put oj _ oi.dst _ h1).symm
  have ji : ∀ {b : Act} {v u : Value} {w : World}, Still P ops ti oi b w u → Still P ops ti oi (b.put oj.dst v) w u := fun hy =>
    hy.of_same (execOp_put oi hsi _ oj.dst _ h3) (wanted_put oi _ oj.dst _ h3)
  have ij' : ∀ {b : Act} {v u : Value} {w : World}, Still P ops tj oj b w u → Still P ops tj oj (b.put oi.dst v) w u := fun hy =>
    hy.of_same (execOp_put oj hsj _ oi.dst _ h1) (wanted_put oj _ oi.dst _ h1)
  rcases wpT_cases h with ⟨v, hi, hj⟩ | ⟨hwi, hti, hi⟩
  · rcases wpT_cases hj with ⟨u, hj, hk⟩ | ⟨hwj, htj, hj⟩
    · refine (ij hj).wpT ((ji hi).wpT ?_)
      rw [← Act.put_comm a v u h2]; exact hk
    · -- the second is of the third kind
      have hti : ti ≠ 1 := by omega
      have hwj' : Region.wanted oj (yielded ops a.tmps) = true := by rw [← hwj]; exact (wanted_put oj a oi.dst v h1).symm
      refine wpT_eff hwj' htj ?_
      unfold Oper.wp at *
      rw [execOp_put oj hsj a oi.dst v h1] at hj
      generalize (execOp a.eval oj).run P w = r at *
      have fin : ∀ (b : Act) (u : Value) (w' : World), Still P ops ti oi b w' v → K ((b.put oi.dst v).put oj.dst u) w' → wpT P ops Q ti oi K (b.put oj.dst u) w' := by
        intro b u w' hb hk
        have hb' : Still P ops ti oi (b.put oj.dst u) w' v := hb.of_same (execOp_put oi hsi b oj.dst u h3) (wanted_put oi b oj.dst u h3)
        exact hb'.wpT (by rw [← Act.put_comm b v u h2]; exact hk)
      cases r with
      | ok n w' =>
        cases n <;> simp only [Oper.upon] at hj ⊢
        case value u => exact fin _ _ _ (hi.world hti) hj
        case skip => exact fin _ _ _ (hi.world hti) hj
        case defer d =>
          refine fin _ _ _ ((hi.world hti).of_same rfl rfl) ?_
          rw [← put_defers]; exact hj
        case enter f args =>
          refine Calls.mono hj fun e w'' he => ?_
          cases e with
          | returned u => exact fin _ _ _ (hi.world hti) he
          | panicked c => exact absurd he (hQ.pan _ _ _)
          | outgrown => exact he
        case row row args => exact Rows.mono hj fun u w'' he => fin _ _ _ (hi.world hti) he
      | halt x w' =>
        cases x <;> simp only [Oper.upon] at hj ⊢
        case panic u => exact absurd hj (hQ.pan _ _ _)
  · -- the first is of the third kind: the second looks at its operands alone, or isn't wanted
    have htj : tj = 0 := by omega
    subst htj
    -- what the second leaves
    have step : ∀ {b : Act} {u : Value} {w' : World}, (∀ x, execOp (b.put oi.dst x).eval oj = execOp b.eval oj) → wpT P ops Q 0 oj K (b.put oi.dst u) w' →
        ∃ v, (∀ w'', Still P ops 0 oj b w'' v) := by
      intro b u w' _ hk
      rcases wpT_cases hk with ⟨v, hv, _⟩ | ⟨_, h2, _⟩
      · exact ⟨v, fun w'' => (ij hv).world (by omega)⟩
      · omega
    have fin : ∀ {b : Act} {u v : Value} {w' : World}, Still P ops 0 oj b w' v → wpT P ops Q 0 oj K (b.put oi.dst u) w' → K ((b.put oj.dst v).put oi.dst u) w' := by
      intro b u v w' hv hk
      have hv' : Still P ops 0 oj (b.put oi.dst u) w' v := ij' hv
      rcases wpT_cases hk with ⟨v', hv2, hk⟩ | ⟨_, h2, _⟩
      · have : v = v' := by
          rcases hv' with ⟨hw, ⟨_, h⟩ | ⟨h, _⟩⟩ | ⟨hw, rfl⟩
          · rcases hv2 with ⟨_, ⟨_, h'⟩ | ⟨h', _⟩⟩ | ⟨hw', _⟩
            · have := (h w).symm.trans (h' w)
              injection this with this
              injection this
            · omega
            · exact absurd hw hw'
          · omega
          · rcases hv2 with ⟨hw', _⟩ | ⟨_, rfl⟩
            · exact absurd hw' hw
            · rfl
        subst this
        rw [← Act.put_comm b u v h2]; exact hk
      · omega
    have keep : ∀ (b : Act) (x : Value), execOp (b.put oi.dst x).eval oj = execOp b.eval oj := fun b x => execOp_put oj hsj b oi.dst x h1
    have wi : ∀ (x : Value), Region.wanted oi (yielded ops (a.put oj.dst x).tmps) = true := fun x => by rw [wanted_put oi a oj.dst x h3]; exact hwi
    have get : ∃ v, ∀ w'', Still P ops 0 oj a w'' v := by
      have hi' := hi
      unfold Oper.wp at hi'
      generalize (execOp a.eval oi).run P w = r at *
      cases r with
      | ok n w' =>
        cases n <;> simp only [Oper.upon] at hi'
        case value u => exact step (keep a) hi'
        case skip => exact step (keep a) hi'
        case defer d =>
          obtain ⟨v, hv⟩ := step (b := { a with defers := d :: a.defers }) (keep _) hi'
          exact ⟨v, fun w'' => (hv w'').of_same rfl rfl⟩
        case enter f args =>
          obtain ⟨e, w'', _, hR, _⟩ := hi' []
          cases e with
          | returned u => exact step (keep a) hR
          | panicked c => exact absurd hR (hQ.pan _ _ _)
          | outgrown => exact absurd hR hQ.out
        case row row args =>
          obtain ⟨v, w'', hR, _⟩ := hi' default []
          exact step (keep a) hR
      | halt x w' =>
        cases x <;> simp only [Oper.upon] at hi'
        case panic u => exact absurd hi' (hQ.pan _ _ _)
    obtain ⟨v, hv⟩ := get
    refine (hv w).wpT ?_
    refine wpT_eff (wi v) hti ?_
    unfold Oper.wp at *
    rw [execOp_put oi hsi a oj.dst v h3]
    generalize (execOp a.eval oi).run P w = r at *
    cases r with
    | ok n w' =>
      cases n <;> simp only [Oper.upon] at hi ⊢
      case value u => exact fin (hv _) hi
      case skip => exact fin (hv _) hi
      case defer d =>
        rw [put_defers]
        exact fin ((hv _).of_same rfl rfl) hi
      case enter f args =>
        refine Calls.mono hi fun e w'' he => ?_
        cases e with
        | returned u => exact fin (hv _) he
        | panicked c => exact absurd he (hQ.pan _ _ _)
        | outgrown => exact he
      case row row args => exact Rows.mono hi fun u w'' he => fin (hv _) he
    | halt x w' =>
      cases x <;> simp only [Oper.upon] at hi ⊢
      case panic u => exact absurd hi (hQ.pan _ _ _)
end
end Eng
end
section
/-
  Whatever order a region draws, the lexical one serves: the theorem, and the Bool that the kernel reckons for a region.
-/
namespace Eng
open Go

section
variable {P : Program} {ops : Array Oper} {Q : Exit → Act → World → Prop} {tg : Oper → Nat}

/-- The operations of these numbers, in this order. -/
def lexT (P : Program) (ops : Array Oper) (Q : Exit → Act → World → Prop) (tg : Oper → Nat) : List Nat → Act → World → Prop
  | [], a, w => Q .normal a w
  | i :: rest, a, w => match ops[i]? with
    | none => False
    | some o => wpT P ops Q (tg o) o (lexT P ops Q tg rest) a w

def indepB (ops : Array Oper) (tg : Oper → Nat) (x y : Oper) : Bool :=
  x.apart ops y && (Nat.beq (tg x) 0 || Nat.beq (tg y) 0 || (Nat.ble (tg x) 1 && Nat.ble (tg y) 1))

theorem indepB_spec {x y : Oper} (h : indepB ops tg x y = true) : x.apart ops y = true ∧ (tg x = 0 ∨ tg y = 0 ∨ (tg x ≤ 1 ∧ tg y ≤ 1)) := by
  unfold indepB at h
  rw [Bool.and_eq_true] at h
  refine ⟨h.1, ?_⟩
  have h2 := h.2
  rw [Bool.or_eq_true, Bool.or_eq_true, Bool.and_eq_true] at h2
  rcases h2 with (h2 | h2) | ⟨h2, h3⟩
  · exact .inl (Nat.eq_of_beq_eq_true h2)
  · exact .inr (.inl (Nat.eq_of_beq_eq_true h2))
  · exact .inr (.inr ⟨Nat.le_of_ble_eq_true h2, Nat.le_of_ble_eq_true h3⟩)

theorem bubble {j : Nat} {oj : Oper} (hj : ops[j]? = some oj) (hsel : Region.noSelect ops = true) (hQ : Calm Q) (post : List Nat) :
    ∀ (pre : List Nat) (a : Act) (w : World), (∀ i ∈ pre, ∀ oi, ops[i]? = some oi → indepB ops tg oi oj = true) →
      lexT P ops Q tg (pre ++ j :: post) a w → lexT P ops Q tg (j :: (pre ++ post)) a w
  | [], _, _, _, h => h
  | i :: pre, a, w, hi, h => by
    simp only [List.cons_append, lexT] at h
    cases hoi : ops[i]? with
    | none => simp only [hoi] at h
    | some oi =>
      simp only [hoi] at h
      obtain ⟨hap, hind⟩ := indepB_spec (hi i (by simp) oi hoi)
      have h1 := wpT_mono (K' := fun a' w' => wpT P ops Q (tg oj) oj (lexT P ops Q tg (pre ++ post)) a' w') (fun a' w' h' => by
        have := bubble hj hsel hQ post pre a' w' (fun k hk ok hok => hi k (by simp [hk]) ok hok) h'
        simp only [lexT, hj] at this
        exact this) h
      have h2 := wpT_swap hap (fun cs b => Region.noSelect_spec hsel i oi cs b hoi) (fun cs b => Region.noSelect_spec hsel j oj cs b hj) hind hQ h1
      simp only [lexT, hj]
      refine wpT_mono (fun a' w' h' => ?_) h2
      simp only [List.cons_append, lexT, hoi]
      exact h'

theorem getD_replicate_false' (m j : Nat) : (Array.replicate m false).getD j false = false := by
  rcases Nat.lt_or_ge j m with h | h
  · simp [h]
  · simp [h]

structure Plan (ops : Array Oper) (tg : Oper → Nat) (anc : Nat → Nat → Bool) : Prop where
  sel : Region.noSelect ops = true
  small : ∀ j o, ops[j]? = some o → ∀ e ∈ o.after, Region.binds .any e = true → e.on < j
  reach : ∀ j o i, ops[j]? = some o → anc j i = true → ∃ e ∈ o.after, Region.binds .any e = true ∧ (e.on = i ∨ anc e.on i = true)
  ind : ∀ i j oi oj, i < j → ops[i]? = some oi → ops[j]? = some oj → anc j i = true ∨ indepB ops tg oi oj = true

structure Down (ops : Array Oper) (listed : Array Bool) : Prop where
  size : listed.size = ops.size
  closed : ∀ j o, ops[j]? = some o → listed.getD j false = true → ∀ e ∈ o.after, Region.binds .any e = true → listed.getD e.on false = true

theorem anc_listed {anc : Nat → Nat → Bool} (hp : Plan ops tg anc) {listed : Array Bool} (hd : Down ops listed) :
    ∀ (j : Nat) (o : Oper) (i : Nat), ops[j]? = some o → (∀ e ∈ o.after, Region.binds .any e = true → listed.getD e.on false = true) → anc j i = true → listed.getD i false = true := by
  intro j
  induction j using Nat.strongRecOn with
  | _ j ih =>
    intro o i ho hall ha
    obtain ⟨e, he, hb, hor⟩ := hp.reach j o i ho ha
    have hl := hall e he hb
    rcases hor with rfl | hr
    · exact hl
    · have hlt := hp.small j o ho e he hb
      have hsz : e.on < ops.size := by
        have := (Array.getElem?_eq_some_iff.1 ho).1
        omega
      exact ih e.on hlt ops[e.on] i (Array.getElem?_eq_getElem hsz) (hd.closed e.on _ (Array.getElem?_eq_getElem hsz) hl) hr

theorem getD_flip {listed : Array Bool} {i : Nat} (hi : i < listed.size) : listed.getD i true = listed.getD i false := by simp [hi]

theorem Down.set {listed : Array Bool} (hd : Down ops listed) {i : Nat} (hr : i ∈ Region.ready .any ops listed) : Down ops (listed.setIfInBounds i true) := by
  obtain ⟨_, oi, hoi, hall⟩ := mem_ready.1 hr
  refine ⟨by simp [hd.size], fun j oj hj hl e he hb => ?_⟩
  by_cases hij : i = j
  · subst hij
    have : oj = oi := Option.some.inj (hj.symm.trans hoi)
    subst this
    exact getD_set_true (hall e he hb)
  · rw [getD_set_ne false hij] at hl
    exact getD_set_true (hd.closed j oj hj hl e he hb)

theorem lex_any {anc : Nat → Nat → Bool} (hp : Plan ops tg anc) (hQ : Calm Q) :
    ∀ (n : Nat) (listed : Array Bool) (rem : List Nat) (a : Act) (w : World), rem.length = n → rem.Pairwise (· < ·) →
      (∀ i, i ∈ rem ↔ (i < ops.size ∧ listed.getD i false = false)) → Down ops listed → lexT P ops Q tg rem a w → wpAny P .any ops Q n listed a w := by
  intro n
  induction n with
  | zero =>
    intro listed rem a w hlen _ hmem hd h
    have hrem : rem = [] := List.eq_nil_of_length_eq_zero hlen
    subst hrem
    refine ⟨?_, h⟩
    apply List.eq_nil_iff_forall_not_mem.2
    intro i hi
    obtain ⟨h0, o, ho, _⟩ := mem_ready.1 hi
    have hlt := (Array.getElem?_eq_some_iff.1 ho).1
    have : i ∈ ([] : List Nat) := (hmem i).2 ⟨hlt, by rw [← getD_flip (by rw [hd.size]; exact hlt)]; exact h0⟩
    cases this
  | succ n ih =>
    intro listed rem a w hlen hsort hmem hd h
    refine ⟨fun hnil => ?_, fun j hj => ?_⟩
    · -- the first that is left is ready
      exfalso
      match rem, hlen with
      | i :: rest, _ =>
      have hi := (hmem i).1 (by simp)
      have : i ∈ Region.ready .any ops listed := by
        refine mem_ready.2 ⟨by rw [getD_flip (by rw [hd.size]; exact hi.1)]; exact hi.2, ops[i]'hi.1, Array.getElem?_eq_getElem hi.1, fun e he hb => ?_⟩
        have hlt := hp.small i _ (Array.getElem?_eq_getElem hi.1) e he hb
        cases hl : listed.getD e.on false with
        | true => rfl
        | false =>
          have hm := (hmem e.on).2 ⟨by omega, hl⟩
          rw [List.pairwise_cons] at hsort
          rcases List.mem_cons.1 hm with h1 | h1
          · omega
          · have := hsort.1 _ h1
            omega
      rw [hnil] at this
      cases this
    · obtain ⟨h0, oj, hoj, hall⟩ := mem_ready.1 hj
      have hlt := (Array.getElem?_eq_some_iff.1 hoj).1
      have hjm : j ∈ rem := (hmem j).2 ⟨hlt, by rw [← getD_flip (by rw [hd.size]; exact hlt)]; exact h0⟩
      obtain ⟨pre, post, rfl⟩ := List.append_of_mem hjm
      have hpw := List.pairwise_append.1 hsort
      have hb := bubble (tg := tg) hoj hp.sel hQ post pre a w (fun i hi oi hoi => by
        have hij : i < j := hpw.2.2 i hi j (by simp)
        rcases hp.ind i j oi oj hij hoi hoj with ha | hind
        · have h1 := anc_listed hp hd j oj i hoj hall ha
          have h2 := (hmem i).1 (by simp [hi])
          rw [h2.2] at h1
          cases h1
        · exact hind) h
      simp only [lexT, hoj] at hb
      refine wpOp_mono (fun a' w' h' => ?_) (wpT_wpOp hoj hb)
      refine ih (listed.setIfInBounds j true) (pre ++ post) a' w' (by simp at hlen ⊢; omega) ?_ ?_ (hd.set hj) h'
      · refine List.pairwise_append.2 ⟨hpw.1, (List.pairwise_cons.1 hpw.2.1).2, fun x hx y hy => hpw.2.2 x hx y (by simp [hy])⟩
      · intro i
        have hm := hmem i
        by_cases hij : i = j
        · subst hij
          constructor
          · intro hi
            exfalso
            rcases List.mem_append.1 hi with h1 | h1
            · have := hpw.2.2 i h1 i (by simp)
              omega
            · have := (List.pairwise_cons.1 hpw.2.1).1 i h1
              omega
          · rintro ⟨_, h2⟩
            have : (listed.setIfInBounds i true).getD i false = true := by simp [hd.size, hlt]
            rw [this] at h2
            cases h2
        · rw [getD_set_ne false (Ne.symm hij), ← hm]
          simp [hij]

/-- What each operation waits for, directly or through others, as bits. -/
def mask1 (acc : List Nat) : List Edge → Nat
  | [] => 0
  | e :: r => bif Region.binds .any e then mask1 acc r ||| (2 ^ e.on ||| acc.getD e.on 0) else mask1 acc r
def masks : List Oper → List Nat → List Nat
  | [], acc => acc
  | o :: r, acc => masks r (acc ++ [mask1 acc o.after.toList])

theorem mask1_spec (acc : List Nat) (i : Nat) : ∀ (l : List Edge), (mask1 acc l).testBit i = true → ∃ e ∈ l, Region.binds .any e = true ∧ (e.on = i ∨ (acc.getD e.on 0).testBit i = true)
  | [], h => by simp [mask1] at h
  | e :: r, h => by
    unfold mask1 at h
    cases hb : Region.binds .any e
    · rw [hb, cond_false] at h
      obtain ⟨e', he', h'⟩ := mask1_spec acc i r h
      exact ⟨e', by simp [he'], h'⟩
    · rw [hb, cond_true, Nat.testBit_or, Nat.testBit_or, Bool.or_eq_true, Bool.or_eq_true] at h
      rcases h with h | h | h
      · obtain ⟨e', he', h'⟩ := mask1_spec acc i r h
        exact ⟨e', by simp [he'], h'⟩
      · refine ⟨e, by simp, hb, .inl ?_⟩
        rw [Nat.testBit_two_pow] at h
        simpa using h
      · exact ⟨e, by simp, hb, .inr h⟩

theorem masks_pre : ∀ (l : List Oper) (acc : List Nat), ∃ t, masks l acc = acc ++ t
  | [], acc => ⟨[], by simp [masks]⟩
  | o :: r, acc => by
    obtain ⟨t, ht⟩ := masks_pre r (acc ++ [mask1 acc o.after.toList])
    exact ⟨mask1 acc o.after.toList :: t, by rw [masks, ht]; simp⟩

theorem masks_get : ∀ (l : List Oper) (acc : List Nat) (j : Nat) (o : Oper), l[j]? = some o →
    (masks l acc).getD (acc.length + j) 0 = mask1 ((masks l acc).take (acc.length + j)) o.after.toList
  | [], _, _, _, h => by simp at h
  | o' :: r, acc, 0, o, h => by
    have : o' = o := by simpa using h
    subst this
    obtain ⟨t, ht⟩ := masks_pre r (acc ++ [mask1 acc o'.after.toList])
    rw [masks, ht]
    simp
  | o' :: r, acc, j + 1, o, h => by
    have := masks_get r (acc ++ [mask1 acc o'.after.toList]) j o (by simpa using h)
    rw [masks]
    rw [List.length_append, List.length_singleton] at this
    rw [show acc.length + (j + 1) = acc.length + 1 + j from by omega]
    exact this

def planB (ops : Array Oper) (tg : Oper → Nat) (m : List Nat) : Bool :=
  Region.noSelect ops && (List.range ops.size).all fun j => match ops[j]? with
    | none => true
    | some oj => (oj.after.toList.all fun e => !Region.binds .any e || Nat.blt e.on j) &&
      (List.range j).all fun i => (m.getD j 0).testBit i || match ops[i]? with
        | none => true
        | some oi => indepB ops tg oi oj

theorem plan_of {l : List Oper} (h : planB l.toArray tg (masks l []) = true) : Plan l.toArray tg (fun j i => ((masks l []).getD j 0).testBit i) := by
  unfold planB at h
  rw [Bool.and_eq_true] at h
  obtain ⟨h1, h2⟩ := h
  have small : ∀ j o, l.toArray[j]? = some o → ∀ e ∈ o.after, Region.binds .any e = true → e.on < j := by
    intro j o ho e he hb
    have hlt := (Array.getElem?_eq_some_iff.1 ho).1
    have h3 := List.all_eq_true.1 h2 j (List.mem_range.2 hlt)
    simp only [ho, Bool.and_eq_true, List.all_eq_true] at h3
    have h4 := h3.1 e (by simpa using he)
    simp only [hb, Bool.not_true, Bool.false_or, Nat.blt_eq] at h4
    exact h4
  refine ⟨h1, small, ?_, ?_⟩
  · intro j o i ho ha
    have hg := masks_get l [] j o (by simpa using ho)
    simp only [List.length_nil, Nat.zero_add] at hg
    simp only [hg] at ha
    obtain ⟨e, he, hb, hor⟩ := mask1_spec _ _ _ ha
    refine ⟨e, by simpa using he, hb, ?_⟩
    rcases hor with h | h
    · exact .inl h
    · right
      have hlt := small j o ho e (by simpa using he) hb
      simpa [List.getD_eq_getElem?_getD, List.getElem?_take, hlt] using h
  · intro i j oi oj hij hoi hoj
    have hlt := (Array.getElem?_eq_some_iff.1 hoj).1
    have h3 := List.all_eq_true.1 h2 j (List.mem_range.2 hlt)
    simp only [hoj, Bool.and_eq_true, List.all_eq_true] at h3
    have h4 := h3.2 i (List.mem_range.2 hij)
    rw [Bool.or_eq_true] at h4
    rcases h4 with h4 | h4
    · exact .inl h4
    · simp only [hoi] at h4; exact .inr h4

/-- THE LEXICAL ORDER, AS A LIST OF OPERATIONS. -/
def listT (P : Program) (ops : Array Oper) (Q : Exit → Act → World → Prop) (tg : Oper → Nat) : List Oper → Act → World → Prop
  | [], a, w => Q .normal a w
  | o :: rest, a, w => wpT P ops Q (tg o) o (listT P ops Q tg rest) a w

theorem lexT_of_listT : ∀ (l : List Oper) (k : Nat) (a : Act) (w : World), (∀ j, l[j]? = ops[k + j]?) → listT P ops Q tg l a w → lexT P ops Q tg (List.range' k l.length) a w
  | [], _, _, _, _, h => h
  | o :: l, k, a, w, hl, h => by
    have h0 : ops[k]? = some o := by simpa using (hl 0).symm
    simp only [List.length_cons, List.range'_succ, lexT, h0]
    exact wpT_mono (fun a' w' h' => lexT_of_listT l (k + 1) a' w' (fun j => by have := hl (j + 1); simpa [Nat.add_assoc, Nat.add_comm 1 j] using this) h') h

theorem wpOps_of_lexT : ∀ (l : List Nat) (a : Act) (w : World), lexT P ops Q tg l a w → wpOps P ops Q l a w
  | [], _, _, h => h
  | i :: l, a, w, h => by
    rw [wpOps_cons]
    cases hoi : ops[i]? with
    | none => simp only [lexT, hoi] at h
    | some oi =>
      simp only [lexT, hoi] at h
      exact wpT_wpOp hoi (wpT_mono (fun a' w' h' => wpOps_of_lexT l a' w' h') h)

/-- A region that does not draw. -/
theorem region_still {id : Nat} {l : List Oper} {a : Act} {w : World} (h : listT P l.toArray Q tg l a w) : (Code.region id l.toArray false).wp P Q a w := by
  apply wp_region
  have := wpOps_of_lexT _ a w (lexT_of_listT (ops := l.toArray) l 0 a w (fun j => by simp) h)
  rw [List.range_eq_range']
  simpa using this

/-- A region that draws. -/
theorem region_draw {id : Nat} {l : List Oper} {a : Act} {w : World} (hm : P.follows .mixedOrders = true) (hc : planB l.toArray tg (masks l []) = true) (hQ : Calm Q)
    (h : listT P l.toArray Q tg l a { w with drawn := w.drawn + 1 }) : (Code.region id l.toArray true).wp P Q a w := by
  apply wp_region_any hm
  have h1 := lexT_of_listT (ops := l.toArray) l 0 a _ (fun j => by simp) h
  rw [← List.range_eq_range'] at h1
  refine lex_any (plan_of hc) hQ l.toArray.size (Array.replicate l.toArray.size false) (List.range l.length) a _ (by simp) List.pairwise_lt_range ?_ ⟨by simp, ?_⟩ h1
  · intro i
    simp only [List.mem_range, List.size_toArray, getD_replicate_false', and_true]
  · intro j o _ hl
    rw [getD_replicate_false'] at hl
    cases hl
end
end Eng
end
section
/-
  The symbolic values of the walk by reckoning: integers by their places in a list, pointers by regions; what they stand for.
-/
namespace Eng
open Go

/-! ### integers that fit their kind -/
def fits (k : IntKind) (n : Int) : Prop := k.wrap n = n

theorem wrap_i8 (n : Int) : IntKind.i8.wrap n = (n + 128) % 256 - 128 := by
  simp [IntKind.wrap, IntKind.bits, IntKind.signed]
  split <;> omega
theorem wrap_i16 (n : Int) : IntKind.i16.wrap n = (n + 32768) % 65536 - 32768 := by
  simp [IntKind.wrap, IntKind.bits, IntKind.signed]
  split <;> omega

def kMin : IntKind → Int
  | .i8 => -128 | .i16 => -32768 | .i32 => -2147483648 | .i64 => -9223372036854775808 | _ => 0
def kMax : IntKind → Int
  | .i8 => 127 | .i16 => 32767 | .i32 => 2147483647 | .i64 => 9223372036854775807
  | .u8 => 255 | .u16 => 65535 | .u32 => 4294967295 | .u64 => 18446744073709551615

theorem fits_iff (k : IntKind) (n : Int) : fits k n ↔ kMin k ≤ n ∧ n ≤ kMax k := by
  unfold fits
  cases k <;> simp only [wrap_i8, wrap_i16, IntKind.wrap_i32, IntKind.wrap_i64, IntKind.wrap_u8, IntKind.wrap_u16, IntKind.wrap_u32, IntKind.wrap_u64, kMin, kMax] <;> omega

theorem fits_wrap (k : IntKind) (n : Int) : fits k (k.wrap n) := by
  rw [fits_iff]
  cases k <;> simp only [wrap_i8, wrap_i16, IntKind.wrap_i32, IntKind.wrap_i64, IntKind.wrap_u8, IntKind.wrap_u16, IntKind.wrap_u32, IntKind.wrap_u64, kMin, kMax] <;> omega

theorem kMin_le (k : IntKind) : kMin k ≤ 0 := by cases k <;> decide
theorem kMax_ge (k : IntKind) : 0 ≤ kMax k := by cases k <;> decide

theorem fits_fdiv {k : IntKind} {n : Int} (h : fits k n) (d : Int) (hd : 0 < d) : fits k (n.fdiv d) := by
  rw [fits_iff] at *
  have h1 := kMin_le k
  have h2 := kMax_ge k
  rw [Int.fdiv_eq_ediv_of_nonneg _ (by omega)]
  constructor
  · rcases Int.le_total 0 n with h0 | h0
    · exact Int.le_trans h1 (Int.ediv_nonneg h0 (by omega))
    · refine Int.le_trans h.1 ?_
      exact (Int.le_ediv_iff_mul_le hd).2 (by
        have := Int.mul_le_mul_of_nonpos_left (show n ≤ 0 from h0) (show (1 : Int) ≤ d by omega)
        omega)
  · rcases Int.le_total 0 n with h0 | h0
    · exact Int.le_trans (Int.ediv_le_self d h0) h.2
    · exact Int.le_trans (Int.ediv_nonpos_of_nonpos_of_neg h0 hd) h2

theorem fits_tmod {k : IntKind} {n : Int} (h : fits k n) (d : Int) : fits k (n.tmod d) := by
  rw [fits_iff] at *
  have h1 := kMin_le k
  have h2 := kMax_ge k
  have h3 : (n.tmod d).natAbs ≤ n.natAbs := by rw [Int.natAbs_tmod]; exact Nat.mod_le _ _
  rcases Int.le_total 0 n with h0 | h0
  · have a1 := Int.tmod_nonneg d h0
    omega
  · have e : n.tmod d = -((-n).tmod d) := by rw [Int.neg_tmod, Int.neg_neg]
    have a1 := Int.tmod_nonneg d (show 0 ≤ -n by omega)
    omega

/-! ### the operations on integers -/
inductive IOp where
  | bin (op : BinOp) (k : IntKind)
  | cmp (op : BinOp)
  | conv (k : IntKind)
  | addS | addC | subD | subB
  | notB
  | eqs (n : Nat)
  | mulH | mulL
  | mx | mn
  deriving DecidableEq

def b01 (b : Bool) : Int := if b then 1 else 0

def binEv (op : BinOp) (k : IntKind) (x y : Int) : Int :=
  match op with
  | .add => k.wrap (x + y)
  | .sub => k.wrap (x - y)
  | .mul => k.wrap (x * y)
  | .quo => k.wrap (x.tdiv y)
  | .rem => x.tmod y
  | .and => k.wrap ((BitVec.ofInt k.bits x &&& BitVec.ofInt k.bits y).toNat)
  | .or => k.wrap ((BitVec.ofInt k.bits x ||| BitVec.ofInt k.bits y).toNat)
  | .xor => k.wrap ((BitVec.ofInt k.bits x ^^^ BitVec.ofInt k.bits y).toNat)
  | .andNot => k.wrap ((BitVec.ofInt k.bits x &&& ~~~(BitVec.ofInt k.bits y)).toNat)
  | .shl => k.wrap (x * 2 ^ (min y.toNat k.bits))
  | .shr => x.fdiv (2 ^ (min y.toNat k.bits))
  | _ => 0

def cmpEv (op : BinOp) (x y : Int) : Bool :=
  match op with
  | .eql => x == y
  | .neq => x != y
  | .lss => decide (x < y)
  | .leq => decide (x ≤ y)
  | .gtr => decide (x > y)
  | .geq => decide (x ≥ y)
  | _ => false

def eqsEv : Nat → List Int → Bool
  | 0, _ => true
  | n + 1, l => (l.getD 0 0 == l.getD (n + 1) 0) && eqsEv n (l.tail.eraseIdx n)

def IOp.ev : IOp → List Int → Int
  | .bin op k, l => binEv op k (l.getD 0 0) (l.getD 1 0)
  | .cmp op, l => b01 (cmpEv op (l.getD 0 0) (l.getD 1 0))
  | .conv k, l => k.wrap (l.getD 0 0)
  | .addS, l => (((l.getD 0 0).toNat + (l.getD 1 0).toNat + (l.getD 2 0).toNat) % 18446744073709551616 : Nat)
  | .addC, l => b01 (decide (18446744073709551616 ≤ (l.getD 0 0).toNat + (l.getD 1 0).toNat + (l.getD 2 0).toNat))
  | .subD, l => (((l.getD 0 0).toNat + 18446744073709551616 - (l.getD 1 0).toNat - (l.getD 2 0).toNat) % 18446744073709551616 : Nat)
  | .subB, l => b01 (decide ((l.getD 0 0).toNat < (l.getD 1 0).toNat + (l.getD 2 0).toNat))
  | .notB, l => 1 - l.getD 0 0
  | .eqs n, l => b01 ((l.take n) == (l.drop n))
  | .mulH, l => l.getD 0 0 * l.getD 1 0 / 18446744073709551616
  | .mulL, l => l.getD 0 0 * l.getD 1 0 % 18446744073709551616
  | .mx, l => if l.getD 1 0 > l.getD 0 0 then l.getD 1 0 else l.getD 0 0
  | .mn, l => if l.getD 1 0 < l.getD 0 0 then l.getD 1 0 else l.getD 0 0

/-- Its result is 0 or 1. -/
def IOp.bit : IOp → Bool
  | .cmp _ | .addC | .subB | .eqs _ => true
  | _ => false

/-! ### symbolic values -/
inductive SI where
  | lit (n : Int)
  | var (x : Nat)
inductive SB where
  | lit (b : Bool)
  | var (x : Nat)
inductive SC where
  | ii (k : IntKind) (e : SI)
  | bb (e : SB)
  | pp (r o : Nat)
  | ss (r o len cap : Nat)
  | kk (v : Value)
inductive SW where
  | cc (x : SC)
  | aa (l : List SC)
inductive SV where
  | ww (x : SW)
  | tt (l : List SW)

def All2 {α β : Type} (R : α → β → Prop) : List α → List β → Prop
  | [], [] => True
  | x :: xs, y :: ys => R x y ∧ All2 R xs ys
  | _, _ => False

section all2
variable {α β : Type} {R R' : α → β → Prop}
theorem All2.mono (h : ∀ x y, R x y → R' x y) : ∀ {l : List α} {m : List β}, All2 R l m → All2 R' l m
  | [], [], _ => trivial
  | _ :: _, _ :: _, ⟨h1, h2⟩ => ⟨h _ _ h1, All2.mono h h2⟩
theorem All2.length : ∀ {l : List α} {m : List β}, All2 R l m → l.length = m.length
  | [], [], _ => rfl
  | _ :: _, _ :: _, ⟨_, h2⟩ => by simp [All2.length h2]
theorem All2.get : ∀ {l : List α} {m : List β} {i : Nat} {x : α}, All2 R l m → l[i]? = some x → ∃ y, m[i]? = some y ∧ R x y
  | _ :: _, y :: _, 0, _, ⟨h1, _⟩, h => ⟨y, rfl, by simp at h; exact h ▸ h1⟩
  | _ :: _, _ :: _, i + 1, _, ⟨_, h2⟩, h => by
    obtain ⟨y, hy, hr⟩ := All2.get (i := i) h2 (by simpa using h)
    exact ⟨y, by simpa using hy, hr⟩
theorem All2.append : ∀ {l l' : List α} {m m' : List β}, All2 R l m → All2 R l' m' → All2 R (l ++ l') (m ++ m')
  | [], _, [], _, _, h => h
  | _ :: _, _, _ :: _, _, ⟨h1, h2⟩, h => ⟨h1, All2.append h2 h⟩
theorem All2.of_get : ∀ {l : List α} {f : Nat → β}, (∀ i x, l[i]? = some x → R x (f i)) → All2 R l ((List.range l.length).map f)
  | [], _, _ => trivial
  | x :: l, f, h => by
    rw [List.length_cons, List.range_succ_eq_map, List.map_cons, List.map_map]
    exact ⟨h 0 x rfl, All2.of_get (f := f ∘ Nat.succ) fun i x hx => h (i + 1) x (by simpa using hx)⟩
end all2

section den
variable (env : List Int) (β : List (Nat × Nat))
def SI.is : SI → Int → Prop
  | .lit n, m => m = n
  | .var x, m => env[x]? = some m
def SI.val : SI → Int
  | .lit n => n
  | .var x => env.getD x 0
def SB.is : SB → Bool → Prop
  | .lit b, t => t = b
  | .var x, t => env[x]? = some (b01 t)
def SB.si : SB → SI
  | .lit b => .lit (b01 b)
  | .var x => .var x
def SC.is : SC → Value → Prop
  | .ii k e, v => ∃ n, e.is env n ∧ fits k n ∧ v = .int k n
  | .bb e, v => ∃ t, e.is env t ∧ v = .bool t
  | .pp r o, v => ∃ x, β[r]? = some x ∧ v = .pointer (some ⟨x.1, x.2 + o, none⟩)
  | .ss r o len cap, v => ∃ x, β[r]? = some x ∧ v = .slice (some ⟨x.1, x.2 + o, none⟩) len cap
  | .kk u, v => v = u ∧ u.oneCell' = true
def SW.is : SW → Value → Prop
  | .cc x, v => x.is env β v
  | .aa l, v => ∃ vs, v = .agg vs.toArray ∧ All2 (SC.is env β) l vs
def SV.is : SV → Value → Prop
  | .ww x, v => x.is env β v
  | .tt l, v => ∃ vs, v = .tuple vs.toArray ∧ All2 (SW.is env β) l vs
end den

theorem SI.is.val {env : List Int} {e : SI} {n : Int} (h : e.is env n) : e.val env = n := by
  cases e with
  | lit m => exact h.symm
  | var x =>
    have h' : env[x]? = some n := h
    simp [SI.val, h']
theorem SB.is.si {env : List Int} {e : SB} {t : Bool} (h : e.is env t) : e.si.is env (b01 t) := by
  cases e with
  | lit b => have h' : t = b := h; subst h'; rfl
  | var x => exact h
theorem get_more {α : Type} {l : List α} {x : Nat} {v : α} (h : l[x]? = some v) (m : List α) : (l ++ m)[x]? = some v := by
  have hlt := (List.getElem?_eq_some_iff.1 h).1
  rw [List.getElem?_append_left hlt]; exact h
section more
variable {env : List Int} {β : List (Nat × Nat)} (e' : List Int) (β' : List (Nat × Nat))
theorem SI.is.more {e : SI} {n : Int} (h : e.is env n) : e.is (env ++ e') n := by
  cases e with
  | lit m => exact h
  | var x => exact get_more h e'
theorem SB.is.more {e : SB} {n : Bool} (h : e.is env n) : e.is (env ++ e') n := by
  cases e with
  | lit m => exact h
  | var x => exact get_more h e'
theorem SC.is.more {e : SC} {v : Value} (h : e.is env β v) : e.is (env ++ e') (β ++ β') v := by
  cases e with
  | ii k e => obtain ⟨n, h1, h2⟩ := h; exact ⟨n, h1.more e', h2⟩
  | bb e => obtain ⟨n, h1, h2⟩ := h; exact ⟨n, h1.more e', h2⟩
  | pp r o => obtain ⟨x, h1, h2⟩ := h; exact ⟨x, get_more h1 β', h2⟩
  | ss r o l c => obtain ⟨x, h1, h2⟩ := h; exact ⟨x, get_more h1 β', h2⟩
  | kk v => exact h
theorem SW.is.more {e : SW} {v : Value} (h : e.is env β v) : e.is (env ++ e') (β ++ β') v := by
  cases e with
  | cc x => exact SC.is.more (env := env) e' β' h
  | aa l => obtain ⟨vs, h1, h2⟩ := h; exact ⟨vs, h1, h2.mono fun _ _ h => h.more e' β'⟩
theorem SV.is.more {e : SV} {v : Value} (h : e.is env β v) : e.is (env ++ e') (β ++ β') v := by
  cases e with
  | ww x => exact SW.is.more (env := env) e' β' h
  | tt l => obtain ⟨vs, h1, h2⟩ := h; exact ⟨vs, h1, h2.mono fun _ _ h => h.more e' β'⟩
end more
theorem SC.is.one {env : List Int} {β : List (Nat × Nat)} {e : SC} {v : Value} (h : e.is env β v) : v.oneCell' = true := by
  cases e with
  | ii k e => obtain ⟨n, _, _, rfl⟩ := h; rfl
  | bb e => obtain ⟨n, _, rfl⟩ := h; rfl
  | pp r o => obtain ⟨x, _, rfl⟩ := h; rfl
  | ss r o l c => obtain ⟨x, _, rfl⟩ := h; rfl
  | kk u => exact h.1 ▸ h.2

/-- The cells of a value of one or several cells. -/
def SW.cells : SW → List SC
  | .cc x => [x]
  | .aa l => l
theorem SW.is.cells {env : List Int} {β : List (Nat × Nat)} {e : SW} {v : Value} (h : e.is env β v) : All2 (SC.is env β) e.cells v.cells.toList := by
  cases e with
  | cc x =>
    have h1 : x.is env β v := h
    have : v.cells = #[v] := by
      have := h1.one
      cases v <;> first | rfl | simp [Value.oneCell'] at this
    rw [this]
    exact ⟨h1, trivial⟩
  | aa l => obtain ⟨vs, rfl, h2⟩ := h; simpa [Value.cells, SW.cells] using h2

/-- A value that is known is written as a symbolic one. -/
def ofVal : Value → Option SC
  | .int k n => bif decide (k.wrap n = n) then some (.ii k (.lit n)) else none
  | .bool b => some (.bb (.lit b))
  | .agg _ => none
  | .tuple _ => none
  | v => some (.kk v)
theorem ofVal_is {env : List Int} {β : List (Nat × Nat)} {v : Value} {x : SC} (h : ofVal v = some x) : x.is env β v := by
  cases v with
  | int k n =>
    simp only [ofVal] at h
    cases hd : decide (k.wrap n = n)
    · simp [hd] at h
    · simp [hd] at h; subst h; exact ⟨n, rfl, (of_decide_eq_true hd : k.wrap n = n), rfl⟩
  | bool b => simp [ofVal] at h; subst h; exact ⟨b, rfl, rfl⟩
  | agg c => simp [ofVal] at h
  | tuple c => simp [ofVal] at h
  | _ => simp [ofVal] at h; subst h; exact ⟨rfl, rfl⟩
def ofVals : List Value → Option (List SC)
  | [] => some []
  | v :: r => match ofVal v, ofVals r with
    | some x, some l => some (x :: l)
    | _, _ => none
theorem ofVals_is {env : List Int} {β : List (Nat × Nat)} : ∀ {l : List Value} {m : List SC}, ofVals l = some m → All2 (SC.is env β) m l
  | [], m, h => by simp [ofVals] at h; subst h; trivial
  | v :: r, m, h => by
    unfold ofVals at h
    cases hv : ofVal v with
    | none => simp [hv] at h
    | some x =>
      cases hr : ofVals r with
      | none => simp [hv, hr] at h
      | some l => simp [hv, hr] at h; subst h; exact ⟨ofVal_is hv, ofVals_is hr⟩
end Eng
end
section
/-
  The state of the walk by reckoning, what it says of a frame and of a world, and how that is kept.
-/
namespace Eng
open Go Go.RowKit

structure St where
  nt : Nat
  tm : List (Nat × SV)
  fx : List (Nat × Bool)
  bt : List Nat
  mem : List (List SC × Bool)
  ne : Nat
  fn : Nat
  blk : Nat

def lk {α : Type} (d : Nat) : List (Nat × α) → Option α
  | [] => none
  | (k, v) :: r => bif Nat.beq k d then some v else lk d r

theorem lk_cons_same {α : Type} (d : Nat) (v : α) (r : List (Nat × α)) : lk d ((d, v) :: r) = some v := by
  simp only [lk, Nat.beq_refl, cond_true]
theorem lk_cons_ne {α : Type} {d k : Nat} (v : α) (r : List (Nat × α)) (h : k ≠ d) : lk d ((k, v) :: r) = lk d r := by
  have : Nat.beq k d = false := by
    cases hb : Nat.beq k d
    · rfl
    · exact absurd (Nat.eq_of_beq_eq_true hb) h
  simp only [lk, this, cond_false]

/-- What was there before stays as it was, but for the cells that Tp names. -/
structure Kept (W0 : World) (Tp : Nat → Nat → Prop) (w : World) : Prop where
  os : w.os = W0.os
  tape : w.tape = W0.tape
  output : w.output = W0.output
  size : W0.heap.size ≤ w.heap.size
  block : ∀ b, b < W0.heap.size → (∀ o, ¬ Tp b o) → w.heap[b]? = W0.heap[b]?
  cell : ∀ b o, b < W0.heap.size → ¬ Tp b o → w.cell? ⟨b, o, none⟩ = W0.cell? ⟨b, o, none⟩
  frozen : ∀ b o, b < W0.heap.size → w.frozen? ⟨b, o, none⟩ = W0.frozen? ⟨b, o, none⟩

theorem Kept.refl (W0 : World) (Tp : Nat → Nat → Prop) : Kept W0 Tp W0 :=
  ⟨rfl, rfl, rfl, Nat.le_refl _, fun _ _ _ => rfl, fun _ _ _ _ => rfl, fun _ _ _ => rfl⟩
theorem Kept.below {W0 w : World} (h : Kept W0 (fun _ _ => False) w) : Below W0.heap.size W0 w :=
  ⟨h.os, h.tape, h.output, h.size, fun b hb => h.block b hb fun _ => id⟩
theorem Kept.trans {W0 w w' : World} {Tp Tq : Nat → Nat → Prop} (h : Kept W0 Tp w) (k : Kept w Tq w') (hq : ∀ b o, b < W0.heap.size → Tq b o → Tp b o) : Kept W0 Tp w' :=
  ⟨k.os.trans h.os, k.tape.trans h.tape, k.output.trans h.output, Nat.le_trans h.size k.size,
    fun b hb hn => (k.block b (Nat.lt_of_lt_of_le hb h.size) fun o ho => hn o (hq b o hb ho)).trans (h.block b hb hn),
    fun b o hb hn => (k.cell b o (Nat.lt_of_lt_of_le hb h.size) fun ho => hn (hq b o hb ho)).trans (h.cell b o hb hn),
    fun b o hb => (k.frozen b o (Nat.lt_of_lt_of_le hb h.size)).trans (h.frozen b o hb)⟩
theorem Kept.drew {W0 w : World} {Tp : Nat → Nat → Prop} (h : Kept W0 Tp w) : Kept W0 Tp { w with drawn := w.drawn + 1 } :=
  ⟨h.os, h.tape, h.output, h.size, h.block, h.cell, h.frozen⟩
theorem Kept.alloc {W0 w : World} {Tp : Nat → Nat → Prop} (h : Kept W0 Tp w) (o : Obj) : Kept W0 Tp (w.alloc o) := by
  refine ⟨h.os, h.tape, h.output, Nat.le_trans h.size (by simp), fun b hb hn => ?_, fun b i hb hn => ?_, fun b i hb => ?_⟩
  · rw [Below.heap_alloc w o b (Nat.lt_of_lt_of_le hb h.size)]; exact h.block b hb hn
  · rw [World.cell?_alloc_lt w o _ (Nat.lt_of_lt_of_le hb h.size)]; exact h.cell b i hb hn
  · rw [World.frozen?_alloc_past o b i (Nat.lt_of_lt_of_le hb h.size)]; exact h.frozen b i hb
theorem Kept.setCell {W0 w : World} {Tp : Nat → Nat → Prop} (h : Kept W0 Tp w) (b o : Nat) (v : Value) (hp : W0.heap.size ≤ b ∨ Tp b o) : Kept W0 Tp (w.setCell ⟨b, o, none⟩ v) := by
  refine ⟨h.os, h.tape, h.output, by simpa [World.setCell] using h.size, fun c hc hn => ?_, fun c i hc hn => ?_, fun c i hc => ?_⟩
  · have hne : c ≠ b := by
      rintro rfl
      rcases hp with hp | hp
      · omega
      · exact hn o hp
    rw [Below.heap_setCell w ⟨b, o, none⟩ v c hne]; exact h.block c hc hn
  · have hne : (⟨b, o, none⟩ : Addr) ≠ ⟨c, i, none⟩ := by
      intro e
      injection e with e1 e2
      subst e1; subst e2
      rcases hp with hp | hp
      · omega
      · exact hn hp
    rw [World.cell?_setCell_other w _ _ _ hne]; exact h.cell c i hc hn
  · rw [World.frozen?_setCell]; exact h.frozen c i hc

/-- What the state says of the world. -/
structure MRel (W0 : World) (Tp : Nat → Nat → Prop) (env : List Int) (β : List (Nat × Nat)) (mem : List (List SC × Bool)) (w : World) : Prop where
  nb : β.length = mem.length
  cell : ∀ (r : Nat) (cs : List SC) (wr : Bool), mem[r]? = some (cs, wr) → ∃ x : Nat × Nat, β[r]? = some x ∧ x.1 < w.heap.size ∧
    (∀ (j : Nat) (sc : SC), cs[j]? = some sc → ∃ v, w.cell? ⟨x.1, x.2 + j, none⟩ = some v ∧ sc.is env β v) ∧
    (wr = true → ∀ j, j < cs.length → w.frozen? ⟨x.1, x.2 + j, none⟩ = false ∧ (W0.heap.size ≤ x.1 ∨ Tp x.1 (x.2 + j)))
  dis : ∀ (r s : Nat) (x y : Nat × Nat) (cs ds : List SC) (wr ws : Bool), r ≠ s → β[r]? = some x → β[s]? = some y → mem[r]? = some (cs, wr) → mem[s]? = some (ds, ws) → (wr = true ∨ ws = true) →
    x.1 ≠ y.1 ∨ x.2 + cs.length ≤ y.2 ∨ y.2 + ds.length ≤ x.2
  kept : Kept W0 Tp w

/-- The cells alone. -/
def CellsOk (env : List Int) (β : List (Nat × Nat)) (mem : List (List SC × Bool)) (w : World) : Prop :=
  ∀ (r : Nat) (cs : List SC) (wr : Bool) (x : Nat × Nat), mem[r]? = some (cs, wr) → β[r]? = some x → ∀ (j : Nat) (sc : SC), cs[j]? = some sc →
    ∃ v, w.cell? ⟨x.1, x.2 + j, none⟩ = some v ∧ sc.is env β v

theorem MRel.cells {W0 : World} {Tp : Nat → Nat → Prop} {env : List Int} {β : List (Nat × Nat)} {mem : List (List SC × Bool)} {w : World} (h : MRel W0 Tp env β mem w) : CellsOk env β mem w := by
  intro r cs wr x hr hx j sc hj
  obtain ⟨y, hy, _, hc, _⟩ := h.cell r cs wr hr
  rw [hx] at hy
  injection hy with hy
  subst hy
  exact hc j sc hj

/-- What the state says of the frame. -/
structure FRel (env : List Int) (β : List (Nat × Nat)) (S : St) (a : Act) : Prop where
  ne : env.length = S.ne
  nd : a.defers = []
  nt : a.tmps.size = S.nt
  tm : ∀ (d : Nat) (sv : SV), lk d S.tm = some sv → ∃ v, a.tmps[d]? = some v ∧ sv.is env β v
  fx : ∀ (x : Nat) (t : Bool), lk x S.fx = some t → env[x]? = some (b01 t)
  bt : ∀ (x : Nat), x ∈ S.bt → env[x]? = some 0 ∨ env[x]? = some 1

section
variable {W0 : World} {Tp : Nat → Nat → Prop} {env : List Int} {β : List (Nat × Nat)} {mem : List (List SC × Bool)} {w : World}

theorem MRel.drew (h : MRel W0 Tp env β mem w) : MRel W0 Tp env β mem { w with drawn := w.drawn + 1 } := ⟨h.nb, h.cell, h.dis, h.kept.drew⟩

theorem MRel.more (h : MRel W0 Tp env β mem w) (e' : List Int) : MRel W0 Tp (env ++ e') β mem w := by
  refine ⟨h.nb, fun r cs wr hr => ?_, h.dis, h.kept⟩
  obtain ⟨x, h1, h2, h3, h4⟩ := h.cell r cs wr hr
  refine ⟨x, h1, h2, fun j sc hj => ?_, h4⟩
  obtain ⟨v, hv, hs⟩ := h3 j sc hj
  have := hs.more (env := env) e' []
  rw [List.append_nil] at this
  exact ⟨v, hv, this⟩

theorem FRel.more {S : St} {a : Act} (h : FRel env β S a) (e' : List Int) (β' : List (Nat × Nat)) : FRel (env ++ e') (β ++ β') { S with ne := S.ne + e'.length } a := by
  refine ⟨by simp [h.ne], h.nd, h.nt, fun d sv hd => ?_, fun x t hx => get_more (h.fx x t hx) e', fun x hx => ?_⟩
  · obtain ⟨v, hv, hs⟩ := h.tm d sv hd
    exact ⟨v, hv, hs.more e' β'⟩
  · rcases h.bt x hx with h1 | h1
    · exact .inl (get_more h1 e')
    · exact .inr (get_more h1 e')

/-- A new block. -/
theorem MRel.alloc (h : MRel W0 Tp env β mem w) {cs : List SC} {vs : List Value} (t : TypeId) (hc : All2 (SC.is env β) cs vs) :
    MRel W0 Tp env (β ++ [(w.heap.size, 0)]) (mem ++ [(cs, true)]) (w.alloc (.cells vs.toArray t)) := by
  have old : ∀ r cs' wr, mem[r]? = some (cs', wr) → r < mem.length := fun r cs' wr hr => (List.getElem?_eq_some_iff.1 hr).1
  have hlt : ∀ r x, r < mem.length → β[r]? = some x → x.1 < w.heap.size := by
    intro r x hr hx
    obtain ⟨y, hy, hlt, _⟩ := h.cell r (mem[r]).1 (mem[r]).2 (by simp [hr])
    rw [hx] at hy
    injection hy with hy
    subst hy
    exact hlt
  have hnew : ∀ r cs' wr, (mem ++ [(cs, true)])[r]? = some (cs', wr) → r < mem.length ∧ mem[r]? = some (cs', wr) ∨ r = mem.length ∧ cs' = cs ∧ wr = true := by
    intro r cs' wr hr
    rcases Nat.lt_or_ge r mem.length with h1 | h1
    · left; rw [List.getElem?_append_left h1] at hr; exact ⟨h1, hr⟩
    · right
      rw [List.getElem?_append_right h1] at hr
      have : r - mem.length = 0 := by
        rcases Nat.eq_zero_or_pos (r - mem.length) with h0 | h0
        · exact h0
        · rw [List.getElem?_eq_none (by simp; omega)] at hr; cases hr
      rw [this] at hr
      simp at hr
      exact ⟨by omega, hr.1.symm, hr.2⟩
  have hβ : ∀ r x, r < mem.length → (β ++ [(w.heap.size, 0)])[r]? = some x → β[r]? = some x := by
    intro r x hr hx
    rw [List.getElem?_append_left (by rw [h.nb]; exact hr)] at hx
    exact hx
  have hβn : (β ++ [(w.heap.size, 0)])[mem.length]? = some (w.heap.size, 0) := by rw [← h.nb]; simp
  refine ⟨by simp [h.nb], fun r cs' wr hr => ?_, ?_, h.kept.alloc _⟩
  · rcases hnew r cs' wr hr with ⟨hrl, hr'⟩ | ⟨rfl, rfl, rfl⟩
    · obtain ⟨x, h1, h2, h3, h4⟩ := h.cell r cs' wr hr'
      refine ⟨x, get_more h1 _, by simp; omega, fun j sc hj => ?_, fun hw j hj => ?_⟩
      · obtain ⟨v, hv, hs⟩ := h3 j sc hj
        refine ⟨v, by rw [World.cell?_alloc_lt w _ _ h2]; exact hv, ?_⟩
        have := hs.more (env := env) [] [(w.heap.size, 0)]
        rw [List.append_nil] at this
        exact this
      · obtain ⟨h5, h6⟩ := h4 hw j hj
        exact ⟨by rw [World.frozen?_alloc_past _ _ _ h2]; exact h5, h6⟩
    · refine ⟨(w.heap.size, 0), hβn, by simp, fun j sc hj => ?_, fun _ j hj => ⟨by simp, .inl h.kept.size⟩⟩
      obtain ⟨v, hv, hs⟩ := All2.get hc hj
      refine ⟨v, by simpa using hv, ?_⟩
      have := hs.more (env := env) [] [(w.heap.size, 0)]
      rw [List.append_nil] at this
      exact this
  · intro r s x y cs' ds wr ws hrs hx hy hr hs hor
    rcases hnew r cs' wr hr with ⟨hrl, hr'⟩ | ⟨rfl, rfl, rfl⟩
    · rcases hnew s ds ws hs with ⟨hsl, hs'⟩ | ⟨rfl, rfl, rfl⟩
      · exact h.dis r s x y cs' ds wr ws hrs (hβ r x hrl hx) (hβ s y hsl hy) hr' hs' hor
      · left
        rw [hβn] at hy
        injection hy with hy
        subst hy
        have := hlt r x hrl (hβ r x hrl hx)
        simp; omega
    · rcases hnew s ds ws hs with ⟨hsl, hs'⟩ | ⟨rfl, rfl, rfl⟩
      · left
        rw [hβn] at hx
        injection hx with hx
        subst hx
        have := hlt s y hsl (hβ s y hsl hy)
        simp; omega
      · exact absurd rfl hrs

/-- One cell of one region is written. -/
theorem MRel.set1 (h : MRel W0 Tp env β mem w) {r o : Nat} {cs : List SC} {x : Nat × Nat} {sc : SC} {v : Value} (hr : mem[r]? = some (cs, true)) (ho : o < cs.length) (hx : β[r]? = some x)
    (hs : sc.is env β v) : MRel W0 Tp env β (mem.set r (cs.set o sc, true)) (w.setCell ⟨x.1, x.2 + o, none⟩ v) := by
  obtain ⟨x', hx', h2, h3, h4⟩ := h.cell r cs true hr
  rw [hx] at hx'
  injection hx' with hx'
  subst hx'
  have hrl : r < mem.length := (List.getElem?_eq_some_iff.1 hr).1
  obtain ⟨u, hu, _⟩ := h3 o cs[o] (by simp [ho])
  have hsz : (w.setCell ⟨x.1, x.2 + o, none⟩ v).heap.size = w.heap.size := by simp [World.setCell]
  have hget : ∀ s ds ws, (mem.set r (cs.set o sc, true))[s]? = some (ds, ws) → (s = r ∧ ds = cs.set o sc ∧ ws = true) ∨ (s ≠ r ∧ mem[s]? = some (ds, ws)) := by
    intro s ds ws hs'
    by_cases hsr : s = r
    · subst hsr
      left
      rw [List.getElem?_set_self hrl] at hs'
      simp at hs'
      exact ⟨rfl, hs'.1.symm, hs'.2⟩
    · right
      rw [List.getElem?_set_ne (Ne.symm hsr)] at hs'
      exact ⟨hsr, hs'⟩
  refine ⟨by simp [h.nb], fun s ds ws hs' => ?_, ?_, h.kept.setCell _ _ _ (h4 rfl o ho).2⟩
  · rcases hget s ds ws hs' with ⟨rfl, rfl, rfl⟩ | ⟨hsr, hs''⟩
    · refine ⟨x, hx, by rw [hsz]; exact h2, fun j sj hj => ?_, fun _ j hj => ?_⟩
      · by_cases hjo : j = o
        · subst hjo
          rw [List.getElem?_set_self ho] at hj
          injection hj with hj
          subst hj
          exact ⟨v, World.cell?_setCell_same w _ _ hu, hs⟩
        · rw [List.getElem?_set_ne (Ne.symm hjo)] at hj
          obtain ⟨y, hy, hys⟩ := h3 j sj hj
          refine ⟨y, ?_, hys⟩
          rw [World.cell?_setCell_other w _ _ _ (by intro e; injection e with _ e2; omega)]
          exact hy
      · rw [World.frozen?_setCell]
        exact h4 rfl j (by simpa using hj)
    · obtain ⟨y, hy, hyl, hyc, hyf⟩ := h.cell s ds ws hs''
      refine ⟨y, hy, by rw [hsz]; exact hyl, fun j sj hj => ?_, fun hw j hj => by rw [World.frozen?_setCell]; exact hyf hw j hj⟩
      obtain ⟨z, hz, hzs⟩ := hyc j sj hj
      refine ⟨z, ?_, hzs⟩
      have hjl : j < ds.length := (List.getElem?_eq_some_iff.1 hj).1
      rw [World.cell?_setCell_other w _ _ _ ?_]
      · exact hz
      · intro e
        injection e with e1 e2
        rcases h.dis r s x y cs ds true ws (Ne.symm hsr) hx hy hr hs'' (.inl rfl) with h5 | h5 | h5
        · exact h5 e1
        · omega
        · omega
  · intro a b p q ca cb wa wb hab hp hq ha hb hor
    rcases hget a ca wa ha with ⟨rfl, rfl, rfl⟩ | ⟨har, ha'⟩
    · rcases hget b cb wb hb with ⟨rfl, rfl, rfl⟩ | ⟨hbr, hb'⟩
      · exact absurd rfl hab
      · have := h.dis a b p q cs cb true wb hab hp hq hr hb' (.inl rfl)
        simpa using this
    · rcases hget b cb wb hb with ⟨rfl, rfl, rfl⟩ | ⟨hbr, hb'⟩
      · have := h.dis a b p q ca cs wa true hab hp hq ha' hr (.inr rfl)
        simpa using this
      · exact h.dis a b p q ca cb wa wb hab hp hq ha' hb' hor

theorem FRel.put {S : St} {a : Act} (h : FRel env β S a) {d : Nat} (hd : d < S.nt) {sv : SV} {v : Value} (hs : sv.is env β v) :
    FRel env β { S with tm := (d, sv) :: S.tm } (a.put (some d) v) := by
  refine ⟨h.ne, h.nd, by simp [Act.put, h.nt], fun e se he => ?_, h.fx, h.bt⟩
  by_cases hed : d = e
  · subst hed
    rw [lk_cons_same] at he
    injection he with he
    subst he
    refine ⟨v, ?_, hs⟩
    simp only [Act.put]
    rw [Array.getElem?_setIfInBounds_self]
    simp [h.nt, hd]
  · rw [lk_cons_ne _ _ hed] at he
    obtain ⟨u, hu, hus⟩ := h.tm e se he
    refine ⟨u, ?_, hus⟩
    simp only [Act.put]
    rw [Array.getElem?_setIfInBounds_ne hed]
    exact hu
end
end Eng
end
section
/-
  One operation of the walk by reckoning: what it yields, and why.
-/
namespace Eng
open Go Go.RowKit

inductive XR where
  | fail
  | val (defs : List (IOp × List SI)) (v : SV)
  | sto (r o : Nat) (cs : List SC)
  | new (t : TypeId) (cs : List SC) (v : SC)
  | ask (x : Nat)
  | call (f : Nat) (args : List SV)

def runDefs (env : List Int) : List (IOp × List SI) → List Int
  | [] => env
  | (o, xs) :: r => runDefs (env ++ [o.ev (xs.map (·.val env))]) r

theorem runDefs_more : ∀ (defs : List (IOp × List SI)) (env : List Int), ∃ e', runDefs env defs = env ++ e' ∧ e'.length = defs.length
  | [], env => ⟨[], by simp [runDefs], rfl⟩
  | (o, xs) :: r, env => by
    obtain ⟨e', h, hl⟩ := runDefs_more r (env ++ [o.ev (xs.map (·.val env))])
    exact ⟨o.ev (xs.map (·.val env)) :: e', by rw [runDefs, h]; simp, by simp [hl]⟩

def scv (x : SC) : SV := .ww (.cc x)

def xev (S : St) : Operand → Option SV
  | .tmp t => lk t S.tm
  | .const v => (ofVal v).map scv
  | .global g => some (scv (.kk (.pointer (some ⟨g, 0, none⟩))))
  | .func f => some (scv (.kk (.func (.func f) #[] #[])))

def xevs (S : St) : List Operand → Option (List SV)
  | [] => some []
  | x :: r => match xev S x, xevs S r with
    | some v, some l => some (v :: l)
    | _, _ => none

def usz (P : Program) (t : TypeId) : Option Nat := (P.info? t).map (·.size)
def aggB (P : Program) (t : TypeId) : Option Bool := (P.underlying t).map fun | .struct _ | .array _ _ => true | _ => false

/-- What is known of a truth value. -/
def know (S : St) : SB → SB
  | .lit b => .lit b
  | .var x => match lk x S.fx with
    | some t => .lit t
    | none => .var x

def lits : List SI → Option (List Int)
  | [] => some []
  | .lit n :: r => (lits r).map (n :: ·)
  | .var _ :: _ => none

/-- An integer that an operation yields: at once where all is known. -/
def mkI (S : St) (k : IntKind) (o : IOp) (xs : List SI) : XR :=
  match lits xs with
  | some l => bif decide (k.wrap (o.ev l) = o.ev l) then .val [] (scv (.ii k (.lit (o.ev l)))) else .fail
  | none => .val [(o, xs)] (scv (.ii k (.var S.ne)))
def mkB (S : St) (o : IOp) (xs : List SI) : XR :=
  match lits xs with
  | some l => .val [] (scv (.bb (.lit (decide (o.ev l = 1)))))
  | none => .val [(o, xs)] (scv (.bb (.var S.ne)))

def arithB : BinOp → Bool
  | .add | .sub | .mul | .and | .or | .xor | .andNot => true
  | _ => false
def cmpB : BinOp → Bool
  | .eql | .neq | .lss | .leq | .gtr | .geq => true
  | _ => false
def unsB : IntKind → Bool
  | .u8 | .u16 | .u32 | .u64 => true
  | _ => false
def nneB (k : IntKind) : SI → Bool
  | .lit n => decide (0 ≤ n)
  | .var _ => unsB k
def nzB : SI → Bool
  | .lit n => decide (n ≠ 0)
  | .var _ => false

def intsOf : List SC → Option (List SI)
  | [] => some []
  | .ii .u64 e :: r => (intsOf r).map (e :: ·)
  | _ :: _ => none

def xBinI (S : St) (op : BinOp) (k k' : IntKind) (e e' : SI) : XR :=
  match op with
  | .shl | .shr => bif nneB k' e' then mkI S k (.bin op k) [e, e'] else .fail
  | .quo | .rem => bif decide (k = k') && nzB e' then mkI S k (.bin op k) [e, e'] else .fail
  | _ => bif decide (k = k') then (bif arithB op then mkI S k (.bin op k) [e, e'] else bif cmpB op then mkB S (.cmp op) [e, e'] else .fail) else .fail

def xBinB (P : Program) (S : St) (op : BinOp) (t : TypeId) (e e' : SB) : XR :=
  match op, P.underlying t with
  | .eql, some .bool => mkB S (.cmp .eql) [(know S e).si, (know S e').si]
  | .neq, some .bool => mkB S (.cmp .neq) [(know S e).si, (know S e').si]
  | _, _ => .fail

def xBinA (P : Program) (S : St) (op : BinOp) (t : TypeId) (l m : List SC) : XR :=
  match P.underlying t, intsOf l, intsOf m with
  | some (.array n el), some xs, some ys =>
    bif decide (xs.length = n) && decide (ys.length = n) && decide (usz P el = some 1) && !(P.eqGuardType P.depth t) then
      (match P.underlying el, op with
       | some (.int .u64), .eql => .val [(.eqs n, xs ++ ys)] (scv (.bb (.var S.ne)))
       | some (.int .u64), .neq => .val [(.eqs n, xs ++ ys), (.cmp .neq, [.var S.ne, .lit 1])] (scv (.bb (.var (S.ne + 1))))
       | _, _ => .fail) else .fail
  | _, _, _ => .fail

def xBin (P : Program) (S : St) (op : BinOp) (t : TypeId) (u v : SV) : XR :=
  match u, v with
  | .ww (.cc (.ii k e)), .ww (.cc (.ii k' e')) => xBinI S op k k' e e'
  | .ww (.cc (.bb e)), .ww (.cc (.bb e')) => xBinB P S op t e e'
  | .ww (.aa l), .ww (.aa m) => xBinA P S op t l m
  | _, _ => .fail

def xIndex (P : Program) (t : TypeId) : SV → SV → XR
  | .ww (.cc (.pp r q)), .ww (.cc (.ii _ (.lit n))) =>
    match P.underlying t with
    | some (.array len el) => match usz P el with
      | some sz => bif decide (0 ≤ n) && decide (n < (len : Int)) then .val [] (scv (.pp r (q + n.toNat * sz))) else .fail
      | none => .fail
    | _ => .fail
  | .ww (.cc (.ss r q len _)), .ww (.cc (.ii _ (.lit n))) =>
    match P.underlying t with
    | some (.slice el) => match usz P el with
      | some sz => bif decide (0 ≤ n) && decide (n < (len : Int)) then .val [] (scv (.pp r (q + n.toNat * sz))) else .fail
      | none => .fail
    | _ => .fail
  | _, _ => .fail

def xLoad (P : Program) (S : St) (t : TypeId) : SV → XR
  | .ww (.cc (.pp r q)) =>
    match S.mem[r]?, aggB P t, usz P t with
    | some (cs, _), some true, some sz => bif decide (q + sz ≤ cs.length) then .val [] (.ww (.aa ((cs.drop q).take sz))) else .fail
    | some (cs, _), some false, _ => match cs[q]? with
      | some x => .val [] (scv x)
      | none => .fail
    | _, _, _ => .fail
  | _ => .fail

def xStore (P : Program) (S : St) (t : TypeId) : SV → SV → XR
  | .ww (.cc (.pp r q)), .ww v =>
    match S.mem[r]?, usz P t with
    | some (cs, true), some sz => bif decide (v.cells.length = sz) && decide (q + sz ≤ cs.length) then .sto r q v.cells else .fail
    | _, _ => .fail
  | _, _ => .fail

def zeroOf (P : Program) (t : TypeId) : Option (List SC) :=
  match P.info? t with
  | some i => match i.zero with
    | some z => ofVals z.cells.toList
    | none => none
  | none => none

/-- Parts of one cell each, laid into the cells. -/
def xFill : List SC → List (Nat × SV) → Option (List SC)
  | cs, [] => some cs
  | cs, (i, .ww (.cc x)) :: r => bif Nat.blt i cs.length then xFill (cs.set i x) r else none
  | _, _ :: _ => none

def xParts (S : St) : List (Nat × Operand) → Option (List (Nat × SV))
  | [] => some []
  | (i, x) :: r => match xev S x, xParts S r with
    | some v, some l => some ((i, v) :: l)
    | _, _ => none

def xSlice (P : Program) (t : TypeId) (x : SV) (lo hi : Option SV) : XR :=
  match P.underlying t, x with
  | some (.array n el), .ww (.cc (.pp r q)) =>
    match usz P el, lo, hi with
    | some sz, none, none => .val [] (scv (.ss r (q + 0 * sz) n n))
    | some sz, some (.ww (.cc (.ii _ (.lit l)))), some (.ww (.cc (.ii _ (.lit h)))) =>
      bif decide (0 ≤ l) && decide (l ≤ h) && decide (h ≤ (n : Int)) && decide (l < (n : Int)) then .val [] (scv (.ss r (q + l.toNat * sz) (h.toNat - l.toNat) (n - l.toNat))) else .fail
    | _, _, _ => .fail
  | _, _ => .fail

/-- It is known to be 0 or 1. -/
def bitB (S : St) : SI → Bool
  | .lit n => decide (n = 0) || decide (n = 1)
  | .var v => S.bt.elem v

def xCall (ext : Nat → Nat) (S : St) (f : Nat) (args : List SV) : XR :=
  match ext f, args with
  | 1, [.ww (.cc (.ii .u64 x)), .ww (.cc (.ii .u64 y)), .ww (.cc (.ii .u64 c))] =>
    bif bitB S c then
      .val [(.addS, [x, y, c]), (.addC, [x, y, c])] (.tt [.cc (.ii .u64 (.var S.ne)), .cc (.ii .u64 (.var (S.ne + 1)))])
    else .fail
  | 2, [.ww (.cc (.ii .u64 x)), .ww (.cc (.ii .u64 y)), .ww (.cc (.ii .u64 c))] =>
    bif bitB S c then
      .val [(.subD, [x, y, c]), (.subB, [x, y, c])] (.tt [.cc (.ii .u64 (.var S.ne)), .cc (.ii .u64 (.var (S.ne + 1)))])
    else .fail
  | 0, _ => .call f args
  | _, _ => .fail

def smallB (P : Program) (el : TypeId) : Bool :=
  match P.info? el with
  | some i => Nat.ble i.bytes 16
  | none => false

def xval (P : Program) (ext : Nat → Nat) (o : Oper) (S : St) : XR :=
  match o.op with
  | .move x | .assign x => match xev S x with
    | some v => .val [] v
    | none => .fail
  | .nilCheck x => match xev S x with
    | some (.ww (.cc (.pp r q))) => .val [] (scv (.pp r q))
    | _ => .fail
  | .pick c a b => match xev S c, xev S a, xev S b with
    | some (.ww (.cc (.bb e))), some u, some v => match know S e with
      | .lit t => .val [] (if t then u else v)
      | .var x => .ask x
    | _, _, _ => .fail
  | .extract t i => match xev S t with
    | some (.tt l) => match l[i]? with
      | some x => .val [] (.ww x)
      | none => .fail
    | _ => .fail
  | .indexAddr t x ix => match xev S x, xev S ix with
    | some u, some v => xIndex P t u v
    | _, _ => .fail
  | .load t a => match xev S a with
    | some u => xLoad P S t u
    | none => .fail
  | .store t a x => match xev S a, xev S x with
    | some u, some v => xStore P S t u v
    | _, _ => .fail
  | .alloc t => match zeroOf P t with
    | some cs => .new t cs (.pp S.mem.length 0)
    | none => .fail
  | .box t x => match xev S x with
    | some (.ww v) => .new t v.cells (.pp S.mem.length 0)
    | _ => .fail
  | .build t parts => match P.underlying t, zeroOf P t, xParts S parts.toList with
    | some (.array _ el), some z, some ps => bif decide (usz P el = some 1) then (match xFill z ps with
        | some cs => .val [] (.ww (.aa cs))
        | none => .fail) else .fail
    | _, _, _ => .fail
  | .buildSlice t len parts => match P.underlying t with
    | some (.slice el) => match zeroOf P el, xParts S parts.toList with
      | some [z], some ps => bif decide (usz P el = some 1) && Nat.blt 0 len && Nat.ble len 4096 then (match xFill (List.replicate len z) ps with
          | some cs => .new el cs (.ss S.mem.length 0 len len)
          | none => .fail) else .fail
      | _, _ => .fail
    | _ => .fail
  | .makeSlice t l c => match P.underlying t, xev S l, xev S c with
    | some (.slice el), some (.ww (.cc (.ii _ (.lit n)))), some (.ww (.cc (.ii _ (.lit m)))) => match zeroOf P el with
      | some [z] => bif decide (usz P el = some 1) && decide (0 ≤ n) && decide (n = m) && decide (n ≤ 4096) && smallB P el then
          .new el (List.replicate n.toNat z) (.ss S.mem.length 0 n.toNat n.toNat) else .fail
      | _ => .fail
    | _, _, _ => .fail
  | .slice t x lo hi mx => match mx, xev S x with
    | none, some u => match lo, hi with
      | none, none => xSlice P t u none none
      | some l, some h => match xev S l, xev S h with
        | some a, some b => xSlice P t u (some a) (some b)
        | _, _ => .fail
      | _, _ => .fail
    | _, _ => .fail
  | .binOp op t x y _ => match xev S x, xev S y with
    | some u, some v => xBin P S op t u v
    | _, _ => .fail
  | .unOp .not _ x => match xev S x with
    | some (.ww (.cc (.bb e))) => match know S e with
      | .lit t => .val [] (scv (.bb (.lit (!t))))
      | .var x => .ask x
    | _ => .fail
  | .convert s d x => match P.underlying s, P.underlying d, xev S x with
    | some _, some (.int k), some (.ww (.cc (.ii _ e))) => mkI S k (.conv k) [e]
    | _, _, _ => .fail
  | .call c => match c.callee with
    | .builtin .len => match c.args.toList, c.argTypes[0]? with
      | [x], some t => match P.underlying t, xev S x with
        | some (.slice _), some (.ww (.cc (.ss _ _ n _))) => bif Nat.ble n 9223372036854775807 then .val [] (scv (.ii .i64 (.lit n))) else .fail
        | some (.array n _), some _ => bif Nat.ble n 9223372036854775807 then .val [] (scv (.ii .i64 (.lit n))) else .fail
        | _, _ => .fail
      | _, _ => .fail
    | .value (.func f) => match xevs S c.args.toList with
      | some l => xCall ext S f l
      | none => .fail
    | _ => .fail
  | _ => .fail

def tagOf (ext : Nat → Nat) (o : Oper) : Nat :=
  match o.op with
  | .load _ _ => 1
  | .move _ | .assign _ | .nilCheck _ | .pick _ _ _ | .extract _ _ | .indexAddr _ _ _ | .build _ _ | .slice _ _ _ _ _ | .binOp _ _ _ _ _ | .unOp _ _ _ | .convert _ _ _ => 0
  | .call c => match c.callee with
    | .builtin .len => 0
    | .builtin .max => 0
    | .builtin .min => 0
    | .value (.func f) => if ext f = 0 then 2 else 0
    | _ => 2
  | _ => 2
end Eng
end
section
/-
  What an operation of the walk by reckoning yields is what the model's operation yields.
-/
namespace Eng
open Go Go.RowKit

section
variable {P : Program} {ext : Nat → Nat} {W0 : World} {Tp : Nat → Nat → Prop} {env : List Int} {β : List (Nat × Nat)} {S : St} {a : Act}

theorem xev_is (hF : FRel env β S a) {x : Operand} {sv : SV} (h : xev S x = some sv) : sv.is env β (a.eval x) := by
  cases x with
  | tmp t =>
    obtain ⟨v, hv, hs⟩ := hF.tm t sv h
    have : a.eval (.tmp t) = v := by simp [Act.eval, hv]
    rw [this]; exact hs
  | const v =>
    simp only [xev] at h
    cases ho : ofVal v with
    | none => simp [ho] at h
    | some y => simp [ho] at h; subst h; exact ofVal_is ho
  | global g => simp [xev] at h; subst h; exact ⟨rfl, rfl⟩
  | func f => simp [xev] at h; subst h; exact ⟨rfl, rfl⟩

theorem xevs_is (hF : FRel env β S a) : ∀ {l : List Operand} {m : List SV}, xevs S l = some m → All2 (SV.is env β) m (l.map a.eval)
  | [], m, h => by simp [xevs] at h; subst h; trivial
  | x :: r, m, h => by
    unfold xevs at h
    cases hx : xev S x with
    | none => simp [hx] at h
    | some v =>
      cases hr : xevs S r with
      | none => simp [hx, hr] at h
      | some l => simp [hx, hr] at h; subst h; exact ⟨xev_is hF hx, xevs_is hF hr⟩

theorem know_is (hF : FRel env β S a) {e : SB} {t : Bool} (h : e.is env t) : (know S e).is env t := by
  cases e with
  | lit b => exact h
  | var x =>
    cases hx : lk x S.fx with
    | none => simp only [know, hx]; exact h
    | some t' =>
      simp only [know, hx]
      have h1 := hF.fx x t' hx
      have h2 : env[x]? = some (b01 t) := h
      rw [h1] at h2
      injection h2 with h2
      show t = t'
      cases t <;> cases t' <;> simp [b01] at h2 <;> rfl

theorem run_sz {t : TypeId} {n : Nat} (h : usz P t = some n) (w : World) : (Go.sizeOf t).run P w = .ok n w := by
  unfold usz at h
  cases hi : P.info? t with
  | none => simp [hi] at h
  | some i => simp [hi] at h; subst h; simp [Go.sizeOf, typeInfo, hi]

theorem run_agg {t : TypeId} {b : Bool} (h : aggB P t = some b) (w : World) : (isAgg t).run P w = .ok b w := by
  unfold aggB at h
  cases hu : P.underlying t with
  | none => simp [hu] at h
  | some d =>
    simp [hu] at h
    subst h
    unfold isAgg
    simp only [Sem.run_bind, run_underlying hu, Result.andThen_ok]
    cases d <;> rfl

theorem lits_is : ∀ {xs : List SI} {l : List Int} {env : List Int}, lits xs = some l → xs.map (·.val env) = l
  | [], l, _, h => by simp [lits] at h; subst h; rfl
  | .lit n :: r, l, env, h => by
    simp only [lits] at h
    cases hr : lits r with
    | none => simp [hr] at h
    | some m => simp [hr] at h; subst h; rw [List.map_cons, lits_is (env := env) hr]; rfl
  | .var x :: r, l, _, h => by simp [lits] at h

/-- Of what 'mkI' yields. -/
theorem mkI_is (hn : env.length = S.ne) {k : IntKind} {o : IOp} {xs : List SI} {l : List (IOp × List SI)} {v : SV} (h : mkI S k o xs = .val l v) (hf : fits k (o.ev (xs.map (·.val env)))) :
    v.is (runDefs env l) β (.int k (o.ev (xs.map (·.val env)))) := by
  unfold mkI at h
  cases hl : lits xs with
  | some m =>
    simp only [hl] at h
    cases hd : decide (k.wrap (o.ev m) = o.ev m)
    · simp [hd] at h
    · simp [hd] at h
      obtain ⟨rfl, rfl⟩ := h
      rw [lits_is hl] at hf ⊢
      exact ⟨o.ev m, rfl, hf, rfl⟩
  | none =>
    simp only [hl] at h
    injection h with h1 h2
    subst h1; subst h2
    refine ⟨_, ?_, hf, rfl⟩
    simp [SI.is, runDefs, ← hn]

theorem mkB_is (hn : env.length = S.ne) {o : IOp} {xs : List SI} {l : List (IOp × List SI)} {v : SV} {t : Bool} (h : mkB S o xs = .val l v) (hf : o.ev (xs.map (·.val env)) = b01 t) :
    v.is (runDefs env l) β (.bool t) := by
  unfold mkB at h
  cases hl : lits xs with
  | some m =>
    simp only [hl] at h
    injection h with h1 h2
    subst h1; subst h2
    rw [lits_is hl] at hf
    refine ⟨t, ?_, rfl⟩
    show t = decide (o.ev m = 1)
    rw [hf]; cases t <;> simp [b01]
  | none =>
    simp only [hl] at h
    injection h with h1 h2
    subst h1; subst h2
    refine ⟨t, ?_, rfl⟩
    simp [SB.is, runDefs, ← hn, hf]

/-- The run of an operation that looks at its operands alone. -/
abbrev Yl (P : Program) (s : Sem Value) (v : Value) : Prop := ∀ w, s.run P w = .ok v w

theorem yl_bin_int {op : BinOp} {k : IntKind} (t : TypeId) (x y : Operand) (m n : Int) (h : arithB op = true) :
    Yl P (do eqGuard op t x y (.int k m) (.int k n); binOp op t (.int k m) (.int k n)) (.int k (binEv op k m n)) := by
  intro w
  cases op <;> simp [arithB] at h <;> simp [eqGuard, binOp, Op.intArith, Op.intBits, binEv]

theorem yl_cmp_int {op : BinOp} {k : IntKind} (t : TypeId) (x y : Operand) (m n : Int) (h : cmpB op = true) :
    Yl P (do eqGuard op t x y (.int k m) (.int k n); binOp op t (.int k m) (.int k n)) (.bool (cmpEv op m n)) := by
  intro w
  cases op <;> simp [cmpB] at h <;> simp [eqGuard, binOp, Op.intCmp, cmpEv]

theorem yl_div_int {op : BinOp} {k : IntKind} (t : TypeId) (x y : Operand) (m n : Int) (h : op = .quo ∨ op = .rem) (hn : n ≠ 0) :
    Yl P (do eqGuard op t x y (.int k m) (.int k n); binOp op t (.int k m) (.int k n)) (.int k (binEv op k m n)) := by
  intro w
  rcases h with rfl | rfl <;> simp [eqGuard, binOp, Op.intDiv, binEv, hn]

theorem yl_shift {op : BinOp} {k k' : IntKind} (t : TypeId) (x y : Operand) (m n : Int) (h : op = .shl ∨ op = .shr) (hn : 0 ≤ n) :
    Yl P (do eqGuard op t x y (.int k m) (.int k' n); binOp op t (.int k m) (.int k' n)) (.int k (binEv op k m n)) := by
  intro w
  have : ¬ n < 0 := by omega
  rcases h with rfl | rfl <;> simp [eqGuard, binOp, Op.shift, binEv, this]

theorem fits_bin {op : BinOp} {k : IntKind} {m : Int} (n : Int) (hm : fits k m) : fits k (binEv op k m n) := by
  cases op <;> first
    | exact fits_wrap _ _
    | exact fits_tmod hm n
    | exact fits_fdiv hm _ (Int.pow_pos (by omega))
    | (exact (fits_iff k 0).2 ⟨kMin_le k, kMax_ge k⟩)

theorem nneB_spec {k : IntKind} {e : SI} {n : Int} (h : nneB k e = true) (he : e.is env n) (hf : fits k n) : 0 ≤ n := by
  cases e with
  | lit m =>
    have : n = m := he
    subst this
    simpa [nneB] using h
  | var x =>
    rw [fits_iff] at hf
    cases k <;> simp [nneB, unsB] at h <;> simp [kMin] at hf <;> omega

theorem nzB_spec {e : SI} {n : Int} (h : nzB e = true) (he : e.is env n) : n ≠ 0 := by
  cases e with
  | lit m =>
    have : n = m := he
    subst this
    simpa [nzB] using h
  | var x => simp [nzB] at h

theorem intsOf_is : ∀ {l : List SC} {xs : List SI} {vs : List Value}, intsOf l = some xs → All2 (SC.is env β) l vs → vs = (xs.map (·.val env)).map (Value.int .u64)
  | [], xs, [], h, _ => by simp [intsOf] at h; subst h; rfl
  | .ii .u64 e :: r, xs, v :: vs, h, ⟨h1, h2⟩ => by
    simp only [intsOf] at h
    cases hr : intsOf r with
    | none => simp [hr] at h
    | some m =>
      simp [hr] at h
      subst h
      obtain ⟨n, hn, _, rfl⟩ := h1
      simp [intsOf_is hr h2, hn.val]
  | .ii .i8 _ :: _, _, _, h, _ | .ii .i16 _ :: _, _, _, h, _ | .ii .i32 _ :: _, _, _, h, _ | .ii .i64 _ :: _, _, _, h, _ | .ii .u8 _ :: _, _, _, h, _ | .ii .u16 _ :: _, _, _, h, _
  | .ii .u32 _ :: _, _, _, h, _ | .bb _ :: _, _, _, h, _ | .pp _ _ :: _, _, _, h, _ | .ss _ _ _ _ :: _, _, _, h, _ | .kk _ :: _, _, _, h, _ => by simp [intsOf] at h

theorem run_items_u64 {el : TypeId} (hu : P.underlying el = some (.int .u64)) (hs : usz P el = some 1) (d : Nat) (w : World) (xs ys : List Int) :
    ∀ (n k : Nat), k + n = xs.length → k + n = ys.length →
      (Op.eqItems (d + 1) el 1 (xs.map (Value.int .u64)).toArray (ys.map (Value.int .u64)).toArray (List.range' k n)).run P w = .ok (decide (xs.drop k = ys.drop k)) w
  | 0, k, h1, h2 => by
    rw [List.drop_of_length_le (by omega), List.drop_of_length_le (by omega)]
    simp [Op.eqItems]
  | n + 1, k, h1, h2 => by
    have hag : aggB P el = some false := by simp [aggB, hu]
    have hx : ∀ (zs : List Int), k < zs.length → (part el (zs.map (Value.int .u64)).toArray (k * 1)).run P w = .ok (.int .u64 (zs.getD k 0)) w := by
      intro zs hk
      unfold part
      simp [run_agg hag, hk]
    have he : ∀ m n : Int, (Op.equalIn (d + 1) el (.int .u64 m) (.int .u64 n)).run P w = .ok (m == n) w := by
      intro m n
      simp [Op.equalIn, run_underlying hu]
    rw [List.range'_succ, Op.eqItems]
    simp only [Sem.run_bind, hx xs (by omega), hx ys (by omega), he, Result.andThen_ok]
    have ex : xs.drop k = xs.getD k 0 :: xs.drop (k + 1) := by
      rw [List.drop_eq_getElem_cons (by omega)]; simp [show k < xs.length by omega]
    have ey : ys.drop k = ys.getD k 0 :: ys.drop (k + 1) := by
      rw [List.drop_eq_getElem_cons (by omega)]; simp [show k < ys.length by omega]
    have ih := run_items_u64 hu hs d w xs ys n (k + 1) (by omega) (by omega)
    rw [ex, ey]
    generalize xs.getD k 0 = u at *
    generalize ys.getD k 0 = v at *
    by_cases hxy : u = v
    · simp [hxy, ih]
    · simp [hxy]

theorem run_arr_eq {t el : TypeId} {n : Nat} (hu : P.underlying t = some (.array n el)) (hs : usz P el = some 1) (he : P.underlying el = some (.int .u64)) (xs ys : List Int)
    (hx : xs.length = n) (hy : ys.length = n) (w : World) : (Op.equal t (.agg (xs.map (Value.int .u64)).toArray) (.agg (ys.map (Value.int .u64)).toArray)).run P w = .ok (decide (xs = ys)) w := by
  unfold usz at hs
  cases hi : P.info? el with
  | none => simp [hi] at hs
  | some i =>
    have h1 : P.cellsOf el = 1 := by simp [hi] at hs; simp [Program.cellsOf, hi, hs]
    have h2 := run_items_u64 (P := P) he (by simp [usz, hi]; simpa [hi] using hs) 9998 w xs ys n 0 (by omega) (by omega)
    show (Op.equalIn (9999 + 1) t _ _).run P w = _
    rw [run_equalIn_array w 9999 _ _ hu hi, h1, List.range_eq_range', h2]
    simp
end
end Eng
end
section
/-
  What an operation yields by reckoning, against the model's own run: the operations that yield a value and change nothing.
-/
namespace Eng
open Go Go.RowKit

section
variable {P : Program} {ext : Nat → Nat} {W0 : World} {Tp : Nat → Nat → Prop} {env : List Int} {β : List (Nat × Nat)} {S : St} {a : Act}

theorem b01_of {p : Prop} [Decidable p] : b01 (decide p) = if p then 1 else 0 := by by_cases h : p <;> simp [b01, h]
theorem b01_beq (s t : Bool) : cmpEv .eql (b01 s) (b01 t) = (s == t) := by cases s <;> cases t <;> rfl
theorem b01_bne (s t : Bool) : cmpEv .neq (b01 s) (b01 t) = !(s == t) := by cases s <;> cases t <;> rfl

theorem run_bool_eq {t : TypeId} (hu : P.underlying t = some .bool) (x y : Bool) (w : World) : (Op.equal t (.bool x) (.bool y)).run P w = .ok (x == y) w := by
  have key : ∀ d, (Op.equalIn (d + 1) t (.bool x) (.bool y)).run P w = .ok (x == y) w := fun d => by simp [Op.equalIn, run_underlying hu]
  exact key 9999

theorem guard_bool (op : BinOp) (t : TypeId) (x y : Operand) (p q : Bool) (w : World) : (eqGuard op t x y (.bool p) (.bool q)).run P w = .ok () w := by
  cases op <;> simp [eqGuard]

theorem binI_val (hn : env.length = S.ne) {op : BinOp} {t : TypeId} {x y : Operand} {k k' : IntKind} {e e' : SI} {i j : Int} {l : List (IOp × List SI)} {r : SV}
    (hi : e.is env i) (hif : fits k i) (hj : e'.is env j) (hjf : fits k' j) (h : xBinI S op k k' e e' = .val l r) :
    ∃ z, r.is (runDefs env l) β z ∧ Yl P (do eqGuard op t x y (.int k i) (.int k' j); binOp op t (.int k i) (.int k' j)) z := by
  have ev2 : ∀ o : BinOp, (IOp.bin o k).ev ([e, e'].map (·.val env)) = binEv o k i j := by
    intro o; simp [IOp.ev, hi.val, hj.val]
  have evc : ∀ o : BinOp, (IOp.cmp o).ev ([e, e'].map (·.val env)) = b01 (cmpEv o i j) := by
    intro o; simp [IOp.ev, hi.val, hj.val]
  have mk : ∀ o : BinOp, mkI S k (.bin o k) [e, e'] = .val l r → r.is (runDefs env l) β (.int k (binEv o k i j)) := by
    intro o h
    have := mkI_is (β := β) hn h (by rw [ev2]; exact fits_bin j hif)
    rwa [ev2] at this
  have shiftCase : op = .shl ∨ op = .shr → (bif nneB k' e' then mkI S k (.bin op k) [e, e'] else XR.fail) = .val l r →
      ∃ z, r.is (runDefs env l) β z ∧ Yl P (do eqGuard op t x y (.int k i) (.int k' j); binOp op t (.int k i) (.int k' j)) z := by
    intro ho hx
    cases hb : nneB k' e'
    · simp [hb] at hx
    · simp only [hb, cond_true] at hx
      exact ⟨_, mk op hx, yl_shift t x y i j ho (nneB_spec hb hj hjf)⟩
  have divCase : op = .quo ∨ op = .rem → (bif decide (k = k') && nzB e' then mkI S k (.bin op k) [e, e'] else XR.fail) = .val l r →
      ∃ z, r.is (runDefs env l) β z ∧ Yl P (do eqGuard op t x y (.int k i) (.int k' j); binOp op t (.int k i) (.int k' j)) z := by
    intro ho hx
    cases hb : (decide (k = k') && nzB e')
    · simp [hb] at hx
    · simp only [hb, cond_true] at hx
      rw [Bool.and_eq_true, decide_eq_true_eq] at hb
      obtain ⟨rfl, hb⟩ := hb
      exact ⟨_, mk op hx, yl_div_int t x y i j ho (nzB_spec hb hj)⟩
  have other : (bif decide (k = k') then (bif arithB op then mkI S k (.bin op k) [e, e'] else bif cmpB op then mkB S (.cmp op) [e, e'] else .fail) else XR.fail) = .val l r →
      ∃ z, r.is (runDefs env l) β z ∧ Yl P (do eqGuard op t x y (.int k i) (.int k' j); binOp op t (.int k i) (.int k' j)) z := by
    intro hx
    cases hk : decide (k = k')
    · simp [hk] at hx
    · simp only [hk, cond_true] at hx
      have hk := of_decide_eq_true hk
      subst hk
      cases ha : arithB op
      · simp only [ha, cond_false] at hx
        cases hc : cmpB op
        · simp [hc] at hx
        · simp only [hc, cond_true] at hx
          exact ⟨_, mkB_is (β := β) hn hx (evc op), yl_cmp_int t x y i j hc⟩
      · simp only [ha, cond_true] at hx
        exact ⟨_, mk op hx, yl_bin_int t x y i j ha⟩
  cases op with
  | shl => exact shiftCase (.inl rfl) h
  | shr => exact shiftCase (.inr rfl) h
  | quo => exact divCase (.inl rfl) h
  | rem => exact divCase (.inr rfl) h
  | _ => exact other h

theorem binB_val (hF : FRel env β S a) {op : BinOp} {t : TypeId} {x y : Operand} {e e' : SB} {i j : Bool} {l : List (IOp × List SI)} {r : SV}
    (hi : e.is env i) (hj : e'.is env j) (h : xBinB P S op t e e' = .val l r) :
    ∃ z, r.is (runDefs env l) β z ∧ Yl P (do eqGuard op t x y (.bool i) (.bool j); binOp op t (.bool i) (.bool j)) z := by
  have hn := hF.ne
  unfold xBinB at h
  have k1 := (know_is hF hi).si.val
  have k2 := (know_is hF hj).si.val
  split at h
  · rename_i hu
    have hb := mkB_is (β := β) (t := i == j) hn h (by simp only [IOp.ev, List.map_cons, List.map_nil, k1, k2]; exact congrArg b01 (b01_beq i j))
    refine ⟨_, hb, fun w => ?_⟩
    simp only [Sem.run_bind, guard_bool, Result.andThen_ok, binOp, run_bool_eq hu, Sem.run_pure]
  · rename_i hu
    have hb := mkB_is (β := β) (t := !(i == j)) hn h (by simp only [IOp.ev, List.map_cons, List.map_nil, k1, k2]; exact congrArg b01 (b01_bne i j))
    refine ⟨_, hb, fun w => ?_⟩
    simp only [Sem.run_bind, guard_bool, Result.andThen_ok, binOp, run_bool_eq hu, Sem.run_pure]
  · cases h

theorem eqs_ev {n : Nat} (xs ys : List SI) (hx : xs.length = n) : (IOp.eqs n).ev ((xs ++ ys).map (·.val env)) = b01 (decide (xs.map (·.val env) = ys.map (·.val env))) := by
  have e1 : ((xs ++ ys).map (·.val env)).take n = xs.map (·.val env) := by rw [List.map_append, List.take_append_of_le_length (by simp [hx]), List.take_of_length_le (by simp [hx])]
  have e2 : ((xs ++ ys).map (·.val env)).drop n = ys.map (·.val env) := by rw [List.map_append, List.drop_append_of_le_length (by simp [hx]), List.drop_of_length_le (by simp [hx])]; simp
  simp only [IOp.ev, e1, e2]
  congr 1
  rw [Bool.eq_iff_iff]
  simp

theorem binA_val (hn : env.length = S.ne) {op : BinOp} {t : TypeId} {x y : Operand} {p q : List SC} {vs ws : List Value} {l : List (IOp × List SI)} {r : SV}
    (h1 : All2 (SC.is env β) p vs) (h2 : All2 (SC.is env β) q ws) (h : xBinA P S op t p q = .val l r) :
    ∃ z, r.is (runDefs env l) β z ∧ Yl P (do eqGuard op t x y (.agg vs.toArray) (.agg ws.toArray); binOp op t (.agg vs.toArray) (.agg ws.toArray)) z := by
  unfold xBinA at h
  split at h
  · rename_i n el xs ys hu hx hy
    cases hc : (decide (xs.length = n) && decide (ys.length = n) && decide (usz P el = some 1) && !(P.eqGuardType P.depth t))
    · simp [hc] at h
    · simp only [hc, cond_true] at h
      simp only [Bool.and_eq_true, decide_eq_true_eq, Bool.not_eq_true'] at hc
      obtain ⟨⟨⟨c1, c2⟩, c3⟩, c4⟩ := hc
      have core : P.underlying el = some (.int .u64) → ∀ (op : BinOp) (w : World), (eqGuard op t x y (.agg vs.toArray) (.agg ws.toArray)).run P w = .ok () w ∧
          (Op.equal t (.agg vs.toArray) (.agg ws.toArray)).run P w = .ok (decide (xs.map (·.val env) = ys.map (·.val env))) w := by
        intro he op w
        rw [intsOf_is hx h1, intsOf_is hy h2]
        refine ⟨?_, run_arr_eq hu c3 he _ _ (by simpa using c1) (by simpa using c2) w⟩
        cases op <;> simp [eqGuard, c4]
      have val := eqs_ev (env := env) xs ys c1
      split at h
      · rename_i he
        injection h with h3 h4
        subst h3; subst h4
        refine ⟨.bool (decide (xs.map (·.val env) = ys.map (·.val env))), ⟨_, ?_, rfl⟩, fun w => ?_⟩
        · simp only [SB.is, runDefs, val, ← hn]; simp
        · obtain ⟨g1, g2⟩ := core he .eql w
          simp only [Sem.run_bind, g1, Result.andThen_ok, binOp, g2, Sem.run_pure]
      · rename_i he
        injection h with h3 h4
        subst h3; subst h4
        refine ⟨.bool (!(decide (xs.map (·.val env) = ys.map (·.val env)))), ⟨_, ?_, rfl⟩, fun w => ?_⟩
        · have e1 : (SI.var env.length).val (env ++ [b01 (decide (xs.map (·.val env) = ys.map (·.val env)))]) = b01 (decide (xs.map (·.val env) = ys.map (·.val env))) := by
            simp [SI.val]
          simp only [SB.is, runDefs, val, List.map_cons, List.map_nil, ← hn, e1]
          have : ∀ b : Bool, IOp.ev (.cmp .neq) [b01 b, SI.val (env ++ [b01 b]) (.lit 1)] = b01 (!b) := by intro b; cases b <;> rfl
          simp [this]
        · obtain ⟨g1, g2⟩ := core he .neq w
          simp only [Sem.run_bind, g1, Result.andThen_ok, binOp, g2, Sem.run_pure]
      · cases h
  · cases h

theorem bin_val (hF : FRel env β S a) {op : BinOp} {t : TypeId} {x y : Operand} {u v : SV} {l : List (IOp × List SI)} {r : SV} {m n : Value}
    (hu : u.is env β m) (hv : v.is env β n) (h : xBin P S op t u v = .val l r) :
    ∃ z, r.is (runDefs env l) β z ∧ Yl P (do eqGuard op t x y m n; binOp op t m n) z := by
  unfold xBin at h
  split at h
  · obtain ⟨i, hi, hif, rfl⟩ := hu
    obtain ⟨j, hj, hjf, rfl⟩ := hv
    exact binI_val hF.ne hi hif hj hjf h
  · obtain ⟨i, hi, rfl⟩ := hu
    obtain ⟨j, hj, rfl⟩ := hv
    exact binB_val hF hi hj h
  · obtain ⟨vs, rfl, h1⟩ := hu
    obtain ⟨ws, rfl, h2⟩ := hv
    exact binA_val hF.ne h1 h2 h
  · cases h
end
end Eng
end
section
/-
  What an operation yields by reckoning, against the model's own run: addresses, loads, literals, slices, calls of the library's Add64 and Sub64, len; and all of them together.
-/
namespace Eng
open Go Go.RowKit

section
variable {P : Program} {ext : Nat → Nat} {W0 : World} {Tp : Nat → Nat → Prop} {env : List Int} {β : List (Nat × Nat)} {S : St} {a : Act} {w : World}

theorem addr_add (b o n : Nat) : (⟨b, o, none⟩ : Addr).add n = ⟨b, o + n, none⟩ := by
  unfold Addr.add
  split
  · rename_i h; subst h; rfl
  · rfl

theorem index_val {t : TypeId} {u v : SV} {l : List (IOp × List SI)} {r : SV} {m n : Value}
    (hu : u.is env β m) (hv : v.is env β n) (h : xIndex P t u v = .val l r) : l = [] ∧ ∃ z, r.is env β z ∧ Yl P (Instr.indexAt t m n) z := by
  unfold xIndex at h
  split at h
  · rename_i r q k i
    obtain ⟨x, hx, rfl⟩ := hu
    obtain ⟨j, hj, _, rfl⟩ := hv
    have hji : j = i := hj
    subst hji
    split at h
    · rename_i len el hund
      split at h
      · rename_i sz hsz
        cases hb : (decide (0 ≤ j) && decide (j < (len : Int)))
        · simp [hb] at h
        · simp only [hb, cond_true] at h
          rw [Bool.and_eq_true, decide_eq_true_eq, decide_eq_true_eq] at hb
          injection h with h1 h2
          subst h1; subst h2
          refine ⟨rfl, _, ⟨x, hx, rfl⟩, fun w => ?_⟩
          simp only [Instr.indexAt, asIntOf, Sem.run_bind, Sem.run_pure, Result.andThen_ok, run_underlying hund, Instr.sureAddr, if_pos hb, run_sz hsz]
          rw [addr_add]
          simp [Nat.add_assoc]
      · cases h
    · cases h
  · rename_i r q len cap k i
    obtain ⟨x, hx, rfl⟩ := hu
    obtain ⟨j, hj, _, rfl⟩ := hv
    have hji : j = i := hj
    subst hji
    split at h
    · rename_i el hund
      split at h
      · rename_i sz hsz
        cases hb : (decide (0 ≤ j) && decide (j < (len : Int)))
        · simp [hb] at h
        · simp only [hb, cond_true] at h
          rw [Bool.and_eq_true, decide_eq_true_eq, decide_eq_true_eq] at hb
          injection h with h1 h2
          subst h1; subst h2
          refine ⟨rfl, _, ⟨x, hx, rfl⟩, fun w => ?_⟩
          simp only [Instr.indexAt, asIntOf, Sem.run_bind, Sem.run_pure, Result.andThen_ok, run_underlying hund, if_pos hb, run_sz hsz]
          rw [addr_add]
          simp [Nat.add_assoc]
      · cases h
    · cases h
  · cases h

theorem run_loadCellsFrom (b o : Nat) : ∀ (n i : Nat) (acc vs : List Value), vs.length = n → (∀ j v, vs[j]? = some v → w.cell? ⟨b, o + i + j, none⟩ = some v) →
    (loadCellsFrom ⟨b, o, none⟩ i n acc.toArray).run P w = .ok (acc ++ vs).toArray w
  | 0, i, acc, vs, hl, _ => by
    have : vs = [] := List.eq_nil_of_length_eq_zero hl
    subst this
    simp [loadCellsFrom]
  | n + 1, i, acc, [], hl, _ => by simp at hl
  | n + 1, i, acc, v :: vs, hl, hc => by
    have h0 := hc 0 v rfl
    have ih := run_loadCellsFrom b o n (i + 1) (acc ++ [v]) vs (by simpa using hl) (fun j u hj => by
      have := hc (j + 1) u (by simpa using hj)
      rw [show o + (i + 1) + j = o + i + (j + 1) from by omega]; exact this)
    rw [loadCellsFrom]
    simp only [Sem.run_bind, addr_add, run_load]
    rw [show o + i + 0 = o + i from by omega] at h0
    rw [h0]
    simp only [Result.andThen_ok]
    rw [show acc.toArray.push v = (acc ++ [v]).toArray from by simp, ih]
    simp

theorem load_val (hM : CellsOk env β S.mem w) {t : TypeId} {u : SV} {l : List (IOp × List SI)} {r : SV} {m : Value}
    (hu : u.is env β m) (h : xLoad P S t u = .val l r) : l = [] ∧ ∃ z, r.is env β z ∧ (Instr.loadAt t m).run P w = .ok z w := by
  unfold xLoad at h
  split at h
  · rename_i rg q
    obtain ⟨x, hx, rfl⟩ := hu
    split at h
    · rename_i cs wr sz hr hag hsz
      cases hb : decide (q + sz ≤ cs.length)
      · simp [hb] at h
      · simp only [hb, cond_true] at h
        have hb := of_decide_eq_true hb
        injection h with h1 h2
        subst h1; subst h2
        have hc := hM rg cs wr x hr hx
        have hlen : ((cs.drop q).take sz).length = sz := by simp; omega
        have hall : All2 (SC.is env β) ((cs.drop q).take sz) ((List.range sz).map fun j => (w.cell? ⟨x.1, x.2 + q + j, none⟩).getD undef) := by
          have := All2.of_get (R := SC.is env β) (l := (cs.drop q).take sz) (f := fun j => (w.cell? ⟨x.1, x.2 + q + j, none⟩).getD undef) (fun j sc hj => by
            have hlt : j < sz := by
              have := (List.getElem?_eq_some_iff.1 hj).1
              omega
            rw [List.getElem?_take_of_lt hlt, List.getElem?_drop] at hj
            obtain ⟨v, hv, hs⟩ := hc (q + j) sc hj
            rw [← Nat.add_assoc] at hv
            rw [hv]
            exact hs)
          rw [hlen] at this
          exact this
        refine ⟨rfl, _, ⟨_, rfl, hall⟩, ?_⟩
        simp only [Instr.loadAt, Instr.sureAddr, loadVar, Sem.run_bind, Sem.run_pure, Result.andThen_ok, run_agg hag, if_true, run_sz hsz, loadCells]
        have := run_loadCellsFrom (P := P) (w := w) x.1 (x.2 + q) sz 0 [] ((List.range sz).map fun j => (w.cell? ⟨x.1, x.2 + q + j, none⟩).getD undef) (by simp) (fun j v hj => by
          have hlt : j < sz := by
            have := (List.getElem?_eq_some_iff.1 hj).1
            simpa using this
          simp [hlt] at hj
          have hcs : cs[q + j]? = some cs[q + j] := List.getElem?_eq_getElem (by omega)
          obtain ⟨u, hu, _⟩ := hc (q + j) _ hcs
          rw [← Nat.add_assoc] at hu
          rw [hu] at hj
          simp at hj
          subst hj
          exact hu)
        rw [this]
        simp
    · rename_i cs wr hr hag
      split at h
      · rename_i sc hsc
        injection h with h1 h2
        subst h1; subst h2
        have hc := hM rg cs wr x hr hx
        obtain ⟨v, hv, hs⟩ := hc q sc hsc
        refine ⟨rfl, v, hs, ?_⟩
        simp [Instr.loadAt, Instr.sureAddr, loadVar, run_agg hag, hv]
      · cases h
    · cases h
  · cases h

theorem zero_is {t : TypeId} {cs : List SC} (h : zeroOf P t = some cs) : ∃ z i, P.info? t = some i ∧ i.zero = some z ∧ All2 (SC.is env β) cs z.cells.toList := by
  unfold zeroOf at h
  split at h
  · rename_i i hi
    split at h
    · rename_i z hz
      exact ⟨z, i, hi, hz, ofVals_is h⟩
    · cases h
  · cases h

theorem parts_is (hF : FRel env β S a) : ∀ {ps : List (Nat × Operand)} {qs : List (Nat × SV)}, xParts S ps = some qs →
    All2 (fun (q : Nat × SV) (p : Nat × Value) => q.1 = p.1 ∧ q.2.is env β p.2) qs (ps.map fun p => (p.1, a.eval p.2))
  | [], qs, h => by simp [xParts] at h; subst h; trivial
  | (i, x) :: r, qs, h => by
    unfold xParts at h
    cases hx : xev S x with
    | none => simp [hx] at h
    | some v =>
      cases hr : xParts S r with
      | none => simp [hx, hr] at h
      | some l => simp [hx, hr] at h; subst h; exact ⟨⟨rfl, xev_is hF hx⟩, parts_is hF hr⟩

theorem All2.set {α β : Type} {R : α → β → Prop} : ∀ {l : List α} {m : List β} (i : Nat) {x : α} {y : β}, All2 R l m → R x y → All2 R (l.set i x) (m.set i y)
  | [], [], _, _, _, _, _ => trivial
  | _ :: _, _ :: _, 0, _, _, ⟨_, h2⟩, h => ⟨h, h2⟩
  | _ :: _, _ :: _, i + 1, _, _, ⟨h1, h2⟩, h => ⟨h1, All2.set i h2 h⟩

theorem one_cells {v : Value} (h : v.oneCell' = true) : v.cells = #[v] := by cases v <;> first | rfl | simp [Value.oneCell'] at h

theorem fill_is : ∀ {ps : List (Nat × SV)} {qs : List (Nat × Value)} {cs out : List SC} {vs : List Value},
    All2 (fun (q : Nat × SV) (p : Nat × Value) => q.1 = p.1 ∧ q.2.is env β p.2) ps qs → All2 (SC.is env β) cs vs → xFill cs ps = some out →
    ∃ zs, Instr.fill (fun i => some (i * 1, 1)) vs.toArray qs = some zs.toArray ∧ All2 (SC.is env β) out zs
  | [], [], cs, out, vs, _, hc, h => by simp [xFill] at h; subst h; exact ⟨vs, rfl, hc⟩
  | (i, .ww (.cc x)) :: ps, (j, v) :: qs, cs, out, vs, ⟨⟨hij, hx⟩, hp⟩, hc, h => by
    have hij : i = j := hij
    subst hij
    have hx : x.is env β v := hx
    simp only [xFill] at h
    cases hb : Nat.blt i cs.length
    · simp [hb] at h
    · simp only [hb, cond_true] at h
      have hlt : i < cs.length := by simpa using hb
      obtain ⟨zs, hz, hz2⟩ := fill_is hp (hc.set i hx) h
      refine ⟨zs, ?_, hz2⟩
      have hvl : i < vs.length := by rw [← hc.length]; exact hlt
      have h1 : ¬ (i + 1 > vs.length) := by omega
      rw [Instr.fill]
      simp only [Nat.mul_one, one_cells hx.one]
      simpa [h1] using hz
  | (i, .ww (.aa _)) :: _, _ :: _, _, _, _, _, _, h => by simp [xFill] at h
  | (i, .tt _) :: _, _ :: _, _, _, _, _, _, h => by simp [xFill] at h

theorem slice_val {t : TypeId} {u : SV} {m : Value} {lo hi : Option SV} {lv hv : Option Value} {l : List (IOp × List SI)} {r : SV}
    (hu : u.is env β m) (hl : match lo, lv with | none, none => True | some x, some y => x.is env β y | _, _ => False)
    (hh : match hi, hv with | none, none => True | some x, some y => x.is env β y | _, _ => False)
    (h : xSlice P t u lo hi = .val l r) : l = [] ∧ ∃ z, r.is env β z ∧ Yl P (Instr.sliceAt t m lv hv none) z := by
  unfold xSlice at h
  split at h
  · rename_i n el rg q hund
    obtain ⟨x, hx, rfl⟩ := hu
    split at h
    · rename_i sz hsz
      injection h with h1 h2
      subst h1; subst h2
      match lv, hv, hl, hh with
      | none, none, _, _ =>
      refine ⟨rfl, _, ⟨x, hx, rfl⟩, fun w => ?_⟩
      simp only [Instr.sliceAt, Instr.sliceBounds, Instr.sureAddr, Sem.run_bind, Sem.run_pure, Result.andThen_ok, run_underlying hund, run_sz hsz, addr_add]
      by_cases hn : n = 0
      · simp [hn]
      · simp [hn]
    · rename_i sz k1 i1 k2 i2 hsz
      cases hb : (decide (0 ≤ i1) && decide (i1 ≤ i2) && decide (i2 ≤ (n : Int)) && decide (i1 < (n : Int)))
      · simp [hb] at h
      · simp only [hb, cond_true] at h
        simp only [Bool.and_eq_true, decide_eq_true_eq] at hb
        obtain ⟨⟨⟨b1, b2⟩, b3⟩, b4⟩ := hb
        injection h with h1 h2
        subst h1; subst h2
        match lv, hv, hl, hh with
        | some _, some _, ⟨j1, e1, _, rfl⟩, ⟨j2, e2, _, rfl⟩ =>
        have e1 : j1 = i1 := e1
        have e2 : j2 = i2 := e2
        subst e1; subst e2
        refine ⟨rfl, _, ⟨x, hx, rfl⟩, fun w => ?_⟩
        have c1 : (0 : Int) ≤ j2 ∧ j2 ≤ (n : Int) := ⟨by omega, b3⟩
        have c2 : (0 : Int) ≤ j1 ∧ j1 ≤ ((j2.toNat : Nat) : Int) := ⟨b1, by omega⟩
        have c3 : ¬ n = j1.toNat := by omega
        simp only [Instr.sliceAt, Instr.sliceBounds, Instr.sliceBound, asIntOf, Instr.sureAddr, Sem.run_bind, Sem.run_pure, Result.andThen_ok, run_underlying hund, run_sz hsz, addr_add,
          if_pos c1, if_pos c2, if_neg c3, Nat.add_assoc]
    · cases h
  · cases h
end
end Eng
end
section
/-
  What an operation yields by reckoning, against the model's own run: all operations that yield a value and change nothing.
-/
namespace Eng
open Go Go.RowKit

/-- What is known of the program's functions: 1 is Add64, 2 is Sub64, 0 is a function that is entered. -/
structure Ext (P : Program) (ext : Nat → Nat) : Prop where
  add : ∀ f, ext f = 1 → ∀ (x y c : Int) (w : World), fits .u64 x → fits .u64 y → c.toNat ≤ 1 → (callFunc f #[.int .u64 x, .int .u64 y, .int .u64 c]).run P w =
    .ok (.value (.tuple #[.int .u64 (IOp.addS.ev [x, y, c]), .int .u64 (IOp.addC.ev [x, y, c])])) w
  sub : ∀ f, ext f = 2 → ∀ (x y c : Int) (w : World), c.toNat ≤ 1 → (callFunc f #[.int .u64 x, .int .u64 y, .int .u64 c]).run P w =
    .ok (.value (.tuple #[.int .u64 (IOp.subD.ev [x, y, c]), .int .u64 (IOp.subB.ev [x, y, c])])) w
  enter : ∀ f, ext f = 0 → ∀ (args : Array Value) (w : World), (callFunc f args).run P w = .ok (.enter f args) w

section
variable {P : Program} {ext : Nat → Nat} {W0 : World} {Tp : Nat → Nat → Prop} {env : List Int} {β : List (Nat × Nat)} {S : St} {a : Act} {w : World}

theorem run_call {o : Oper} {c : Call} {f : Nat} (ho : o.op = .call c) (hc : c.callee = .value (.func f)) (w : World) :
    (execOp a.eval o).run P w = (callFunc f (c.args.map a.eval)).run P w := by
  unfold execOp
  rw [ho]
  simp [resolve, hc, Act.eval, Deferred.ofValue, invoke]

theorem bit_toNat (hF : FRel env β S a) {c : SI} {i : Int} (hi : c.is env i) (h : bitB S c = true) : i = 0 ∨ i = 1 := by
  cases c with
  | lit n =>
    have : i = n := hi
    subst this
    simpa [bitB] using h
  | var v =>
    have h2 : env[v]? = some i := hi
    rcases hF.bt v (by simpa [bitB] using h) with h1 | h1 <;> rw [h1] at h2 <;> injection h2 with h2 <;> omega

theorem fits_u64_nat (n : Nat) (h : n < 18446744073709551616) : fits .u64 (n : Int) := by rw [fits_iff]; simp only [kMin, kMax]; omega

theorem fits_add (x y c : Int) : fits .u64 (IOp.addS.ev [x, y, c]) := by
  simp only [IOp.ev]
  exact fits_u64_nat _ (Nat.mod_lt _ (by decide))
theorem fits_sub (x y c : Int) : fits .u64 (IOp.subD.ev [x, y, c]) := by
  simp only [IOp.ev]
  exact fits_u64_nat _ (Nat.mod_lt _ (by decide))
theorem fits_bit {n : Int} (h : n = 0 ∨ n = 1) : fits .u64 n := by rw [fits_iff]; simp only [kMin, kMax]; omega
theorem b01_bit (b : Bool) : b01 b = 0 ∨ b01 b = 1 := by cases b <;> simp [b01]
theorem addC_bit (x y c : Int) : IOp.addC.ev [x, y, c] = 0 ∨ IOp.addC.ev [x, y, c] = 1 := b01_bit _
theorem subB_bit (x y c : Int) : IOp.subB.ev [x, y, c] = 0 ∨ IOp.subB.ev [x, y, c] = 1 := by
  exact b01_bit _

theorem two_defs (o1 o2 : IOp) (x y c : SI) (hx : ∃ n, x.is env n) (hy : ∃ n, y.is env n) (hc : ∃ n, c.is env n) :
    runDefs env [(o1, [x, y, c]), (o2, [x, y, c])] = env ++ [o1.ev [x.val env, y.val env, c.val env], o2.ev [x.val env, y.val env, c.val env]] := by
  obtain ⟨i, hi⟩ := hx
  obtain ⟨j, hj⟩ := hy
  obtain ⟨k, hk⟩ := hc
  simp only [runDefs, List.map_cons, List.map_nil, (hi.more _).val, (hj.more _).val, (hk.more _).val, hi.val, hj.val, hk.val, List.append_assoc, List.cons_append, List.nil_append]

theorem all3 {α β : Type} {R : α → β → Prop} {x y z : α} : ∀ {vs : List β}, All2 R [x, y, z] vs → ∃ a b c, vs = [a, b, c] ∧ R x a ∧ R y b ∧ R z c
  | [a, b, c], ⟨h1, h2, h3, _⟩ => ⟨a, b, c, rfl, h1, h2, h3⟩

theorem call_val (hE : Ext P ext) (hF : FRel env β S a) {f : Nat} {args : List SV} {vs : List Value} {l : List (IOp × List SI)} {r : SV} (ha : All2 (SV.is env β) args vs)
    (h : xCall ext S f args = .val l r) : ∃ u, r.is (runDefs env l) β u ∧ ext f ≠ 0 ∧ ∀ w, (callFunc f vs.toArray).run P w = .ok (.value u) w := by
  have hn := hF.ne
  unfold xCall at h
  split at h
  · rename_i x y c he
    obtain ⟨v1, v2, v3, rfl, a1, a2, a3⟩ := all3 ha
    obtain ⟨i, hi, hif, rfl⟩ : ∃ n, x.is env n ∧ fits .u64 n ∧ v1 = .int .u64 n := a1
    obtain ⟨j, hj, hjf, rfl⟩ : ∃ n, y.is env n ∧ fits .u64 n ∧ v2 = .int .u64 n := a2
    obtain ⟨k, hk, _, rfl⟩ : ∃ n, c.is env n ∧ fits .u64 n ∧ v3 = .int .u64 n := a3
    cases hb : bitB S c
    · simp only [hb, cond_false] at h; cases h
    · simp only [hb, cond_true] at h
      injection h with h1 h2
      subst h1; subst h2
      have hbit := bit_toNat hF hk hb
      refine ⟨_, ?_, by rw [he]; decide, fun w => hE.add f he i j k w hif hjf (by omega)⟩
      rw [two_defs _ _ x y c ⟨i, hi⟩ ⟨j, hj⟩ ⟨k, hk⟩, hi.val, hj.val, hk.val]
      refine ⟨_, rfl, ⟨IOp.addS.ev [i, j, k], ?_, fits_add i j k, rfl⟩, ⟨IOp.addC.ev [i, j, k], ?_, fits_bit (addC_bit i j k), rfl⟩, trivial⟩
      · show (env ++ [_, _])[S.ne]? = some _
        rw [← hn]; simp
      · show (env ++ [_, _])[S.ne + 1]? = some _
        rw [← hn]; simp
  · rename_i x y c he
    obtain ⟨v1, v2, v3, rfl, a1, a2, a3⟩ := all3 ha
    obtain ⟨i, hi, hif, rfl⟩ : ∃ n, x.is env n ∧ fits .u64 n ∧ v1 = .int .u64 n := a1
    obtain ⟨j, hj, hjf, rfl⟩ : ∃ n, y.is env n ∧ fits .u64 n ∧ v2 = .int .u64 n := a2
    obtain ⟨k, hk, _, rfl⟩ : ∃ n, c.is env n ∧ fits .u64 n ∧ v3 = .int .u64 n := a3
    cases hb : bitB S c
    · simp only [hb, cond_false] at h; cases h
    · simp only [hb, cond_true] at h
      injection h with h1 h2
      subst h1; subst h2
      have hbit := bit_toNat hF hk hb
      refine ⟨_, ?_, by rw [he]; decide, fun w => hE.sub f he i j k w (by omega)⟩
      rw [two_defs _ _ x y c ⟨i, hi⟩ ⟨j, hj⟩ ⟨k, hk⟩, hi.val, hj.val, hk.val]
      refine ⟨_, rfl, ⟨IOp.subD.ev [i, j, k], ?_, fits_sub i j k, rfl⟩, ⟨IOp.subB.ev [i, j, k], ?_, fits_bit (subB_bit i j k), rfl⟩, trivial⟩
      · show (env ++ [_, _])[S.ne]? = some _
        rw [← hn]; simp
      · show (env ++ [_, _])[S.ne + 1]? = some _
        rw [← hn]; simp
  · cases h
  · cases h

/-- What the theorem below says of one operation. -/
def ValOk (P : Program) (ext : Nat → Nat) (env : List Int) (β : List (Nat × Nat)) (a : Act) (w : World) (o : Oper) (l : List (IOp × List SI)) (r : SV) : Prop :=
  ∃ u, r.is (runDefs env l) β u ∧ ((tagOf ext o = 0 ∧ ∀ w', (execOp a.eval o).run P w' = .ok (.value u) w') ∨ (tagOf ext o = 1 ∧ (execOp a.eval o).run P w = .ok (.value u) w))

theorem xval_val (hE : Ext P ext) (hF : FRel env β S a) (hM : CellsOk env β S.mem w) {o : Oper} {l : List (IOp × List SI)} {r : SV} (h : xval P ext o S = .val l r) :
    ValOk P ext env β a w o l r := by
  obtain ⟨dst, op, type, pos, after, guard⟩ := o
  cases op with
  | move x =>
    simp only [xval] at h
    split at h
    · rename_i v hv
      injection h with h1 h2
      subst h1; subst h2
      exact ⟨_, xev_is hF hv, .inl ⟨rfl, fun w' => rfl⟩⟩
    · cases h
  | assign x =>
    simp only [xval] at h
    split at h
    · rename_i v hv
      injection h with h1 h2
      subst h1; subst h2
      exact ⟨_, xev_is hF hv, .inl ⟨rfl, fun w' => rfl⟩⟩
    · cases h
  | nilCheck x =>
    simp only [xval] at h
    split at h
    · rename_i rg q hv
      injection h with h1 h2
      subst h1; subst h2
      obtain ⟨y, hy, e⟩ := xev_is hF hv
      refine ⟨_, ⟨y, hy, rfl⟩, .inl ⟨rfl, fun w' => ?_⟩⟩
      simp only [execOp, e]
      rfl
    · cases h
  | pick c x y =>
    simp only [xval] at h
    split at h
    · rename_i e u v hc hx hy
      split at h
      · rename_i t hk
        injection h with h1 h2
        subst h1; subst h2
        obtain ⟨t', ht', e'⟩ := xev_is hF hc
        have ht := know_is hF ht'
        rw [hk] at ht
        have ht : t' = t := ht
        subst ht
        refine ⟨if t' = true then a.eval x else a.eval y, ?_, .inl ⟨rfl, fun w' => ?_⟩⟩
        · cases t'
          · exact xev_is hF hy
          · exact xev_is hF hx
        · simp only [execOp, e', asBool]
          cases t' <;> rfl
      · cases h
    · cases h
  | extract t i =>
    simp only [xval] at h
    split at h
    · rename_i ls hv
      split at h
      · rename_i x hx
        injection h with h1 h2
        subst h1; subst h2
        obtain ⟨vs, e, hall⟩ := xev_is hF hv
        obtain ⟨y, hy, hys⟩ := hall.get hx
        refine ⟨y, hys, .inl ⟨rfl, fun w' => ?_⟩⟩
        simp [execOp, e, Instr.extract, hy]
      · cases h
    · cases h
  | indexAddr t x ix =>
    simp only [xval] at h
    split at h
    · rename_i u v hu hv
      obtain ⟨rfl, z, hz, hy⟩ := index_val (P := P) (xev_is hF hu) (xev_is hF hv) h
      exact ⟨z, hz, .inl ⟨rfl, fun w' => by simp [execOp, hy w']⟩⟩
    · cases h
  | load t x =>
    simp only [xval] at h
    split at h
    · rename_i u hu
      obtain ⟨rfl, z, hz, hy⟩ := load_val (P := P) hM (xev_is hF hu) h
      exact ⟨z, hz, .inr ⟨rfl, by simp [execOp, hy]⟩⟩
    · cases h
  | store t x y =>
    simp only [xval] at h
    split at h
    · simp only [xStore] at h
      split at h
      · split at h
        · unfold cond at h
          split at h <;> cases h
        · cases h
      · cases h
    · cases h
  | alloc t =>
    simp only [xval] at h
    split at h <;> cases h
  | box t x =>
    simp only [xval] at h
    split at h <;> cases h
  | build t parts =>
    simp only [xval] at h
    split at h
    · rename_i n el z ps hund hz hps
      cases hb : decide (usz P el = some 1)
      · simp [hb] at h
      · simp only [hb, cond_true] at h
        have hb := of_decide_eq_true hb
        split at h
        · rename_i cs hcs
          injection h with h1 h2
          subst h1; subst h2
          obtain ⟨zv, i, hi, hz0, hzc⟩ := zero_is (env := env) (β := β) hz
          have hparts := parts_is hF hps
          obtain ⟨zs, hfill, hzs⟩ := fill_is hparts hzc hcs
          refine ⟨.agg zs.toArray, ⟨zs, rfl, hzs⟩, .inl ⟨rfl, fun w' => ?_⟩⟩
          have hp : (parts.map fun x => (x.1, a.eval x.2)).toList = parts.toList.map fun p => (p.1, a.eval p.2) := by simp
          have hq : (zv.cells.toList).toArray = zv.cells := by simp
          rw [hq] at hfill
          simp only [execOp, Instr.build, zeroValue, typeInfo, Sem.run_bind, run_program, Result.andThen_ok, hi, hz0, Sem.run_pure, run_underlying hund, run_sz hb]
          rw [hp, hfill]
          simp
        · cases h
    · cases h
  | buildSlice t n parts =>
    simp only [xval] at h
    split at h
    · split at h
      · unfold cond at h
        split at h
        · split at h <;> cases h
        · cases h
      · cases h
    · cases h
  | makeSlice t x y =>
    simp only [xval] at h
    split at h
    · split at h
      · unfold cond at h
        split at h <;> cases h
      · cases h
    · cases h
  | slice t x lo hi mx =>
    simp only [xval] at h
    split at h
    · rename_i u hu
      split at h
      · obtain ⟨rfl, z, hz, hy⟩ := slice_val (P := P) (lv := none) (hv := none) (xev_is hF hu) trivial trivial h
        exact ⟨z, hz, .inl ⟨rfl, fun w' => by simp [execOp, hy w']⟩⟩
      · rename_i lo hi
        split at h
        · rename_i p q hp hq
          obtain ⟨rfl, z, hz, hy⟩ := slice_val (P := P) (lv := some (a.eval lo)) (hv := some (a.eval hi)) (xev_is hF hu) (xev_is hF hp) (xev_is hF hq) h
          exact ⟨z, hz, .inl ⟨rfl, fun w' => by simp [execOp, hy w']⟩⟩
        · cases h
      · cases h
    · cases h
  | binOp op t x y yt =>
    simp only [xval] at h
    split at h
    · rename_i u v hu hv
      obtain ⟨z, hz, hy⟩ := bin_val (P := P) (x := x) (y := y) hF (xev_is hF hu) (xev_is hF hv) h
      refine ⟨z, hz, .inl ⟨rfl, fun w' => ?_⟩⟩
      have := hy w'
      simp only [execOp]
      rw [Sem.run_bind, this]
      rfl
    · cases h
  | unOp op t x =>
    cases op with
    | not =>
      simp only [xval] at h
      split at h
      · rename_i e he
        split at h
        · rename_i t' hk
          injection h with h1 h2
          subst h1; subst h2
          obtain ⟨p, hp, e'⟩ := xev_is hF he
          have ht := know_is hF hp
          rw [hk] at ht
          have ht : p = t' := ht
          subst ht
          exact ⟨.bool (!p), ⟨!p, rfl, rfl⟩, .inl ⟨rfl, fun w' => by simp [execOp, e', Op.unary]⟩⟩
        · cases h
      · cases h
    | _ => simp [xval] at h
  | convert s d x =>
    simp only [xval] at h
    split at h
    · rename_i ds k k' e hs hd he
      obtain ⟨n, hn, hf, e'⟩ := xev_is hF he
      have hv : (IOp.conv k).ev ([e].map (·.val env)) = k.wrap n := by simp [IOp.ev, hn.val]
      have := mkI_is (β := β) hF.ne h (by rw [hv]; exact fits_wrap k n)
      rw [hv] at this
      refine ⟨_, this, .inl ⟨rfl, fun w' => ?_⟩⟩
      simp only [execOp, e', convert, Sem.run_bind, run_underlying hs, run_underlying hd, Result.andThen_ok, Conv.intToInt, Sem.run_pure]
    · cases h
  | call c =>
    simp only [xval] at h
    split at h
    · rename_i hc
      split at h
      · rename_i x t hx ht
        split at h
        · rename_i el rg q n cap hund hv
          cases hb : Nat.ble n 9223372036854775807
          · simp [hb] at h
          · simp only [hb, cond_true] at h
            have hn := Nat.le_of_ble_eq_true hb
            injection h with h1 h2
            subst h1; subst h2
            obtain ⟨y, hy, e⟩ := xev_is hF hv
            have hargs : c.args = #[x] := by rw [← Array.toList_inj]; simpa using hx
            refine ⟨.int .i64 n, ⟨n, rfl, by rw [fits_iff]; simp only [kMin, kMax]; omega, rfl⟩, .inl ⟨by simp [tagOf, hc], fun w' => ?_⟩⟩
            simp [execOp, resolve, hc, hargs, e, invoke, builtin, Builtin.len_, ht, run_underlying hund, goInt]
        · rename_i n el v hund hv
          cases hb : Nat.ble n 9223372036854775807
          · simp [hb] at h
          · simp only [hb, cond_true] at h
            have hn := Nat.le_of_ble_eq_true hb
            injection h with h1 h2
            subst h1; subst h2
            have hargs : c.args = #[x] := by rw [← Array.toList_inj]; simpa using hx
            refine ⟨.int .i64 n, ⟨n, rfl, by rw [fits_iff]; simp only [kMin, kMax]; omega, rfl⟩, .inl ⟨by simp [tagOf, hc], fun w' => ?_⟩⟩
            simp [execOp, resolve, hc, hargs, invoke, builtin, Builtin.len_, ht, run_underlying hund, goInt]
        · cases h
      · cases h
    · rename_i f hc
      split at h
      · rename_i args hargs
        have hall := xevs_is hF hargs
        obtain ⟨u, hu, hne, hr⟩ := call_val (P := P) hE hF hall h
        refine ⟨u, hu, .inl ⟨by simp [tagOf, hc, hne], fun w' => ?_⟩⟩
        rw [run_call (P := P) (a := a) (c := c) (f := f) rfl hc w']
        have : c.args.map a.eval = (c.args.toList.map a.eval).toArray := by rw [← Array.toList_map, Array.toArray_toList]
        rw [this]
        exact hr w'
      · cases h
    · cases h
  | _ => simp [xval] at h
end
end Eng
end
section
/-
  The walk by reckoning: stores and new memory, trees of what is to be shown, operations in a row, code; and why a tree that holds shows what the code does.
-/
namespace Eng
open Go Go.RowKit

theorem bit_ev {o : IOp} (h : o.bit = true) (xs : List Int) : o.ev xs = 0 ∨ o.ev xs = 1 := by
  cases o <;> simp [IOp.bit] at h <;> exact b01_bit _

def bitsOf (ne : Nat) : List (IOp × List SI) → List Nat → List Nat
  | [], bt => bt
  | (o, _) :: r, bt => bitsOf (ne + 1) r (bif o.bit then ne :: bt else bt)

def St.grow (S : St) (l : List (IOp × List SI)) : St := { S with ne := S.ne + l.length, bt := bitsOf S.ne l S.bt }

def wrAt (cs : List SC) (n : Nat) : List SC → List SC
  | [] => cs
  | s :: r => wrAt (cs.set n s) (n + 1) r

theorem wrAt_length : ∀ (l : List SC) (cs : List SC) (n : Nat), (wrAt cs n l).length = cs.length
  | [], _, _ => rfl
  | s :: r, cs, n => by rw [wrAt, wrAt_length r]; simp

section
variable {P : Program} {ext : Nat → Nat} {W0 : World} {Tp : Nat → Nat → Prop} {env : List Int} {β : List (Nat × Nat)} {S : St} {a : Act} {w : World}

theorem FRel.grow : ∀ (l : List (IOp × List SI)) {env : List Int} {S : St}, FRel env β S a → FRel (runDefs env l) β (S.grow l) a
  | [], env, S, h => h
  | (o, xs) :: r, env, S, h => by
    have h1 := h.more [o.ev (xs.map (·.val env))] []
    rw [List.append_nil] at h1
    have h2 : FRel (env ++ [o.ev (xs.map (·.val env))]) β { S with ne := S.ne + 1, bt := bif o.bit then S.ne :: S.bt else S.bt } a := by
      refine ⟨h1.ne, h1.nd, h1.nt, h1.tm, h1.fx, fun x hx => ?_⟩
      cases hb : o.bit
      · simp only [hb, cond_false] at hx; exact h1.bt x hx
      · simp only [hb, cond_true] at hx
        rcases List.mem_cons.1 hx with rfl | hx
        · have : (env ++ [o.ev (xs.map (·.val env))])[S.ne]? = some (o.ev (xs.map (·.val env))) := by rw [← h.ne]; simp
          rcases bit_ev hb (xs.map (·.val env)) with h3 | h3 <;> rw [this, h3] <;> simp
        · exact h1.bt x hx
    have h3 := FRel.grow r h2
    have e : ({ S with ne := S.ne + 1, bt := bif o.bit then S.ne :: S.bt else S.bt } : St).grow r = S.grow ((o, xs) :: r) := by
      simp only [St.grow, bitsOf, List.length_cons]
      congr 1
      omega
    rw [e] at h3
    exact h3

theorem MRel.grow {mem : List (List SC × Bool)} (h : MRel W0 Tp env β mem w) (l : List (IOp × List SI)) : MRel W0 Tp (runDefs env l) β mem w := by
  obtain ⟨e', he, _⟩ := runDefs_more l env
  rw [he]; exact h.more e'

theorem store_ok {r : Nat} {x : Nat × Nat} (q : Nat) (hx : β[r]? = some x) : ∀ (scs : List SC) (vs : List Value) (i : Nat) (w : World) (mem : List (List SC × Bool)) (cs : List SC),
    MRel W0 Tp env β mem w → mem[r]? = some (cs, true) → All2 (SC.is env β) scs vs → q + i + scs.length ≤ cs.length →
    ∃ w', (storeCells ⟨x.1, x.2 + q, none⟩ vs i).run P w = .ok () w' ∧ MRel W0 Tp env β (mem.set r (wrAt cs (q + i) scs, true)) w'
  | [], [], i, w, mem, cs, hM, hr, _, _ => by
    refine ⟨w, rfl, ?_⟩
    have : mem.set r (wrAt cs (q + i) [], true) = mem := by
      apply List.ext_getElem?
      intro j
      by_cases hj : r = j
      · subst hj
        rw [List.getElem?_set_self (List.getElem?_eq_some_iff.1 hr).1, hr]; rfl
      · rw [List.getElem?_set_ne hj]
    rw [this]; exact hM
  | s :: scs, v :: vs, i, w, mem, cs, hM, hr, ⟨h1, h2⟩, hl => by
    have hlt : q + i < cs.length := by simp at hl; omega
    have hM' := hM.set1 hr hlt hx h1
    obtain ⟨y, hy, _, hc, hf⟩ := hM.cell r cs true hr
    rw [hx] at hy
    injection hy with hy
    subst hy
    obtain ⟨u, hu, _⟩ := hc (q + i) cs[q + i] (List.getElem?_eq_getElem hlt)
    have hfr := (hf rfl (q + i) hlt).1
    have hr' : (mem.set r (cs.set (q + i) s, true))[r]? = some (cs.set (q + i) s, true) := by
      rw [List.getElem?_set_self (List.getElem?_eq_some_iff.1 hr).1]
    obtain ⟨w', hrun, hM2⟩ := store_ok q hx scs vs (i + 1) _ _ _ hM' hr' h2 (by simp at hl ⊢; omega)
    refine ⟨w', ?_, ?_⟩
    · rw [storeCells]
      simp only [Sem.run_bind, addr_add, run_store P w _ v _ h1.one]
      rw [show x.2 + q + i = x.2 + (q + i) from by omega, hu, hfr]
      simpa using hrun
    · rw [wrAt]
      rw [List.set_set] at hM2
      rw [← Nat.add_assoc] at hM2
      exact hM2

theorem xval_sto (hF : FRel env β S a) (hM : MRel W0 Tp env β S.mem w) {o : Oper} {r q : Nat} {cs : List SC} (h : xval P ext o S = .sto r q cs) :
    ∃ old b w', S.mem[r]? = some (old, b) ∧ (execOp a.eval o).run P w = .ok .skip w' ∧ MRel W0 Tp env β (S.mem.set r (wrAt old q cs, true)) w' ∧ tagOf ext o = 2 := by
  obtain ⟨dst, op, type, pos, after, guard⟩ := o
  have noI : ∀ {k : IntKind} {o : IOp} {xs : List SI}, mkI S k o xs ≠ .sto r q cs := by
    intro k o xs; unfold mkI; split
    · unfold cond; split <;> simp
    · simp
  have noB : ∀ {o : IOp} {xs : List SI}, mkB S o xs ≠ .sto r q cs := by
    intro o xs; unfold mkB; split <;> simp
  cases op with
  | store t x y =>
    simp only [xval] at h
    split at h
    · rename_i u v hu hv
      unfold xStore at h
      split at h
      · rename_i rg qq vv
        split at h
        · rename_i old sz hr hsz
          cases hb : (decide (vv.cells.length = sz) && decide (qq + sz ≤ old.length))
          · simp [hb] at h
          · simp only [hb, cond_true] at h
            simp only [Bool.and_eq_true, decide_eq_true_eq] at hb
            injection h with h1 h2 h3
            subst h1; subst h2; subst h3
            obtain ⟨x', hx', e1⟩ := xev_is hF hu
            have hcells := (show SW.is env β vv (a.eval y) from xev_is hF hv).cells
            obtain ⟨w', hrun, hM'⟩ := store_ok (P := P) qq hx' vv.cells _ 0 w S.mem old hM hr hcells (by omega)
            refine ⟨old, true, w', hr, ?_, hM', rfl⟩
            have hlen := hcells.length
            have hsize : ¬ (a.eval y).cells.size ≠ sz := by
              simp only [Array.length_toList] at hlen
              omega
            simp only [execOp, e1, Instr.storeAt, Instr.sureAddr, storeVar, Sem.run_bind, Sem.run_pure, Result.andThen_ok, run_sz hsz, if_neg hsize, hrun]
        · cases h
      · cases h
    · cases h
  | move x => simp only [xval] at h; split at h <;> cases h
  | assign x => simp only [xval] at h; split at h <;> cases h
  | nilCheck x => simp only [xval] at h; split at h <;> cases h
  | pick c x y => simp only [xval] at h; split at h <;> first | (split at h <;> cases h) | cases h
  | extract t i => simp only [xval] at h; split at h <;> first | (split at h <;> cases h) | cases h
  | indexAddr t x ix =>
    simp only [xval] at h
    split at h
    · unfold xIndex at h
      split at h <;> first | (split at h <;> first | (split at h <;> first | (unfold cond at h; split at h <;> cases h) | cases h) | cases h) | cases h
    · cases h
  | load t x =>
    simp only [xval] at h
    split at h
    · unfold xLoad at h
      split at h <;> first | (split at h <;> first | (split at h <;> cases h) | (unfold cond at h; split at h <;> cases h) | cases h) | cases h
    · cases h
  | alloc t => simp only [xval] at h; split at h <;> cases h
  | box t x => simp only [xval] at h; split at h <;> cases h
  | build t parts =>
    simp only [xval] at h
    split at h
    · unfold cond at h; split at h <;> first | (split at h <;> cases h) | cases h
    · cases h
  | buildSlice t n parts =>
    simp only [xval] at h
    split at h
    · split at h
      · unfold cond at h; split at h <;> first | (split at h <;> cases h) | cases h
      · cases h
    · cases h
  | makeSlice t x y =>
    simp only [xval] at h
    split at h
    · split at h
      · unfold cond at h; split at h <;> cases h
      · cases h
    · cases h
  | slice t x lo hi mx =>
    have noS : ∀ {u : SV} {lo hi : Option SV}, xSlice P t u lo hi ≠ .sto r q cs := by
      intro u lo hi; unfold xSlice; split
      · split
        · simp
        · unfold cond; split <;> simp
        · simp
      · simp
    simp only [xval] at h
    split at h
    · split at h
      · exact absurd h noS
      · split at h
        · exact absurd h noS
        · cases h
      · cases h
    · cases h
  | binOp op t x y yt =>
    simp only [xval] at h
    split at h
    · exfalso
      unfold xBin at h
      split at h
      · unfold xBinI at h
        split at h <;> (unfold cond at h; split at h <;> first | exact noI h | cases h | (split at h <;> first | exact noI h | (split at h <;> first | exact noB h | cases h)))
      · unfold xBinB at h
        split at h <;> first | exact noB h | cases h
      · unfold xBinA at h
        split at h
        · unfold cond at h; split at h <;> first | (split at h <;> cases h) | cases h
        · cases h
      · cases h
    · cases h
  | unOp op t x =>
    cases op with
    | not => simp only [xval] at h; split at h <;> first | (split at h <;> cases h) | cases h
    | _ => simp [xval] at h
  | convert s d x =>
    simp only [xval] at h
    split at h <;> first | exact absurd h noI | cases h
  | call c =>
    simp only [xval] at h
    split at h
    · split at h
      · split at h <;> first | (unfold cond at h; split at h <;> cases h) | cases h
      · cases h
    · split at h
      · unfold xCall at h
        split at h <;> first | (unfold cond at h; split at h <;> cases h) | cases h
      · cases h
    · cases h
  | _ => simp [xval] at h
end
end Eng
end
section
/-
  The walk by reckoning: new memory.
-/
namespace Eng
open Go Go.RowKit

section
variable {P : Program} {ext : Nat → Nat} {W0 : World} {Tp : Nat → Nat → Prop} {env : List Int} {β : List (Nat × Nat)} {S : St} {a : Act} {w : World}

theorem all2_one {α β : Type} {R : α → β → Prop} {x : α} : ∀ {vs : List β}, All2 R [x] vs → ∃ v, vs = [v] ∧ R x v
  | [v], ⟨h, _⟩ => ⟨v, rfl, h⟩

theorem all2_rep {α β : Type} {R : α → β → Prop} {x : α} {y : β} (h : R x y) : ∀ n, All2 R (List.replicate n x) (List.replicate n y)
  | 0 => trivial
  | n + 1 => ⟨h, all2_rep h n⟩

theorem made_one (z : Value) (n : Nat) : (Array.range n).map (fun x => (#[z] : Array Value)[x % (#[z] : Array Value).size]!) = Array.replicate n z := by
  apply Array.ext
  · simp
  · intro i h1 h2
    simp [Nat.mod_one]

/-- What the theorem below says of one operation. -/
def NewOk (P : Program) (W0 : World) (Tp : Nat → Nat → Prop) (env : List Int) (β : List (Nat × Nat)) (S : St) (a : Act) (w : World) (o : Oper) (cs : List SC) (v : SC) : Prop :=
  ∃ w' u, (execOp a.eval o).run P w = .ok (.value u) w' ∧ MRel W0 Tp env (β ++ [(w.heap.size, 0)]) (S.mem ++ [(cs, true)]) w' ∧ v.is env (β ++ [(w.heap.size, 0)]) u

theorem newPtr (hM : MRel W0 Tp env β S.mem w) : (SC.pp S.mem.length 0).is env (β ++ [(w.heap.size, 0)]) (.pointer (some ⟨w.heap.size, 0, none⟩)) :=
  ⟨(w.heap.size, 0), by rw [← hM.nb]; simp, rfl⟩
theorem newSl (hM : MRel W0 Tp env β S.mem w) (n : Nat) : (SC.ss S.mem.length 0 n n).is env (β ++ [(w.heap.size, 0)]) (.slice (some ⟨w.heap.size, 0, none⟩) n n) :=
  ⟨(w.heap.size, 0), by rw [← hM.nb]; simp, rfl⟩

theorem xval_new (hF : FRel env β S a) (hM : MRel W0 Tp env β S.mem w) {o : Oper} {t0 : TypeId} {cs : List SC} {v : SC} (h : xval P ext o S = .new t0 cs v) :
    NewOk P W0 Tp env β S a w o cs v ∧ tagOf ext o = 2 := by
  obtain ⟨dst, op, type, pos, after, guard⟩ := o
  have noI : ∀ {k : IntKind} {o : IOp} {xs : List SI}, mkI S k o xs ≠ .new t0 cs v := by
    intro k o xs; unfold mkI; split
    · unfold cond; split <;> simp
    · simp
  have noB : ∀ {o : IOp} {xs : List SI}, mkB S o xs ≠ .new t0 cs v := by
    intro o xs; unfold mkB; split <;> simp
  cases op with
  | alloc t =>
    simp only [xval] at h
    split at h
    · rename_i zs hz
      injection h with h1 h2 h3
      subst h1; subst h2; subst h3
      obtain ⟨z, i, hi, hz0, hall⟩ := zero_is (env := env) (β := β) hz
      refine ⟨⟨w.alloc (.cells z.cells.toList.toArray t), _, ?_, hM.alloc t hall, newPtr hM⟩, rfl⟩
      simp [execOp, Instr.alloc, zeroValue, typeInfo, hi, hz0, newVar, newRow]
    · cases h
  | box t x =>
    simp only [xval] at h
    split at h
    · rename_i u hu
      injection h with h1 h2 h3
      subst h1; subst h2; subst h3
      have hcells := (show SW.is env β u (a.eval x) from xev_is hF hu).cells
      refine ⟨⟨w.alloc (.cells (a.eval x).cells.toList.toArray t), _, ?_, hM.alloc t hcells, newPtr hM⟩, rfl⟩
      simp [execOp, Instr.box, newVar, newRow]
    · cases h
  | buildSlice t n parts =>
    simp only [xval] at h
    split at h
    · rename_i el hund
      split at h
      · rename_i z ps hz hps
        cases hb : (decide (usz P el = some 1) && Nat.blt 0 n && Nat.ble n 4096)
        · simp [hb] at h
        · simp only [hb, cond_true] at h
          simp only [Bool.and_eq_true, decide_eq_true_eq] at hb
          obtain ⟨⟨b1, b2⟩, b3⟩ := hb
          have b2 : 0 < n := by simpa using b2
          have b3 := Nat.le_of_ble_eq_true b3
          split at h
          · rename_i out hout
            injection h with h1 h2 h3
            subst h1; subst h2; subst h3
            obtain ⟨zv, i, hi, hz0, hall⟩ := zero_is (env := env) (β := β) hz
            obtain ⟨z1, hz1, hzr⟩ := all2_one hall
            have hzc : zv.cells = #[z1] := by rw [← Array.toList_inj]; simpa using hz1
            obtain ⟨zs, hfill, hzs⟩ := fill_is (parts_is hF hps) (all2_rep hzr n) hout
            refine ⟨⟨w.alloc (.cells zs.toArray el), _, ?_, hM.alloc el hzs, newSl hM n⟩, rfl⟩
            have hp : (parts.map fun x => (x.1, a.eval x.2)).toList = parts.toList.map fun p => (p.1, a.eval p.2) := by simp
            have hbig : ¬ (n * 1 > 2 ^ 24) := by omega
            have hz : ¬ (n * 1 = 0) := by omega
            have hrep : (List.replicate n z1).toArray = Array.replicate n z1 := by simp
            rw [hrep] at hfill
            simp only [execOp, Instr.buildSlice, Sem.run_bind, run_underlying hund, Result.andThen_ok, run_sz b1, if_neg hbig, if_neg hz, zeroValue, typeInfo, run_program, hi, hz0, Sem.run_pure, hzc]
            rw [Nat.mul_one, made_one, hp, hfill]
            simp [newRow]
          · cases h
      · cases h
    · cases h
  | makeSlice t x y =>
    simp only [xval] at h
    split at h
    · rename_i el k1 n k2 m hund hx hy
      split at h
      · rename_i z hz
        cases hb : (decide (usz P el = some 1) && decide (0 ≤ n) && decide (n = m) && decide (n ≤ 4096) && smallB P el)
        · simp only [hb, cond_false] at h; cases h
        · simp only [hb, cond_true] at h
          simp only [Bool.and_eq_true, decide_eq_true_eq] at hb
          obtain ⟨⟨⟨⟨b1, b2⟩, b3⟩, b4⟩, b5⟩ := hb
          subst b3
          injection h with h1 h2 h3
          subst h1; subst h2; subst h3
          obtain ⟨zv, i, hi, hz0, hall⟩ := zero_is (env := env) (β := β) hz
          obtain ⟨z1, hz1, hzr⟩ := all2_one hall
          have hzc : zv.cells = #[z1] := by rw [← Array.toList_inj]; simpa using hz1
          obtain ⟨n', e1, _, hxv⟩ := xev_is hF hx
          obtain ⟨m', e2, _, hyv⟩ := xev_is hF hy
          have e1 : n' = n := e1
          have e2 : m' = n := e2
          subst e1; subst e2
          have hbytes : i.bytes ≤ 16 := by
            simp only [smallB, hi] at b5
            exact Nat.le_of_ble_eq_true b5
          have hsz : i.size = 1 := by simpa [usz, hi] using b1
          have hbn : (i.bytes : Int) * m' ≤ 281474976710656 := by
            have h1 : (i.bytes : Int) * m' ≤ 16 * m' := Int.mul_le_mul_of_nonneg_right (by omega) b2
            omega
          have hrun := run_make (P := P) w t el i zv hund hi hz0 k1 k2 m' m' b2 (Int.le_refl _) hbn (by omega)
          refine ⟨⟨w.alloc (.cells (List.replicate m'.toNat z1).toArray el), _, ?_, hM.alloc el (all2_rep hzr _), newSl hM _⟩, rfl⟩
          simp only [execOp, hxv, hyv]
          rw [Sem.run_bind, hrun, hsz, hzc, madeCells, Nat.mul_one, made_one]
          simp
      · cases h
    · cases h
  | move x => simp only [xval] at h; split at h <;> cases h
  | assign x => simp only [xval] at h; split at h <;> cases h
  | nilCheck x => simp only [xval] at h; split at h <;> cases h
  | pick c x y => simp only [xval] at h; split at h <;> first | (split at h <;> cases h) | cases h
  | extract t i => simp only [xval] at h; split at h <;> first | (split at h <;> cases h) | cases h
  | indexAddr t x ix =>
    simp only [xval] at h
    split at h
    · unfold xIndex at h
      split at h <;> first | (split at h <;> first | (split at h <;> first | (unfold cond at h; split at h <;> cases h) | cases h) | cases h) | cases h
    · cases h
  | load t x =>
    simp only [xval] at h
    split at h
    · unfold xLoad at h
      split at h <;> first | (split at h <;> first | (split at h <;> cases h) | (unfold cond at h; split at h <;> cases h) | cases h) | cases h
    · cases h
  | store t x y =>
    simp only [xval] at h
    split at h
    · simp only [xStore] at h
      split at h
      · split at h
        · unfold cond at h; split at h <;> cases h
        · cases h
      · cases h
    · cases h
  | build t parts =>
    simp only [xval] at h
    split at h
    · unfold cond at h; split at h <;> first | (split at h <;> cases h) | cases h
    · cases h
  | slice t x lo hi mx =>
    have noS : ∀ {t' : TypeId} {u : SV} {lo hi : Option SV}, xSlice P t' u lo hi ≠ .new t0 cs v := by
      intro t' u lo hi; unfold xSlice; split
      · split
        · simp
        · unfold cond; split <;> simp
        · simp
      · simp
    simp only [xval] at h
    split at h
    · split at h
      · exact absurd h noS
      · split at h
        · exact absurd h noS
        · cases h
      · cases h
    · cases h
  | binOp op t x y yt =>
    simp only [xval] at h
    split at h
    · exfalso
      unfold xBin at h
      split at h
      · unfold xBinI at h
        split at h <;> (unfold cond at h; split at h <;> first | exact noI h | cases h | (split at h <;> first | exact noI h | (split at h <;> first | exact noB h | cases h)))
      · unfold xBinB at h
        split at h <;> first | exact noB h | cases h
      · unfold xBinA at h
        split at h
        · unfold cond at h; split at h <;> first | (split at h <;> cases h) | cases h
        · cases h
      · cases h
    · cases h
  | unOp op t x =>
    cases op with
    | not => simp only [xval] at h; split at h <;> first | (split at h <;> cases h) | cases h
    | _ => simp [xval] at h
  | convert s d x =>
    simp only [xval] at h
    split at h <;> first | exact absurd h noI | cases h
  | call c =>
    simp only [xval] at h
    split at h
    · split at h
      · split at h <;> first | (unfold cond at h; split at h <;> cases h) | cases h
      · cases h
    · split at h
      · unfold xCall at h
        split at h <;> first | (unfold cond at h; split at h <;> cases h) | cases h
      · cases h
    · cases h
  | _ => simp [xval] at h

/-- Of a call. -/
theorem xval_call (hF : FRel env β S a) {o : Oper} {f : Nat} {args : List SV} (h : xval P ext o S = .call f args) :
    ∃ c vs, o.op = .call c ∧ c.callee = .value (.func f) ∧ All2 (SV.is env β) args vs ∧ c.args.map a.eval = vs.toArray ∧ ext f = 0 ∧ tagOf ext o = 2 := by
  obtain ⟨dst, op, type, pos, after, guard⟩ := o
  have noI : ∀ {k : IntKind} {o : IOp} {xs : List SI}, mkI S k o xs ≠ .call f args := by
    intro k o xs; unfold mkI; split
    · unfold cond; split <;> simp
    · simp
  have noB : ∀ {o : IOp} {xs : List SI}, mkB S o xs ≠ .call f args := by
    intro o xs; unfold mkB; split <;> simp
  cases op with
  | call c =>
    simp only [xval] at h
    split at h
    · split at h
      · split at h <;> first | (unfold cond at h; split at h <;> cases h) | cases h
      · cases h
    · rename_i g hc
      split at h
      · rename_i l hl
        unfold xCall at h
        split at h
        · unfold cond at h; split at h <;> cases h
        · unfold cond at h; split at h <;> cases h
        · rename_i he
          injection h with h1 h2
          subst h1; subst h2
          refine ⟨c, _, rfl, hc, xevs_is hF hl, by rw [← Array.toList_map, Array.toArray_toList], he, by simp [tagOf, hc, he]⟩
        · cases h
      · cases h
    · cases h
  | move x => simp only [xval] at h; split at h <;> cases h
  | assign x => simp only [xval] at h; split at h <;> cases h
  | nilCheck x => simp only [xval] at h; split at h <;> cases h
  | pick c x y => simp only [xval] at h; split at h <;> first | (split at h <;> cases h) | cases h
  | extract t i => simp only [xval] at h; split at h <;> first | (split at h <;> cases h) | cases h
  | indexAddr t x ix =>
    simp only [xval] at h
    split at h
    · unfold xIndex at h
      split at h <;> first | (split at h <;> first | (split at h <;> first | (unfold cond at h; split at h <;> cases h) | cases h) | cases h) | cases h
    · cases h
  | load t x =>
    simp only [xval] at h
    split at h
    · unfold xLoad at h
      split at h <;> first | (split at h <;> first | (split at h <;> cases h) | (unfold cond at h; split at h <;> cases h) | cases h) | cases h
    · cases h
  | alloc t => simp only [xval] at h; split at h <;> cases h
  | box t x => simp only [xval] at h; split at h <;> cases h
  | store t x y =>
    simp only [xval] at h
    split at h
    · simp only [xStore] at h
      split at h
      · split at h
        · unfold cond at h; split at h <;> cases h
        · cases h
      · cases h
    · cases h
  | build t parts =>
    simp only [xval] at h
    split at h
    · unfold cond at h; split at h <;> first | (split at h <;> cases h) | cases h
    · cases h
  | buildSlice t n parts =>
    simp only [xval] at h
    split at h
    · split at h
      · unfold cond at h; split at h <;> first | (split at h <;> cases h) | cases h
      · cases h
    · cases h
  | makeSlice t x y =>
    simp only [xval] at h
    split at h
    · split at h
      · unfold cond at h; split at h <;> cases h
      · cases h
    · cases h
  | slice t x lo hi mx =>
    have noS : ∀ {t' : TypeId} {u : SV} {lo hi : Option SV}, xSlice P t' u lo hi ≠ .call f args := by
      intro t' u lo hi; unfold xSlice; split
      · split
        · simp
        · unfold cond; split <;> simp
        · simp
      · simp
    simp only [xval] at h
    split at h
    · split at h
      · exact absurd h noS
      · split at h
        · exact absurd h noS
        · cases h
      · cases h
    · cases h
  | binOp op t x y yt =>
    simp only [xval] at h
    split at h
    · exfalso
      unfold xBin at h
      split at h
      · unfold xBinI at h
        split at h <;> (unfold cond at h; split at h <;> first | exact noI h | cases h | (split at h <;> first | exact noI h | (split at h <;> first | exact noB h | cases h)))
      · unfold xBinB at h
        split at h <;> first | exact noB h | cases h
      · unfold xBinA at h
        split at h
        · unfold cond at h; split at h <;> first | (split at h <;> cases h) | cases h
        · cases h
      · cases h
    · cases h
  | unOp op t x =>
    cases op with
    | not => simp only [xval] at h; split at h <;> first | (split at h <;> cases h) | cases h
    | _ => simp [xval] at h
  | convert s d x =>
    simp only [xval] at h
    split at h <;> first | exact absurd h noI | cases h
  | _ => simp [xval] at h

/-- Of a truth value that is asked for. -/
theorem xval_ask (hF : FRel env β S a) {o : Oper} {x0 : Nat} (h : xval P ext o S = .ask x0) : env[x0]? = some 0 ∨ env[x0]? = some 1 := by
  obtain ⟨dst, op, type, pos, after, guard⟩ := o
  have noI : ∀ {k : IntKind} {o : IOp} {xs : List SI}, mkI S k o xs ≠ .ask x0 := by
    intro k o xs; unfold mkI; split
    · unfold cond; split <;> simp
    · simp
  have noB : ∀ {o : IOp} {xs : List SI}, mkB S o xs ≠ .ask x0 := by
    intro o xs; unfold mkB; split <;> simp
  have bit : ∀ {e : SB} {t : Bool}, e.is env t → know S e = .var x0 → env[x0]? = some 0 ∨ env[x0]? = some 1 := by
    intro e t he hk
    have h1 := know_is hF he
    rw [hk] at h1
    have h1 : env[x0]? = some (b01 t) := h1
    rw [h1]
    cases t <;> simp [b01]
  cases op with
  | call c =>
    simp only [xval] at h
    split at h
    · split at h
      · split at h <;> first | (unfold cond at h; split at h <;> cases h) | cases h
      · cases h
    · split at h
      · unfold xCall at h
        split at h <;> first | (unfold cond at h; split at h <;> cases h) | cases h
      · cases h
    · cases h
  | move x => simp only [xval] at h; split at h <;> cases h
  | assign x => simp only [xval] at h; split at h <;> cases h
  | nilCheck x => simp only [xval] at h; split at h <;> cases h
  | pick c x y =>
    simp only [xval] at h
    split at h
    · rename_i e u v hc hx hy
      split at h
      · cases h
      · rename_i x hk
        injection h with h1
        subst h1
        obtain ⟨t', ht', _⟩ := xev_is hF hc
        exact bit ht' hk
    · cases h
  | extract t i => simp only [xval] at h; split at h <;> first | (split at h <;> cases h) | cases h
  | indexAddr t x ix =>
    simp only [xval] at h
    split at h
    · unfold xIndex at h
      split at h <;> first | (split at h <;> first | (split at h <;> first | (unfold cond at h; split at h <;> cases h) | cases h) | cases h) | cases h
    · cases h
  | load t x =>
    simp only [xval] at h
    split at h
    · unfold xLoad at h
      split at h <;> first | (split at h <;> first | (split at h <;> cases h) | (unfold cond at h; split at h <;> cases h) | cases h) | cases h
    · cases h
  | alloc t => simp only [xval] at h; split at h <;> cases h
  | box t x => simp only [xval] at h; split at h <;> cases h
  | store t x y =>
    simp only [xval] at h
    split at h
    · simp only [xStore] at h
      split at h
      · split at h
        · unfold cond at h; split at h <;> cases h
        · cases h
      · cases h
    · cases h
  | build t parts =>
    simp only [xval] at h
    split at h
    · unfold cond at h; split at h <;> first | (split at h <;> cases h) | cases h
    · cases h
  | buildSlice t n parts =>
    simp only [xval] at h
    split at h
    · split at h
      · unfold cond at h; split at h <;> first | (split at h <;> cases h) | cases h
      · cases h
    · cases h
  | makeSlice t x y =>
    simp only [xval] at h
    split at h
    · split at h
      · unfold cond at h; split at h <;> cases h
      · cases h
    · cases h
  | slice t x lo hi mx =>
    have noS : ∀ {t' : TypeId} {u : SV} {lo hi : Option SV}, xSlice P t' u lo hi ≠ .ask x0 := by
      intro t' u lo hi; unfold xSlice; split
      · split
        · simp
        · unfold cond; split <;> simp
        · simp
      · simp
    simp only [xval] at h
    split at h
    · split at h
      · exact absurd h noS
      · split at h
        · exact absurd h noS
        · cases h
      · cases h
    · cases h
  | binOp op t x y yt =>
    simp only [xval] at h
    split at h
    · exfalso
      unfold xBin at h
      split at h
      · unfold xBinI at h
        split at h <;> (unfold cond at h; split at h <;> first | exact noI h | cases h | (split at h <;> first | exact noI h | (split at h <;> first | exact noB h | cases h)))
      · unfold xBinB at h
        split at h <;> first | exact noB h | cases h
      · unfold xBinA at h
        split at h
        · unfold cond at h; split at h <;> first | (split at h <;> cases h) | cases h
        · cases h
      · cases h
    · cases h
  | unOp op t x =>
    cases op with
    | not =>
      simp only [xval] at h
      split at h
      · rename_i e hc
        split at h
        · cases h
        · rename_i x hk
          injection h with h1
          subst h1
          obtain ⟨t', ht', _⟩ := xev_is hF hc
          exact bit ht' hk
      · cases h
    | _ => simp [xval] at h
  | convert s d x =>
    simp only [xval] at h
    split at h <;> first | exact absurd h noI | cases h
  | _ => simp [xval] at h
end
end Eng
end
section
/-
  The walk by reckoning: more operations that look at their operands alone.
-/
namespace Eng
open Go Go.RowKit

def xvalN (P : Program) (o : Oper) (S : St) : XR :=
  match o.op with
  | .build t parts => match P.underlying t, zeroOf P t with
    | some (.struct fs), some z => bif fs.isEmpty && parts.isEmpty then .val [] (.ww (.aa z)) else .fail
    | _, _ => .fail
  | .unOp .neg _ x => match xev S x with
    | some (.ww (.cc (.ii k e))) => mkI S k (.bin .sub k) [.lit 0, e]
    | _ => .fail
  | .unOp .xor _ x => match xev S x with
    | some (.ww (.cc (.ii k e))) => mkI S k (.bin .xor k) [.lit (if k.signed then -1 else k.max), e]
    | _ => .fail
  | .call c => match c.callee with
    | .builtin .max => match xevs S c.args.toList with
      | some [.ww (.cc (.ii k e)), .ww (.cc (.ii k' e'))] => bif decide (k = k') then mkI S k .mx [e, e'] else .fail
      | _ => .fail
    | .builtin .min => match xevs S c.args.toList with
      | some [.ww (.cc (.ii k e)), .ww (.cc (.ii k' e'))] => bif decide (k = k') then mkI S k .mn [e, e'] else .fail
      | _ => .fail
    | _ => .fail
  | _ => .fail
def yval (P : Program) (ext : Nat → Nat) (o : Oper) (S : St) : XR :=
  match xval P ext o S with
  | .fail => xvalN P o S
  | r => r

section
variable {P : Program} {ext : Nat → Nat} {W0 : World} {Tp : Nat → Nat → Prop} {env : List Int} {β : List (Nat × Nat)} {S : St} {a : Act} {w : World}

theorem mkI_kind (k : IntKind) (o : IOp) (xs : List SI) : (∃ l r, mkI S k o xs = .val l r) ∨ mkI S k o xs = .fail := by
  unfold mkI
  split
  · unfold cond; split
    · exact .inl ⟨_, _, rfl⟩
    · exact .inr rfl
  · exact .inl ⟨_, _, rfl⟩
theorem xvalN_kind (o : Oper) : (∃ l r, xvalN P o S = .val l r) ∨ xvalN P o S = .fail := by
  unfold xvalN
  split
  · split
    · unfold cond; split
      · exact .inl ⟨_, _, rfl⟩
      · exact .inr rfl
    · exact .inr rfl
  · split
    · exact mkI_kind _ _ _
    · exact .inr rfl
  · split
    · exact mkI_kind _ _ _
    · exact .inr rfl
  · split
    · split
      · unfold cond; split
        · exact mkI_kind _ _ _
        · exact .inr rfl
      · exact .inr rfl
    · split
      · unfold cond; split
        · exact mkI_kind _ _ _
        · exact .inr rfl
      · exact .inr rfl
    · exact .inr rfl
  · exact .inr rfl
theorem yval_of {o : Oper} {r : XR} (h : yval P ext o S = r) (hr : ∀ l v, r ≠ .val l v) (hf : r ≠ .fail) : xval P ext o S = r := by
  unfold yval at h
  split at h
  · rcases xvalN_kind (P := P) (S := S) o with ⟨l, v, hx⟩ | hx
    · exact absurd (hx ▸ h.symm) (hr l v)
    · exact absurd (hx ▸ h.symm) hf
  · exact h

theorem fits_neg (k : IntKind) (n : Int) : fits k (IOp.ev (.bin .sub k) [0, n]) := fits_wrap _ _
theorem fits_xor (k : IntKind) (m n : Int) : fits k (IOp.ev (.bin .xor k) [m, n]) := fits_wrap _ _
theorem two_args {l m : SV} {xs : List Value} (h : All2 (SV.is env β) [l, m] xs) : ∃ p q, xs = [p, q] ∧ l.is env β p ∧ m.is env β q := by
  match xs, h with
  | [p, q], ⟨h1, h2, _⟩ => exact ⟨p, q, rfl, h1, h2⟩
theorem run_max (k : IntKind) (m n : Int) (w : World) (tys : Array TypeId) (t : TypeId) : (Builtin.max_ tys t #[.int k m, .int k n]).run P w = .ok (.int k (IOp.mx.ev [m, n])) w := by
  simp [Builtin.max_, Builtin.max2, IOp.ev]
theorem run_min (k : IntKind) (m n : Int) (w : World) (tys : Array TypeId) (t : TypeId) : (Builtin.min_ tys t #[.int k m, .int k n]).run P w = .ok (.int k (IOp.mn.ev [m, n])) w := by
  simp [Builtin.min_, Builtin.min2, IOp.ev]

theorem xvalN_val (hF : FRel env β S a) {o : Oper} {l : List (IOp × List SI)} {r : SV} (h : xvalN P o S = .val l r) : ValOk P ext env β a w o l r := by
  obtain ⟨dst, op, type, pos, after, guard⟩ := o
  unfold xvalN at h
  split at h
  · rename_i t parts ho
    simp only at ho
    subst ho
    split at h
    · rename_i fs z hund hz
      cases hb : (fs.isEmpty && parts.isEmpty)
      · simp [hb] at h
      · simp only [hb, cond_true] at h
        injection h with h1 h2
        subst h1; subst h2
        rw [Bool.and_eq_true] at hb
        have hfs : fs = #[] := by simpa using hb.1
        have hps : parts = #[] := by simpa using hb.2
        obtain ⟨zv, i, hi, hz0, hzc⟩ := zero_is (env := env) (β := β) hz
        refine ⟨.agg zv.cells, ⟨zv.cells.toList, by simp, hzc⟩, .inl ⟨rfl, fun w' => ?_⟩⟩
        subst hfs; subst hps
        simp [execOp, Instr.build, zeroValue, typeInfo, hi, hz0, run_underlying hund, Instr.fill]
    · cases h
  · rename_i ty x ho
    simp only at ho
    subst ho
    split at h
    · rename_i k e he
      obtain ⟨n, hn, hf, ex⟩ := xev_is hF he
      have hv : (IOp.bin .sub k).ev ([SI.lit 0, e].map (·.val env)) = (IOp.bin .sub k).ev [0, n] := by
        show (IOp.bin .sub k).ev [0, e.val env] = _
        rw [hn.val]
      have := mkI_is (β := β) hF.ne h (by rw [hv]; exact fits_neg k n)
      rw [hv] at this
      refine ⟨_, this, .inl ⟨rfl, fun w' => ?_⟩⟩
      simp [execOp, ex, Op.unary, Op.intArith, IOp.ev, binEv]
    · cases h
  · rename_i ty x ho
    simp only at ho
    subst ho
    split at h
    · rename_i k e he
      obtain ⟨n, hn, hf, ex⟩ := xev_is hF he
      have hv : (IOp.bin .xor k).ev ([SI.lit (if k.signed then -1 else k.max), e].map (·.val env)) = (IOp.bin .xor k).ev [if k.signed then -1 else k.max, n] := by
        show (IOp.bin .xor k).ev [_, e.val env] = _
        rw [hn.val]
        rfl
      have := mkI_is (β := β) hF.ne h (by rw [hv]; exact fits_xor k _ n)
      rw [hv] at this
      refine ⟨_, this, .inl ⟨rfl, fun w' => ?_⟩⟩
      simp [execOp, ex, Op.unary, Op.intBits, IOp.ev, binEv]
    · cases h
  · rename_i c ho
    simp only at ho
    subst ho
    have args_of : ∀ {l m : SV}, xevs S c.args.toList = some [l, m] → ∃ p q, c.args.map a.eval = #[p, q] ∧ l.is env β p ∧ m.is env β q := by
      intro l m hargs
      obtain ⟨p, q, hpq, h1, h2⟩ := two_args (xevs_is hF hargs)
      refine ⟨p, q, ?_, h1, h2⟩
      rw [← Array.toList_inj, Array.toList_map, hpq]
    split at h
    · rename_i hc
      split at h
      · rename_i k e k' e' hargs
        obtain ⟨p, q, hpq, ⟨m, hm, hmf, rfl⟩, ⟨n, hn, hnf, rfl⟩⟩ := args_of hargs
        cases hk : decide (k = k')
        · simp [hk] at h
        · simp only [hk, cond_true] at h
          have hk := of_decide_eq_true hk
          subst hk
          have hv : IOp.mx.ev ([e, e'].map (·.val env)) = IOp.mx.ev [m, n] := by simp [hm.val, hn.val]
          have hfit : fits k (IOp.mx.ev [m, n]) := by simp only [IOp.ev, List.getD_cons_zero, List.getD_cons_succ]; split <;> assumption
          have := mkI_is (β := β) hF.ne h (by rw [hv]; exact hfit)
          rw [hv] at this
          refine ⟨_, this, .inl ⟨by simp [tagOf, hc], fun w' => ?_⟩⟩
          simp [execOp, resolve, hc, hpq, invoke, builtin, run_max]
      · cases h
    · rename_i hc
      split at h
      · rename_i k e k' e' hargs
        obtain ⟨p, q, hpq, ⟨m, hm, hmf, rfl⟩, ⟨n, hn, hnf, rfl⟩⟩ := args_of hargs
        cases hk : decide (k = k')
        · simp [hk] at h
        · simp only [hk, cond_true] at h
          have hk := of_decide_eq_true hk
          subst hk
          have hv : IOp.mn.ev ([e, e'].map (·.val env)) = IOp.mn.ev [m, n] := by simp [hm.val, hn.val]
          have hfit : fits k (IOp.mn.ev [m, n]) := by simp only [IOp.ev, List.getD_cons_zero, List.getD_cons_succ]; split <;> assumption
          have := mkI_is (β := β) hF.ne h (by rw [hv]; exact hfit)
          rw [hv] at this
          refine ⟨_, this, .inl ⟨by simp [tagOf, hc], fun w' => ?_⟩⟩
          simp [execOp, resolve, hc, hpq, invoke, builtin, run_min]
      · cases h
    · cases h
  · cases h

theorem yval_val (hE : Ext P ext) (hF : FRel env β S a) (hM : CellsOk env β S.mem w) {o : Oper} {l : List (IOp × List SI)} {r : SV} (h : yval P ext o S = .val l r) : ValOk P ext env β a w o l r := by
  unfold yval at h
  split at h
  · exact xvalN_val hF h
  · exact xval_val hE hF hM h
end
end Eng
end
section
/-
  The walk by reckoning: trees of what is to be shown; operations in a row; code.
-/
namespace Eng
open Go Go.RowKit

inductive SX where
  | normal
  | ret
  | exit (id : Nat)

def SX.ex : SX → Exit
  | .normal => .normal
  | .ret => .ret
  | .exit id => .exit id

inductive Tree where
  | leaf (e : SX) (S : St)
  | fin (v : SV) (S : St)
  | dfn (o : IOp) (xs : List SI) (t : Tree)
  | hav (id : Nat) (xs : List SI) (m : Nat) (t : Tree)
  | br (x : Nat) (t f : Tree)
  | both (t f : Tree)
  | brE (x : Nat) (j : Int) (t f : Tree)
  | obl (e : SI) (t : Tree)
  | bad (n : Nat)

/-- What is asked of a call (a number names it) and what it is known to leave; what is asked of an end. -/
structure Ask where
  pre : Nat → List Int → Prop
  post : Nat → List Int → List Int → Prop
  leaf : SX → St → List Int → Prop
  fin : SV → St → List Int → Prop

def Tree.holds (A : Ask) : Tree → List Int → Prop
  | .leaf e S, env => A.leaf e S env
  | .fin v S, env => A.fin v S env
  | .dfn o xs t, env => ∀ x, x = o.ev (xs.map (·.val env)) → t.holds A (env ++ [x])
  | .hav id xs m t, env => A.pre id (xs.map (·.val env)) ∧ ∀ ys, ys.length = m → A.post id (xs.map (·.val env)) ys → t.holds A (env ++ ys)
  | .br x t f, env => (env.getD x 0 = 1 → t.holds A env) ∧ (env.getD x 0 = 0 → f.holds A env)
  | .both t f, env => t.holds A env ∧ f.holds A env
  | .brE x j t f, env => (env.getD x 0 = j → t.holds A env) ∧ (env.getD x 0 ≠ j → f.holds A env)
  | .obl e t, env => 0 ≤ e.val env ∧ t.holds A env
  | .bad _, _ => False

def defsT : List (IOp × List SI) → Tree → Tree
  | [], t => t
  | (o, xs) :: r, t => .dfn o xs (defsT r t)

theorem defsT_holds {A : Ask} {t : Tree} : ∀ (l : List (IOp × List SI)) (env : List Int), (defsT l t).holds A env → t.holds A (runDefs env l)
  | [], _, h => h
  | (o, xs) :: r, env, h => by
    rw [runDefs]
    exact defsT_holds r _ (h _ rfl)

def putK (dst : Option Tmp) (v : SV) (S : St) (k : St → Tree) : Tree :=
  match dst with
  | none => k S
  | some d => bif Nat.blt d S.nt then k { S with tm := (d, v) :: S.tm } else .bad 1

/-- What a contract says of a call: what is asked of these integers, how many new ones there are, what is handed back, the regions behind it. -/
structure CR where
  id : Nat
  xs : List SI
  m : Nat
  ret : SV
  mem : List (List SC × Bool)

/-- What a contract says of a piece of code: its end, what is asked, how many new integers there are, the slots and the regions behind it. -/
structure PR where
  e : SX
  id : Nat
  xs : List SI
  m : Nat
  tm : List (Nat × SV)
  mem : List (List SC × Bool)

structure Cfg where
  P : Program
  ext : Nat → Nat
  con : Nat → List SV → St → Option CR
  pcon : Nat → Nat → St → Option (List PR)

/-- A name that is known to be a number, in the slots. -/
def SI.at (x : Nat) (j : Int) : SI → SI
  | .var y => bif Nat.beq y x then .lit j else .var y
  | e => e
def SC.at (x : Nat) (j : Int) : SC → SC
  | .ii k e => .ii k (e.at x j)
  | c => c
def SV.at (x : Nat) (j : Int) : SV → SV
  | .ww (.cc c) => .ww (.cc (c.at x j))
  | v => v
def St.at (x : Nat) (j : Int) (S : St) : St := { S with tm := S.tm.map fun p => (p.1, p.2.at x j) }

/-- What must be known first. -/
inductive Need where
  | no
  | split (x n : Nat)
  | shift (k : IntKind) (op : BinOp) (e e' : SI)
def need (P : Program) (o : Oper) (S : St) : Need :=
  match o.op with
  | .indexAddr t x ix => match xev S x, xev S ix with
    | some (.ww (.cc (.pp _ _))), some (.ww (.cc (.ii _ (.var v)))) => match P.underlying t with
      | some (.array n _) => .split v n
      | _ => .no
    | some (.ww (.cc (.ss _ _ n _))), some (.ww (.cc (.ii _ (.var v)))) => .split v n
    | _, _ => .no
  | .binOp op _ x y _ => match op with
    | .shl | .shr => match xev S x, xev S y with
      | some (.ww (.cc (.ii k e))), some (.ww (.cc (.ii k' (.var v)))) => bif unsB k' then .no else .shift k op e (.var v)
      | _, _ => .no
    | _ => .no
  | _ => .no
def splitT (x : Nat) (f : Nat → Tree) : Nat → Tree
  | 0 => .bad 30
  | n + 1 => .brE x n (f n) (splitT x f n)

def xstep (C : Cfg) (xc : Nat → List SV → St → (SV → St → Tree) → Tree) (o : Oper) : Nat → St → (St → Tree) → Tree
  | n, S, k => match need C.P o S with
   | .split x m => match n with
      | 0 => .bad 31
      | n + 1 => splitT x (fun j => xstep C xc o n (S.at x j) k) m
   | .shift kk op e e' => .obl e' (defsT [(.bin op kk, [e, e'])] (putK o.dst (scv (.ii kk (.var S.ne))) (S.grow [(.bin op kk, [e, e'])]) k))
   | .no => match yval C.P C.ext o S with
    | .fail => .bad 2
    | .val l v => defsT l (putK o.dst v (S.grow l) k)
    | .sto r q cs => match S.mem[r]? with
      | some (old, _) => putK o.dst (.tt []) { S with mem := S.mem.set r (wrAt old q cs, true) } k
      | none => .bad 3
    | .new _ cs v => putK o.dst (scv v) { S with mem := S.mem ++ [(cs, true)] } k
    | .ask x => match n with
      | 0 => .bad 4
      | n + 1 => .br x (xstep C xc o n { S with fx := (x, true) :: S.fx } k) (xstep C xc o n { S with fx := (x, false) :: S.fx } k)
    | .call f args => xc f args S (fun v S' => putK o.dst v S' k)

/-- An operation's guard. -/
def xguard (ops : Array Oper) (o : Oper) (S : St) (kr ks : St → Tree) : Tree :=
  match o.guard with
  | none => kr S
  | some (j, want) => match (ops[j]?).bind (·.dst) with
    | none => ks S
    | some d => match lk d S.tm with
      | some (.ww (.cc (.bb e))) => match know S e with
        | .lit t => bif t == want then kr S else ks S
        | .var x => .br x (bif want then kr { S with fx := (x, true) :: S.fx } else ks { S with fx := (x, true) :: S.fx })
            (bif want then ks { S with fx := (x, false) :: S.fx } else kr { S with fx := (x, false) :: S.fx })
      | some (.tt []) => ks S
      | _ => .bad 5

def xops (C : Cfg) (xc : Nat → List SV → St → (SV → St → Tree) → Tree) (ops : Array Oper) : List Oper → St → (St → Tree) → Tree
  | [], S, k => k S
  | o :: r, S, k => xguard ops o S (fun S' => xstep C xc o 2 S' (fun S'' => xops C xc ops r S'' k)) (fun S' => putK o.dst (.tt []) S' (fun S'' => xops C xc ops r S'' k))

/-- The state says nothing of a frame. -/
structure Facts (env : List Int) (S : St) : Prop where
  ne : env.length = S.ne
  fx : ∀ (x : Nat) (t : Bool), lk x S.fx = some t → env[x]? = some (b01 t)
  bt : ∀ (x : Nat), x ∈ S.bt → env[x]? = some 0 ∨ env[x]? = some 1

theorem FRel.facts {env : List Int} {β : List (Nat × Nat)} {S : St} {a : Act} (h : FRel env β S a) : Facts env S := ⟨h.ne, h.fx, h.bt⟩

/-- A longer list. -/
def Longer {α : Type} (l m : List α) : Prop := ∃ e, m = l ++ e
theorem Longer.refl {α : Type} (l : List α) : Longer l l := ⟨[], by simp⟩
theorem Longer.trans {α : Type} {l m n : List α} (h : Longer l m) (k : Longer m n) : Longer l n := by
  obtain ⟨e, rfl⟩ := h
  obtain ⟨f, rfl⟩ := k
  exact ⟨e ++ f, by simp⟩
theorem Longer.defs (env : List Int) (l : List (IOp × List SI)) : Longer env (runDefs env l) := by
  obtain ⟨e, h, _⟩ := runDefs_more l env
  exact ⟨e, h⟩

/-- The caller's frame behind a call. -/
theorem FRel.behind {env env' : List Int} {β β' : List (Nat × Nat)} {S S' : St} {a : Act} (h : FRel env β S a) (he : Longer env env') (hb : Longer β β') (hf : Facts env' S')
    (ht : S'.tm = S.tm) (hn : S'.nt = S.nt) : FRel env' β' S' a := by
  obtain ⟨e, rfl⟩ := he
  obtain ⟨b, rfl⟩ := hb
  have h1 := h.more e b
  exact ⟨hf.ne, h.nd, by rw [hn]; exact h.nt, fun d sv hd => h1.tm d sv (by rw [ht] at hd; exact hd), hf.fx, hf.bt⟩

section
variable {C : Cfg} {A : Ask} {W0 : World} {Tp : Nat → Nat → Prop} {env : List Int} {β : List (Nat × Nat)} {S : St} {a : Act} {w : World}

/-- Of the function that meets the calls. -/
def XcOk (C : Cfg) (A : Ask) (W0 : World) (Tp : Nat → Nat → Prop) (xc : Nat → List SV → St → (SV → St → Tree) → Tree) : Prop :=
  ∀ (f : Nat) (args : List SV) (S : St) (kk : SV → St → Tree) (env : List Int) (β : List (Nat × Nat)) (w : World) (vs : List Value) (R : Value → World → Prop),
    C.ext f = 0 → Facts env S → MRel W0 Tp env β S.mem w → All2 (SV.is env β) args vs → (xc f args S kk).holds A env →
    (∀ v u S' env' β' w', Longer env env' → Longer β β' → Facts env' S' → S'.tm = S.tm → S'.nt = S.nt → MRel W0 Tp env' β' S'.mem w' → v.is env' β' u → (kk v S').holds A env' → R u w') →
    Calls C.P f vs.toArray w (fun e w' => ∃ u, e = .returned u ∧ R u w')

/-- What follows an operation. -/
def After (A : Ask) (W0 : World) (Tp : Nat → Nat → Prop) (env : List Int) (β : List (Nat × Nat)) (k : St → Tree) (K : Act → World → Prop) : Prop :=
  ∀ (S' : St) (env' : List Int) (β' : List (Nat × Nat)) (a' : Act) (w' : World), Longer env env' → Longer β β' → FRel env' β' S' a' → MRel W0 Tp env' β' S'.mem w' → (k S').holds A env' → K a' w'

theorem putK_ok {k : St → Tree} {K : Act → World → Prop} {dst : Option Tmp} {v : SV} {u : Value} (hF : FRel env β S a) (hv : v.is env β u)
    (h : (putK dst v S k).holds A env) (hk : ∀ (S' : St) (a' : Act), FRel env β S' a' → S'.mem = S.mem → (k S').holds A env → K a' w) : K (a.put dst u) w := by
  cases dst with
  | none => exact hk S a hF rfl h
  | some d =>
    unfold putK at h
    simp only [] at h
    cases hb : Nat.blt d S.nt
    · simp only [hb, cond_false] at h; exact h.elim
    · simp only [hb, cond_true] at h
      have hlt : d < S.nt := by simpa using hb
      exact hk _ _ (hF.put hlt hv) rfl h

theorem FRel.know {x : Nat} {t : Bool} (hF : FRel env β S a) (h : env.getD x 0 = b01 t) (hx : env[x]? = some 0 ∨ env[x]? = some 1) : FRel env β { S with fx := (x, t) :: S.fx } a := by
  refine ⟨hF.ne, hF.nd, hF.nt, hF.tm, fun y s hy => ?_, hF.bt⟩
  by_cases hxy : x = y
  · subst hxy
    rw [lk_cons_same] at hy
    injection hy with hy
    subst hy
    rcases hx with h1 | h1
    · simp [h1] at h; rw [h1, h]
    · simp [h1] at h; rw [h1, h]
  · rw [lk_cons_ne _ _ hxy] at hy
    exact hF.fx y s hy

theorem SI.is_at {x : Nat} {j n : Int} {e : SI} (hx : env[x]? = some j) (h : e.is env n) : (e.at x j).is env n := by
  cases e with
  | lit m => exact h
  | var y =>
    unfold SI.at
    cases hb : Nat.beq y x
    · simp only [hb, cond_false]; exact h
    · have hyx := Nat.eq_of_beq_eq_true hb
      subst hyx
      simp only [hb, cond_true]
      have h' : env[y]? = some n := h
      rw [hx] at h'
      injection h' with h'
      exact h'.symm
theorem SV.is_at {x : Nat} {j : Int} {v : SV} {u : Value} (hx : env[x]? = some j) (h : v.is env β u) : (v.at x j).is env β u := by
  cases v with
  | tt l => exact h
  | ww s =>
    cases s with
    | aa l => exact h
    | cc c =>
      cases c with
      | ii k e =>
        obtain ⟨n, h1, h2, h3⟩ := h
        exact ⟨n, SI.is_at hx h1, h2, h3⟩
      | _ => exact h
theorem lk_map {α γ : Type} (f : α → γ) : ∀ (l : List (Nat × α)) (d : Nat), lk d (l.map fun p => (p.1, f p.2)) = (lk d l).map f
  | [], _ => rfl
  | (k, v) :: r, d => by
    simp only [List.map_cons, lk]
    cases Nat.beq k d
    · simp only [cond_false]; exact lk_map f r d
    · rfl
theorem FRel.at {x : Nat} {j : Int} (hF : FRel env β S a) (hx : env[x]? = some j) : FRel env β (S.at x j) a := by
  refine ⟨hF.ne, hF.nd, hF.nt, fun d sv hd => ?_, hF.fx, hF.bt⟩
  simp only [St.at, lk_map] at hd
  cases h : lk d S.tm with
  | none => simp [h] at hd
  | some v =>
    simp [h] at hd
    subst hd
    obtain ⟨u, hu, hs⟩ := hF.tm d v h
    exact ⟨u, hu, SV.is_at hx hs⟩
theorem splitT_holds {x : Nat} {f : Nat → Tree} : ∀ {n : Nat}, (splitT x f n).holds A env → ∃ j : Nat, env.getD x 0 = (j : Int) ∧ (f j).holds A env
  | 0, h => h.elim
  | n + 1, h => by
    by_cases hj : env.getD x 0 = (n : Int)
    · exact ⟨n, hj, h.1 hj⟩
    · exact splitT_holds (h.2 hj)
theorem need_split {o : Oper} {x n : Nat} (hF : FRel env β S a) (h : need C.P o S = .split x n) : ∃ j, env[x]? = some j := by
  unfold need at h
  split at h
  · split at h
    · rename_i hu hv
      split at h
      · injection h with h1 h2
        subst h1
        obtain ⟨n, hn, _⟩ := xev_is hF hv
        exact ⟨n, hn⟩
      · cases h
    · rename_i hu hv
      injection h with h1 h2
      subst h1
      obtain ⟨n, hn, _⟩ := xev_is hF hv
      exact ⟨n, hn⟩
    · cases h
  · split at h
    · split at h
      · unfold cond at h; split at h <;> cases h
      · cases h
    · split at h
      · unfold cond at h; split at h <;> cases h
      · cases h
    · cases h
  · cases h
theorem need_shift {o : Oper} {k : IntKind} {op : BinOp} {e e' : SI} (h : need C.P o S = .shift k op e e') :
    ∃ t x y yt k', o.op = .binOp op t x y yt ∧ (op = .shl ∨ op = .shr) ∧ xev S x = some (.ww (.cc (.ii k e))) ∧ xev S y = some (.ww (.cc (.ii k' e'))) := by
  unfold need at h
  split at h
  · split at h
    · split at h <;> cases h
    · cases h
    · cases h
  · rename_i op' t x y yt ho
    split at h
    · split at h
      · rename_i k1 e1 k2 v hx hy
        unfold cond at h
        split at h
        · cases h
        · injection h with h1 h2 h3 h4
          subst h1; subst h2; subst h3; subst h4
          exact ⟨_, _, _, _, _, ho, .inl rfl, hx, hy⟩
      · cases h
    · split at h
      · rename_i k1 e1 k2 v hx hy
        unfold cond at h
        split at h
        · cases h
        · injection h with h1 h2 h3 h4
          subst h1; subst h2; subst h3; subst h4
          exact ⟨_, _, _, _, _, ho, .inr rfl, hx, hy⟩
      · cases h
    · cases h
  · cases h
theorem shift_val {o : Oper} {k : IntKind} {op : BinOp} {e e' : SI} (hF : FRel env β S a) (h : need C.P o S = .shift k op e e') (h0 : 0 ≤ e'.val env) :
    tagOf C.ext o = 0 ∧ ∃ u, (scv (.ii k (.var S.ne))).is (runDefs env [(.bin op k, [e, e'])]) β u ∧ ∀ w', (execOp a.eval o).run C.P w' = .ok (.value u) w' := by
  obtain ⟨t, x, y, yt, k', ho, hop, hx, hy⟩ := need_shift h
  obtain ⟨i, hi, hif, e1⟩ := xev_is hF hx
  obtain ⟨j, hj, hjf, e2⟩ := xev_is hF hy
  obtain ⟨dst, op', type, pos, after, guard⟩ := o
  simp only at ho
  subst ho
  rw [hj.val] at h0
  refine ⟨rfl, .int k (binEv op k i j), ⟨binEv op k i j, ?_, fits_bin j hif, rfl⟩, fun w' => ?_⟩
  · show (env ++ [_])[S.ne]? = some _
    rw [← hF.ne]
    simp [IOp.ev, hi.val, hj.val]
  · have := yl_shift (P := C.P) t x y i j hop h0 w' (k := k) (k' := k')
    simp only [execOp]
    rw [Sem.run_bind, e1, e2]
    rw [this]
    rfl

theorem xstep_ok (hE : Ext C.P C.ext) {xc : Nat → List SV → St → (SV → St → Tree) → Tree} (hxc : XcOk C A W0 Tp xc) {o : Oper} {ops : Array Oper} {Q : Exit → Act → World → Prop} {k : St → Tree} {K : Act → World → Prop}
    (hw : ∀ a' : Act, a'.tmps = a.tmps → Region.wanted o (yielded ops a'.tmps) = true) :
    ∀ (n : Nat) (S : St), FRel env β S a → MRel W0 Tp env β S.mem w → (xstep C xc o n S k).holds A env → After A W0 Tp env β k K →
      wpT C.P ops Q (tagOf C.ext o) o K a w := by
  intro n
  induction n with
  | zero => ?_
  | succ n ih => ?_
  all_goals
    intro S hF hM h hk
    have hwa := hw a rfl
    unfold xstep at h
    split at h
    · rename_i x m hneed
      first
        | exact h.elim
        | (obtain ⟨i, hi⟩ := need_split (C := C) hF hneed
           obtain ⟨j, hj, hh⟩ := splitT_holds h
           have hij : i = (j : Int) := by simpa [hi] using hj
           subst hij
           exact ih _ (hF.at hi) hM hh hk)
    · rename_i kk op e e' hneed
      obtain ⟨h0, hh⟩ := h
      obtain ⟨ht, u, hu, hrun⟩ := shift_val (C := C) hF hneed h0
      have h1 := defsT_holds _ env hh
      have h2 : K (a.put o.dst u) w := putK_ok (hF.grow _) (S := S.grow _) hu h1 fun S' a' hF' hmem hh =>
        hk S' _ β a' w (Longer.defs env _) (Longer.refl β) hF' (by rw [hmem]; exact hM.grow _) hh
      unfold wpT
      rw [if_pos hwa, ht]
      exact ⟨u, hrun, h2⟩
    · rename_i hneed
      clear hneed
      split at h
      · exact h.elim
      · rename_i l v hx
        obtain ⟨u, hu, hrun⟩ := yval_val hE hF hM.cells hx
        have h1 := defsT_holds l env h
        have h2 : K (a.put o.dst u) w := putK_ok (hF.grow l) (S := S.grow l) hu h1 fun S' a' hF' hmem hh =>
          hk S' _ β a' w (Longer.defs env l) (Longer.refl β) hF' (by rw [hmem]; exact hM.grow l) hh
        unfold wpT
        rw [if_pos hwa]
        rcases hrun with ⟨ht, hr⟩ | ⟨ht, hr⟩
        · rw [ht]; exact ⟨u, hr, h2⟩
        · rw [ht]; exact ⟨u, hr, h2⟩
      · rename_i r q cs hx
        obtain ⟨old, b, w', hr, hrun, hM', ht⟩ := xval_sto hF hM (yval_of hx (by simp) (by simp))
        simp only [hr] at h
        have h2 : K (a.put o.dst undef) w' := putK_ok (S := { S with mem := S.mem.set r (wrAt old q cs, true) }) (β := β) (env := env) (v := .tt [])
          ⟨hF.ne, hF.nd, hF.nt, hF.tm, hF.fx, hF.bt⟩ ⟨[], rfl, trivial⟩ h fun S' a' hF' hmem hh =>
            hk S' _ β a' w' (Longer.refl _) (Longer.refl β) hF' (by rw [hmem]; exact hM') hh
        refine wpT_eff hwa (by rw [ht]; decide) ?_
        unfold Oper.wp
        rw [hrun]
        exact h2
      · rename_i t0 cs v hx
        obtain ⟨⟨w', u, hrun, hM', hv⟩, ht⟩ := xval_new hF hM (yval_of hx (by simp) (by simp))
        have hF1 : FRel env (β ++ [(w.heap.size, 0)]) { S with mem := S.mem ++ [(cs, true)] } a := by
          have := hF.more [] [(w.heap.size, 0)]
          rw [List.append_nil] at this
          exact ⟨this.ne, this.nd, this.nt, this.tm, this.fx, this.bt⟩
        have h2 : K (a.put o.dst u) w' := putK_ok (S := { S with mem := S.mem ++ [(cs, true)] }) hF1 (v := scv v) hv h fun S' a' hF' hmem hh =>
          hk S' _ _ a' w' (Longer.refl _) ⟨_, rfl⟩ hF' (by rw [hmem]; exact hM') hh
        refine wpT_eff hwa (by rw [ht]; decide) ?_
        unfold Oper.wp
        rw [hrun]
        exact h2
      · rename_i x hx
        first
          | exact h.elim
          | (obtain ⟨h1, h2⟩ := h
             have hbit : env[x]? = some 0 ∨ env[x]? = some 1 := xval_ask hF (yval_of hx (by simp) (by simp))
             rcases hbit with hb | hb
             · exact ih _ (hF.know (t := false) (by simp [hb, b01]) (.inl hb)) hM (h2 (by simp [hb])) hk
             · exact ih _ (hF.know (t := true) (by simp [hb, b01]) (.inr hb)) hM (h1 (by simp [hb])) hk)
      · rename_i f args hx
        obtain ⟨c, vs, ho, hc, hall, hargs, hext, ht⟩ := xval_call hF (yval_of hx (by simp) (by simp))
        have hcall := hxc f args S _ env β w vs (fun u w' => K (a.put o.dst u) w') hext hF.facts hM hall h fun v u S' env' β' w' he hb hf htm hnt hM' hv hh =>
          putK_ok (hF.behind he hb hf htm hnt) hv hh fun S'' a' hF' hmem hh' => hk S'' env' β' a' w' he hb hF' (by rw [hmem]; exact hM') hh'
        refine wpT_eff hwa (by rw [ht]; decide) ?_
        unfold Oper.wp
        rw [run_call (P := C.P) (a := a) ho hc w, hargs, hE.enter f hext]
        simp only [Oper.upon]
        exact hcall.mono fun e w' ⟨u, he, hu⟩ => by subst he; exact hu
end
end Eng
end
section
/-
  The walk by reckoning: a region whose operations do not all change places freely: what reads and what looks at its operands alone is taken first, all orders of the others are walked.
-/
namespace Eng
open Go Go.RowKit

def SI.beq : SI → SI → Bool
  | .lit n, .lit m => decide (n = m)
  | .var x, .var y => Nat.beq x y
  | _, _ => false
theorem SI.beq_eq {a b : SI} (h : a.beq b = true) : a = b := by
  cases a <;> cases b <;> simp [SI.beq] at h <;> first | (subst h; rfl) | (rw [h])
def SB.beq : SB → SB → Bool
  | .lit n, .lit m => n == m
  | .var x, .var y => Nat.beq x y
  | _, _ => false
theorem SB.beq_eq {a b : SB} (h : a.beq b = true) : a = b := by
  cases a <;> cases b <;> simp [SB.beq] at h <;> first | (subst h; rfl) | (rw [h])
def SC.beq : SC → SC → Bool
  | .ii k e, .ii k' e' => decide (k = k') && e.beq e'
  | .bb e, .bb e' => e.beq e'
  | .pp r o, .pp r' o' => Nat.beq r r' && Nat.beq o o'
  | .ss r o l c, .ss r' o' l' c' => Nat.beq r r' && (Nat.beq o o' && (Nat.beq l l' && Nat.beq c c'))
  | _, _ => false
theorem SC.beq_eq {a b : SC} (h : a.beq b = true) : a = b := by
  cases a <;> cases b <;> simp only [SC.beq, Bool.and_eq_true, decide_eq_true_eq] at h <;> try cases h
  · rename_i h1 h2; rw [h1, SI.beq_eq h2]
  · rw [SB.beq_eq h]
  · rename_i h1 h2; rw [Nat.eq_of_beq_eq_true h1, Nat.eq_of_beq_eq_true h2]
  · rename_i h1 h2
    rw [Nat.eq_of_beq_eq_true h1, Nat.eq_of_beq_eq_true h2.1, Nat.eq_of_beq_eq_true h2.2.1, Nat.eq_of_beq_eq_true h2.2.2]
def listBeq {α : Type} (f : α → α → Bool) : List α → List α → Bool
  | [], [] => true
  | x :: l, y :: m => f x y && listBeq f l m
  | _, _ => false
theorem listBeq_eq {α : Type} {f : α → α → Bool} (hf : ∀ a b, f a b = true → a = b) : ∀ {l m : List α}, listBeq f l m = true → l = m
  | [], [], _ => rfl
  | x :: l, y :: m, h => by
    rw [listBeq, Bool.and_eq_true] at h
    rw [hf _ _ h.1, listBeq_eq hf h.2]
  | [], _ :: _, h => by cases h
  | _ :: _, [], h => by cases h

theorem SC.is.fun_ {env env' : List Int} {β β' : List (Nat × Nat)} (he : Longer env env') (hb : Longer β β') {e : SC} {v u : Value} (h : e.is env β v) (k : e.is env' β' u) : u = v := by
  obtain ⟨e', rfl⟩ := he
  obtain ⟨b', rfl⟩ := hb
  have h := h.more e' b'
  cases e with
  | ii kk x =>
    obtain ⟨n, h1, _, rfl⟩ := h
    obtain ⟨m, h2, _, rfl⟩ := k
    rw [← h1.val, ← h2.val]
  | bb x =>
    obtain ⟨n, h1, rfl⟩ := h
    obtain ⟨m, h2, rfl⟩ := k
    have := h1.si.val.symm.trans h2.si.val
    cases n <;> cases m <;> simp [b01] at this <;> rfl
  | pp r o =>
    obtain ⟨x, h1, rfl⟩ := h
    obtain ⟨y, h2, rfl⟩ := k
    rw [h1] at h2
    injection h2 with h2
    subst h2; rfl
  | ss r o l c =>
    obtain ⟨x, h1, rfl⟩ := h
    obtain ⟨y, h2, rfl⟩ := k
    rw [h1] at h2
    injection h2 with h2
    subst h2; rfl
  | kk w => rw [h.1, k.1]

/-- These regions stand as they stood. -/
def sameB (prot : List Nat) (m m' : List (List SC × Bool)) : Bool :=
  prot.all fun r => match m[r]?, m'[r]? with
    | some (cs, _), some (ds, _) => listBeq SC.beq cs ds
    | _, _ => false

/-- Cells that hold these values. -/
def Holds (β : List (Nat × Nat)) (prot : List Nat) (mem : List (List SC × Bool)) (w0 : World) (w : World) : Prop :=
  ∀ r ∈ prot, ∀ cs wr x, mem[r]? = some (cs, wr) → β[r]? = some x → ∀ j, j < cs.length → w.cell? ⟨x.1, x.2 + j, none⟩ = w0.cell? ⟨x.1, x.2 + j, none⟩

section
variable {C : Cfg} {A : Ask} {W0 : World} {Tp : Nat → Nat → Prop} {env : List Int} {β : List (Nat × Nat)} {S : St} {a : Act} {w : World}

theorem holds_of {prot : List Nat} {mem mem' : List (List SC × Bool)} {env' : List Int} {β' : List (Nat × Nat)} {w0 : World} (h0 : MRel W0 Tp env β mem w0) (h : MRel W0 Tp env' β' mem' w)
    (he : Longer env env') (hb : Longer β β') (hs : sameB prot mem mem' = true) : Holds β prot mem w0 w := by
  intro r hr cs wr x hcs hx j hj
  have h1 := List.all_eq_true.1 hs r hr
  simp only [hcs] at h1
  split at h1
  · rename_i cs1 _ ds wr' e1 e2
    injection e1 with e1
    injection e1 with e1 _
    subst e1
    have heq := listBeq_eq (fun _ _ => SC.beq_eq) h1
    subst heq
    obtain ⟨y, hy, _, hc, _⟩ := h0.cell r _ wr hcs
    rw [hx] at hy
    injection hy with hy
    subst hy
    obtain ⟨z, hz, _, hd, _⟩ := h.cell r _ wr' e2
    have hxz : z = x := by
      obtain ⟨b', rfl⟩ := hb
      rw [get_more hx b'] at hz
      injection hz with hz
      exact hz.symm
    subst hxz
    obtain ⟨v, hv, hvs⟩ := hc j _ (List.getElem?_eq_getElem hj)
    obtain ⟨u, hu, hus⟩ := hd j _ (List.getElem?_eq_getElem hj)
    rw [hv, hu, hvs.fun_ he hb hus]
  · cases h1

theorem SW.is.fun_ {env env' : List Int} {β β' : List (Nat × Nat)} (he : Longer env env') (hb : Longer β β') {e : SW} {v u : Value} (h : e.is env β v) (k : e.is env' β' u) : u = v := by
  cases e with
  | cc x => exact SC.is.fun_ (env := env) he hb h k
  | aa l =>
    obtain ⟨vs, rfl, h⟩ := h
    obtain ⟨us, rfl, k⟩ := k
    have key : ∀ (l : List SC) (vs us : List Value), All2 (SC.is env β) l vs → All2 (SC.is env' β') l us → us = vs := by
      intro l
      induction l with
      | nil => intro vs us h k; cases vs <;> cases us <;> first | rfl | exact h.elim | exact k.elim
      | cons x l ih =>
        intro vs us h k
        cases vs with
        | nil => exact h.elim
        | cons v vs =>
          cases us with
          | nil => exact k.elim
          | cons u us => rw [h.1.fun_ he hb k.1, ih vs us h.2 k.2]
    rw [key l vs us h k]

theorem SV.is.fun_ {env env' : List Int} {β β' : List (Nat × Nat)} (he : Longer env env') (hb : Longer β β') {e : SV} {v u : Value} (h : e.is env β v) (k : e.is env' β' u) : u = v := by
  cases e with
  | ww x => exact SW.is.fun_ (env := env) he hb h k
  | tt l =>
    obtain ⟨vs, rfl, h⟩ := h
    obtain ⟨us, rfl, k⟩ := k
    have key : ∀ (l : List SW) (vs us : List Value), All2 (SW.is env β) l vs → All2 (SW.is env' β') l us → us = vs := by
      intro l
      induction l with
      | nil => intro vs us h k; cases vs <;> cases us <;> first | rfl | exact h.elim | exact k.elim
      | cons x l ih =>
        intro vs us h k
        cases vs with
        | nil => exact h.elim
        | cons v vs =>
          cases us with
          | nil => exact k.elim
          | cons u us => rw [h.1.fun_ he hb k.1, ih vs us h.2 k.2]
    rw [key l vs us h k]

/-- The regions that stay; the others without their cells. -/
def protMem (prot : List Nat) : Nat → List (List SC × Bool) → List (List SC × Bool)
  | _, [] => []
  | i, (cs, _) :: r => (bif prot.elem i then cs else [], false) :: protMem prot (i + 1) r

theorem protMem_get (prot : List Nat) : ∀ (m : List (List SC × Bool)) (i r : Nat) (cs : List SC) (wr : Bool), (protMem prot i m)[r]? = some (cs, wr) →
    wr = false ∧ ∃ ds wr', m[r]? = some (ds, wr') ∧ ((i + r ∈ prot ∧ cs = ds) ∨ cs = [])
  | [], i, r, cs, wr, h => by simp [protMem] at h
  | (ds, b) :: m, i, 0, cs, wr, h => by
    simp only [protMem, List.getElem?_cons_zero, Option.some.injEq, Prod.mk.injEq] at h
    obtain ⟨h1, h2⟩ := h
    refine ⟨h2.symm, ds, b, rfl, ?_⟩
    cases hb : prot.elem i
    · simp only [hb, cond_false] at h1; exact .inr h1.symm
    · simp only [hb, cond_true] at h1; exact .inl ⟨by simpa using hb, h1.symm⟩
  | (ds, b) :: m, i, r + 1, cs, wr, h => by
    obtain ⟨h1, es, wr', h2, h3⟩ := protMem_get prot m (i + 1) r cs wr (by simpa [protMem] using h)
    exact ⟨h1, es, wr', by simpa using h2, by rw [show i + (r + 1) = i + 1 + r from by omega]; exact h3⟩
theorem protMem_length (prot : List Nat) : ∀ (m : List (List SC × Bool)) (i : Nat), (protMem prot i m).length = m.length
  | [], _ => rfl
  | _ :: m, i => by simp [protMem, protMem_length prot m (i + 1)]

theorem CellsOk.prot {prot : List Nat} {mem : List (List SC × Bool)} (h : CellsOk env β mem w) {w' : World} (hh : Holds β prot mem w w') : CellsOk env β (protMem prot 0 mem) w' := by
  intro r cs wr x hr hx j sc hj
  obtain ⟨rfl, ds, wr', hd, hor⟩ := protMem_get prot mem 0 r cs wr hr
  rcases hor with ⟨hp, rfl⟩ | rfl
  · obtain ⟨v, hv, hs⟩ := h r cs wr' x hd hx j sc hj
    rw [Nat.zero_add] at hp
    exact ⟨v, by rw [hh r hp cs wr' x hd hx j (List.getElem?_eq_some_iff.1 hj).1]; exact hv, hs⟩
  · simp at hj

/-- An operation that is taken first. -/
def stepQ (C : Cfg) (prot : List Nat) (o : Oper) : Nat → St → (St → Tree) → Tree
  | n, S, k => match yval C.P C.ext o { S with mem := protMem prot 0 S.mem } with
    | .val l v => defsT l (putK o.dst v (S.grow l) k)
    | .ask x => match n with
      | 0 => .bad 20
      | n + 1 => .br x (stepQ C prot o n { S with fx := (x, true) :: S.fx } k) (stepQ C prot o n { S with fx := (x, false) :: S.fx } k)
    | _ => .bad 21

theorem stepQ_ok (hE : Ext C.P C.ext) {prot : List Nat} {o : Oper} {k : St → Tree} :
    ∀ (n : Nat) (S : St), FRel env β S a → MRel W0 Tp env β S.mem w → (stepQ C prot o n S k).holds A env →
      ∃ u S' env', Longer env env' ∧ FRel env' β S' (a.put o.dst u) ∧ S'.mem = S.mem ∧ (k S').holds A env' ∧ ∀ w', Holds β prot S.mem w w' → (execOp a.eval o).run C.P w' = .ok (.value u) w' := by
  intro n
  induction n with
  | zero => ?_
  | succ n ih => ?_
  all_goals
    intro S hF hM h
    unfold stepQ at h
    split at h
    · rename_i l v hx
      have hF' : FRel env β { S with mem := protMem prot 0 S.mem } a := ⟨hF.ne, hF.nd, hF.nt, hF.tm, hF.fx, hF.bt⟩
      have h0 : Holds β prot S.mem w w := fun _ _ _ _ _ _ _ _ _ => rfl
      obtain ⟨u, hu, hrun⟩ := yval_val hE hF' (hM.cells.prot h0) hx
      have h1 := defsT_holds l env h
      have all : ∀ w', Holds β prot S.mem w w' → (execOp a.eval o).run C.P w' = .ok (.value u) w' := by
        intro w' hh
        obtain ⟨u', hu', hrun'⟩ := yval_val hE hF' (hM.cells.prot hh) hx
        have e : u' = u := hu.fun_ (Longer.refl _) (Longer.refl _) hu'
        subst e
        rcases hrun' with ⟨_, hr⟩ | ⟨_, hr⟩
        · exact hr w'
        · exact hr
      obtain ⟨S', a', hF2, hm, hh, ha⟩ : ∃ S' a', FRel (runDefs env l) β S' a' ∧ S'.mem = S.mem ∧ (k S').holds A (runDefs env l) ∧ a' = a.put o.dst u := by
        have := putK_ok (w := w) (K := fun a' _ => ∃ S' a'', FRel (runDefs env l) β S' a'' ∧ S'.mem = S.mem ∧ (k S').holds A (runDefs env l) ∧ a'' = a') (hF.grow l) (S := S.grow l) hu h1
          (fun S' a' hF' hm hh => ⟨S', a', hF', by rw [hm]; rfl, hh, rfl⟩)
        exact this
      subst ha
      exact ⟨u, S', _, Longer.defs env l, hF2, hm, hh, all⟩
    · rename_i x hx
      first
        | exact h.elim
        | (obtain ⟨h1, h2⟩ := h
           have hF' : FRel env β { S with mem := protMem prot 0 S.mem } a := ⟨hF.ne, hF.nd, hF.nt, hF.tm, hF.fx, hF.bt⟩
           rcases xval_ask hF' (yval_of hx (by simp) (by simp)) with hb | hb
           · exact ih { S with fx := (x, false) :: S.fx } (hF.know (t := false) (by simp [hb, b01]) (.inl hb)) hM (h2 (by simp [hb]))
           · exact ih { S with fx := (x, true) :: S.fx } (hF.know (t := true) (by simp [hb, b01]) (.inr hb)) hM (h1 (by simp [hb])))
    · exact h.elim

theorem yielded_of {ops : Array Oper} {j d : Nat} {v : Value} (hd : (ops[j]?).bind (·.dst) = some d) (hv : a.tmps[d]? = some v) :
    yielded ops a.tmps j = match v with | .bool b => some b | _ => none := by
  unfold yielded
  rw [hd]
  simp only [Option.bind_some, hv]
  cases v <;> rfl

/-- A guard that holds, one way or the other. -/
theorem xguard_cases {ops : Array Oper} {o : Oper} {kr ks : St → Tree} (hF : FRel env β S a) (h : (xguard ops o S kr ks).holds A env) :
    (∃ S', FRel env β S' a ∧ S'.mem = S.mem ∧ (∀ a' : Act, a'.tmps = a.tmps → Region.wanted o (yielded ops a'.tmps) = true) ∧ (kr S').holds A env) ∨
    (∃ S', FRel env β S' a ∧ S'.mem = S.mem ∧ Region.wanted o (yielded ops a.tmps) = false ∧ (ks S').holds A env) := by
  unfold xguard at h
  split at h
  · rename_i hg
    exact .inl ⟨S, hF, rfl, (fun a' _ => by simp [Region.wanted, hg]), h⟩
  · rename_i j want hg
    have wd : ∀ b : Option Bool, yielded ops a.tmps j = b → Region.wanted o (yielded ops a.tmps) = (b == some want) := by
      intro b hb
      simp only [Region.wanted, hg, hb]
    split at h
    · rename_i hd
      refine .inr ⟨S, hF, rfl, ?_, h⟩
      rw [wd none (by unfold yielded; simp [hd])]
      rfl
    · rename_i d hd
      split at h
      · rename_i e he
        obtain ⟨v, hv, t', ht', rfl⟩ := hF.tm d _ he
        have hy : yielded ops a.tmps j = some t' := by rw [yielded_of hd hv]
        have hk := know_is hF ht'
        have want_of : Region.wanted o (yielded ops a.tmps) = (t' == want) := by
          rw [wd _ hy]
          rfl
        have run : ∀ S', FRel env β S' a → S'.mem = S.mem → t' = want → (kr S').holds A env → (∃ S', FRel env β S' a ∧ S'.mem = S.mem ∧ (∀ a' : Act, a'.tmps = a.tmps → Region.wanted o (yielded ops a'.tmps) = true) ∧ (kr S').holds A env) := fun S' hF' hm htw hh =>
          ⟨S', hF', hm, (fun a' ha' => by rw [ha', want_of, htw]; simp), hh⟩
        have no : ∀ S', FRel env β S' a → S'.mem = S.mem → t' ≠ want → (ks S').holds A env → (∃ S', FRel env β S' a ∧ S'.mem = S.mem ∧ Region.wanted o (yielded ops a.tmps) = false ∧ (ks S').holds A env) := fun S' hF' hm htw hh =>
          ⟨S', hF', hm, by rw [want_of]; simpa using htw, hh⟩
        split at h
        · rename_i t2 hkn
          rw [hkn] at hk
          have hk : t' = t2 := hk
          subst hk
          cases hb : (t' == want)
          · simp only [hb, cond_false] at h
            exact .inr (no S hF rfl (by simpa using hb) h)
          · simp only [hb, cond_true] at h
            exact .inl (run S hF rfl (by simpa using hb) h)
        · rename_i x hkn
          rw [hkn] at hk
          have hx : env[x]? = some (b01 t') := hk
          obtain ⟨h1, h2⟩ := h
          have hbit : env[x]? = some 0 ∨ env[x]? = some 1 := by rw [hx]; cases t' <;> simp [b01]
          have hg0 : env.getD x 0 = b01 t' := by simp [hx]
          cases t'
          · have hF' := hF.know (t := false) hg0 hbit
            have hh := h2 (by rw [hg0]; rfl)
            cases want
            · simp only [cond_false] at hh
              exact .inl (run { S with fx := (x, false) :: S.fx } hF' rfl rfl hh)
            · simp only [cond_true] at hh
              exact .inr (no { S with fx := (x, false) :: S.fx } hF' rfl (by decide) hh)
          · have hF' := hF.know (t := true) hg0 hbit
            have hh := h1 (by rw [hg0]; rfl)
            cases want
            · simp only [cond_false] at hh
              exact .inr (no { S with fx := (x, true) :: S.fx } hF' rfl (by decide) hh)
            · simp only [cond_true] at hh
              exact .inl (run { S with fx := (x, true) :: S.fx } hF' rfl rfl hh)
      · rename_i he
        obtain ⟨v, hv, vs, rfl, _⟩ := hF.tm d _ he
        refine .inr ⟨S, hF, rfl, ?_, h⟩
        rw [wd none (by rw [yielded_of hd hv])]
        rfl
      · exact h.elim

/-- What an operation waits for itself, as bits. -/
def dmask (ops : List Oper) : List Nat := ops.map fun o => mask1 [] o.after.toList

def readyL (L : Nat) : Nat → List Nat → List Nat
  | _, [] => []
  | i, d :: r => bif !(L.testBit i) && Nat.beq (d &&& L) d then i :: readyL L (i + 1) r else readyL L (i + 1) r

/-- Who neither waits for it nor is apart from it, as bits. -/
def bmask1 (ops : Array Oper) (o : Oper) (i : Nat) : Nat → List Oper → Nat
  | _, [] => 0
  | j, p :: r => bif Nat.beq j i || (mask1 [] p.after.toList).testBit i || o.apart ops p then bmask1 ops o i (j + 1) r else 2 ^ j ||| bmask1 ops o i (j + 1) r
def bmask (ops : Array Oper) (l : List Oper) : Nat → List Oper → List Nat
  | _, [] => []
  | i, o :: r => bmask1 ops o i 0 l :: bmask ops l (i + 1) r

/-- Which operation is taken first. -/
def pickQ (C : Cfg) (ops : Array Oper) (B : List Nat) (prot : List Nat) (L : Nat) (S : St) : List Nat → Option Nat
  | [] => none
  | i :: r => match ops[i]?, B[i]? with
    | some o, some b => bif (Nat.beq (b &&& L) b && (Nat.beq (tagOf C.ext o) 0 || (Nat.beq (tagOf C.ext o) 1 && (match yval C.P C.ext o { S with mem := protMem prot 0 S.mem } with | .val _ _ => true | _ => false))))
        then some i else pickQ C ops B prot L S r
    | _, _ => pickQ C ops B prot L S r

theorem pickQ_mem {ops : Array Oper} {B prot : List Nat} {L : Nat} {i : Nat} : ∀ {l : List Nat}, pickQ C ops B prot L S l = some i → i ∈ l ∧ ∃ b, B[i]? = some b ∧ b &&& L = b
  | [], h => by cases h
  | j :: r, h => by
    unfold pickQ at h
    split at h
    · rename_i o b ho hb
      unfold cond at h
      split at h
      · rename_i hc
        injection h with h
        subst h
        rw [Bool.and_eq_true] at hc
        exact ⟨by simp, b, hb, Nat.eq_of_beq_eq_true hc.1⟩
      · have := pickQ_mem h
        exact ⟨by simp [this.1], this.2⟩
    · have := pickQ_mem h
      exact ⟨by simp [this.1], this.2⟩

theorem bit_sub {d L : Nat} (h : d &&& L = d) {i : Nat} (hi : d.testBit i = true) : L.testBit i = true := by
  rw [← h, Nat.testBit_and, Bool.and_eq_true] at hi
  exact hi.2

theorem mask1_nil_bit (e : Edge) (hb : Region.binds .any e = true) : ∀ (l : List Edge), e ∈ l → (mask1 [] l).testBit e.on = true
  | [], h => by cases h
  | f :: r, h => by
    unfold mask1
    rcases List.mem_cons.1 h with rfl | h
    · rw [hb, cond_true, Nat.testBit_or, Nat.testBit_or]
      simp
    · have ih := mask1_nil_bit e hb r h
      cases Region.binds .any f
      · exact ih
      · rw [cond_true, Nat.testBit_or, ih]; rfl

theorem mask1_nil_spec {l : List Edge} {i : Nat} (h : (mask1 [] l).testBit i = true) : ∃ e ∈ l, Region.binds .any e = true ∧ e.on = i := by
  obtain ⟨e, he, hb, hor⟩ := mask1_spec [] i l h
  rcases hor with h1 | h1
  · exact ⟨e, he, hb, h1⟩
  · simp at h1

theorem mem_readyL {L j : Nat} : ∀ {D : List Nat} {i : Nat}, j ∈ readyL L i D ↔ ∃ k d, j = i + k ∧ D[k]? = some d ∧ L.testBit j = false ∧ d &&& L = d
  | [], i => by simp [readyL]
  | d :: r, i => by
    have ih := mem_readyL (L := L) (j := j) (D := r) (i := i + 1)
    have step : (∃ k e, j = i + k ∧ (d :: r)[k]? = some e ∧ L.testBit j = false ∧ e &&& L = e) ↔ (j = i ∧ L.testBit j = false ∧ d &&& L = d) ∨ (∃ k e, j = i + 1 + k ∧ r[k]? = some e ∧ L.testBit j = false ∧ e &&& L = e) := by
      constructor
      · rintro ⟨k, e, hj, he, h1, h2⟩
        cases k with
        | zero =>
          simp at he
          subst he
          exact .inl ⟨by omega, h1, h2⟩
        | succ k => exact .inr ⟨k, e, by omega, by simpa using he, h1, h2⟩
      · rintro (⟨hj, h1, h2⟩ | ⟨k, e, hj, he, h1, h2⟩)
        · exact ⟨0, d, by omega, rfl, h1, h2⟩
        · exact ⟨k + 1, e, by omega, by simpa using he, h1, h2⟩
    rw [step, ← ih, readyL]
    cases hc : (!(L.testBit i) && Nat.beq (d &&& L) d)
    · simp only [cond_false]
      constructor
      · exact .inr
      · rintro (⟨rfl, h1, h2⟩ | h)
        · simp [h1, h2] at hc
        · exact h
    · simp only [cond_true, List.mem_cons]
      rw [Bool.and_eq_true] at hc
      have h1 : L.testBit i = false := by simpa using hc.1
      have h2 := Nat.eq_of_beq_eq_true hc.2
      constructor
      · rintro (rfl | h)
        · exact .inl ⟨rfl, h1, h2⟩
        · exact .inr h
      · rintro (⟨rfl, _, _⟩ | h)
        · exact .inl rfl
        · exact .inr h

/-- The bits say what the array says. -/
structure Lst (n L : Nat) (listed : Array Bool) : Prop where
  size : listed.size = n
  bit : ∀ j, listed.getD j false = L.testBit j

theorem Lst.set {n L : Nat} {listed : Array Bool} (h : Lst n L listed) {i : Nat} (hi : i < n) : Lst n (L ||| 2 ^ i) (listed.setIfInBounds i true) := by
  refine ⟨by simp [h.size], fun j => ?_⟩
  rw [Nat.testBit_or, Nat.testBit_two_pow]
  by_cases hij : i = j
  · subst hij
    simp [h.size, hi]
  · rw [getD_set_ne false hij, h.bit]
    simp [hij]

theorem ready_iff {ops : Array Oper} {n L : Nat} {listed : Array Bool} (hn : ops.size = n) (h : Lst n L listed) (j : Nat) :
    j ∈ Region.ready .any ops listed ↔ j ∈ readyL L 0 (dmask ops.toList) := by
  rw [mem_ready, mem_readyL]
  have flip : ∀ j, j < n → listed.getD j true = listed.getD j false := fun j hj => getD_flip (by rw [h.size]; exact hj)
  constructor
  · rintro ⟨h0, o, ho, hall⟩
    have hlt := (Array.getElem?_eq_some_iff.1 ho).1
    refine ⟨j, mask1 [] o.after.toList, by omega, ?_, ?_, ?_⟩
    · simp only [dmask, List.getElem?_map]
      rw [Array.getElem?_toList, ho]; rfl
    · rw [← h.bit, ← flip j (by omega)]; exact h0
    · apply Nat.eq_of_testBit_eq
      intro i
      rw [Nat.testBit_and]
      cases hb : (mask1 [] o.after.toList).testBit i
      · rfl
      · obtain ⟨e, he, hbi, rfl⟩ := mask1_nil_spec hb
        have := hall e (by simpa using he) hbi
        rw [h.bit] at this
        rw [this]; rfl
  · rintro ⟨k, d, rfl, hd, h1, h2⟩
    rw [Nat.zero_add] at *
    simp only [dmask, List.getElem?_map] at hd
    cases ho : ops[k]? with
    | none =>
      rw [Array.getElem?_toList, ho] at hd
      cases hd
    | some o =>
      rw [Array.getElem?_toList, ho] at hd
      simp at hd
      subst hd
      have hlt := (Array.getElem?_eq_some_iff.1 ho).1
      refine ⟨by rw [flip k (by omega), h.bit]; exact h1, o, rfl, fun e he hb => ?_⟩
      rw [h.bit]
      exact bit_sub h2 (mask1_nil_bit e hb _ (by simpa using he))

theorem bmask1_bit {ops : Array Oper} {o : Oper} {i : Nat} : ∀ {l : List Oper} {j k : Nat} {p : Oper}, l[k]? = some p → (bmask1 ops o i j l).testBit (j + k) = false → j + k = i ∨ (mask1 [] p.after.toList).testBit i = true ∨ o.apart ops p = true
  | [], j, k, p, h, _ => by simp at h
  | q :: r, j, 0, p, h, hb => by
    simp at h
    subst h
    unfold bmask1 at hb
    cases hc : (Nat.beq j i || (mask1 [] q.after.toList).testBit i || o.apart ops q)
    · rw [hc, cond_false, Nat.testBit_or, Nat.testBit_two_pow] at hb
      simp at hb
    · rw [Bool.or_eq_true, Bool.or_eq_true] at hc
      rcases hc with (hc | hc) | hc
      · exact .inl (by have := Nat.eq_of_beq_eq_true hc; omega)
      · exact .inr (.inl hc)
      · exact .inr (.inr hc)
  | q :: r, j, k + 1, p, h, hb => by
    have e : j + (k + 1) = j + 1 + k := by omega
    rw [e] at hb ⊢
    refine bmask1_bit (l := r) (j := j + 1) (by simpa using h) ?_
    unfold bmask1 at hb
    cases hc : (Nat.beq j i || (mask1 [] q.after.toList).testBit i || o.apart ops q)
    · rw [hc, cond_false, Nat.testBit_or] at hb
      simp at hb
      exact hb.2
    · rw [hc, cond_true] at hb; exact hb

theorem bmask_get {ops : Array Oper} {l : List Oper} : ∀ {m : List Oper} {i k : Nat} {b : Nat} {o : Oper}, (bmask ops l i m)[k]? = some b → m[k]? = some o → b = bmask1 ops o (i + k) 0 l
  | [], _, _, _, _, h, _ => by simp [bmask] at h
  | p :: m, i, 0, b, o, h, ho => by simp [bmask] at h ho; subst h; subst ho; rfl
  | p :: m, i, k + 1, b, o, h, ho => by
    have := bmask_get (m := m) (i := i + 1) (k := k) (b := b) (o := o) (by simpa [bmask] using h) (by simpa using ho)
    rw [show i + (k + 1) = i + 1 + k from by omega]; exact this

def allT : List Tree → Tree
  | [] => .bad 22
  | [t] => t
  | t :: r => .both t (allT r)
theorem allT_holds : ∀ {l : List Tree}, (allT l).holds A env → ∀ t ∈ l, t.holds A env
  | [], h, _, _ => h.elim
  | [t], h, u, hu => by simp at hu; subst hu; exact h
  | t :: s :: r, ⟨h1, h2⟩, u, hu => by
    rcases List.mem_cons.1 hu with rfl | hu
    · exact h1
    · exact allT_holds h2 u hu

def xany (C : Cfg) (xc : Nat → List SV → St → (SV → St → Tree) → Tree) (ops : Array Oper) (D B : List Nat) (prot : List Nat) (mem0 : List (List SC × Bool)) : Nat → Nat → St → (St → Tree) → Tree
  | 0, L, S, k => bif (readyL L 0 D).isEmpty then k S else .bad 23
  | n + 1, L, S, k =>
    bif (readyL L 0 D).isEmpty then k S else
    match pickQ C ops B prot L S (readyL L 0 D) with
    | some i => match ops[i]? with
      | some o => xguard ops o S (fun S1 => stepQ C prot o 2 S1 (fun S2 => xany C xc ops D B prot mem0 n (L ||| 2 ^ i) S2 k))
          (fun S1 => putK o.dst (.tt []) S1 (fun S2 => xany C xc ops D B prot mem0 n (L ||| 2 ^ i) S2 k))
      | none => .bad 24
    | none => allT ((readyL L 0 D).map fun i => match ops[i]? with
      | some o => xguard ops o S (fun S1 => xstep C xc o 2 S1 (fun S2 => bif sameB prot mem0 S2.mem then xany C xc ops D B prot mem0 n (L ||| 2 ^ i) S2 k else .bad 25))
          (fun S1 => putK o.dst (.tt []) S1 (fun S2 => xany C xc ops D B prot mem0 n (L ||| 2 ^ i) S2 k))
      | none => .bad 26)

theorem After.more {k : St → Tree} {K : Act → World → Prop} {env' : List Int} {β' : List (Nat × Nat)} (h : After A W0 Tp env β k K) (he : Longer env env') (hb : Longer β β') : After A W0 Tp env' β' k K :=
  fun S' e' b' a' w' he' hb' => h S' e' b' a' w' (he.trans he') (hb.trans hb')

theorem xany_ok (hE : Ext C.P C.ext) {xc : Nat → List SV → St → (SV → St → Tree) → Tree} (hxc : XcOk C A W0 Tp xc) {ops : Array Oper} {Q : Exit → Act → World → Prop} {k : St → Tree}
    (hsel : Region.noSelect ops = true) (hQ : Calm Q) {prot : List Nat} {env0 : List Int} {β0 : List (Nat × Nat)} {mem0 : List (List SC × Bool)} {w0 : World} (hM0 : MRel W0 Tp env0 β0 mem0 w0) :
    ∀ (n : Nat) (L : Nat) (listed : Array Bool) (S : St) (env : List Int) (β : List (Nat × Nat)) (a : Act) (w : World), Lst ops.size L listed → Longer env0 env → Longer β0 β → FRel env β S a → MRel W0 Tp env β S.mem w →
      sameB prot mem0 S.mem = true → (xany C xc ops (dmask ops.toList) (bmask ops ops.toList 0 ops.toList) prot mem0 n L S k).holds A env → After A W0 Tp env β k (Q .normal) →
      wpAnyH C.P .any ops Q (Holds β0 prot mem0 w0) n listed a w := by
  have nil_of : ∀ {L : Nat} {listed : Array Bool}, Lst ops.size L listed → (readyL L 0 (dmask ops.toList)).isEmpty = true → Region.ready .any ops listed = [] := by
    intro L listed hl h
    have h0 := List.isEmpty_iff.1 h
    apply List.eq_nil_iff_forall_not_mem.2
    intro j hj
    rw [ready_iff rfl hl, h0] at hj
    cases hj
  -- whoever holds at the start holds for the state at hand
  have now : ∀ {env : List Int} {β : List (Nat × Nat)} {mem : List (List SC × Bool)} {w : World}, Longer env0 env → Longer β0 β → MRel W0 Tp env β mem w → sameB prot mem0 mem = true →
      ∀ w', Holds β0 prot mem0 w0 w' → Holds β prot mem w w' := by
    intro env β mem w he hb hM hs w' hh r hr cs wr x hcs hx j hj
    have hw := holds_of hM0 hM he hb hs
    have h1 := List.all_eq_true.1 hs r hr
    simp only [hcs] at h1
    split at h1
    · rename_i cs0 wr0 ds wr' e1 e2
      injection e2 with e2
      injection e2 with e2 _
      subst e2
      have heq := listBeq_eq (fun _ _ => SC.beq_eq) h1
      subst heq
      obtain ⟨y, hy, _⟩ := hM0.cell r _ wr0 e1
      have hxy : y = x := by
        obtain ⟨b', rfl⟩ := hb
        rw [get_more hy b'] at hx
        injection hx
      subst hxy
      rw [hh r hr _ wr0 y e1 hy j hj, hw r hr _ wr0 y e1 hy j hj]
    · cases h1
  intro n
  induction n with
  | zero =>
    intro L listed S env β a w hl he hb hF hM hs h hk
    unfold xany at h
    cases hr : (readyL L 0 (dmask ops.toList)).isEmpty
    · simp only [hr, cond_false] at h; exact h.elim
    · simp only [hr, cond_true] at h
      exact wpAnyH_done (nil_of hl hr) (hk S env β a w (Longer.refl _) (Longer.refl _) hF hM h) 0
  | succ n ih =>
    intro L listed S env β a w hl he hb hF hM hs h hk
    have hS := holds_of hM0 hM he hb hs
    unfold xany at h
    cases hr : (readyL L 0 (dmask ops.toList)).isEmpty
    · simp only [hr, cond_false] at h
      have hne : Region.ready .any ops listed ≠ [] := by
        intro e
        have : readyL L 0 (dmask ops.toList) = [] := by
          apply List.eq_nil_iff_forall_not_mem.2
          intro j hj
          rw [← ready_iff rfl hl, e] at hj
          cases hj
        rw [this] at hr; cases hr
      split at h
      · rename_i i hi
        obtain ⟨him, b, hB, hsub⟩ := pickQ_mem hi
        have him : i ∈ Region.ready .any ops listed := (ready_iff rfl hl i).2 him
        have hfree : ∀ o, ops[i]? = some o → ∀ j oj, ops[j]? = some oj → j ≠ i → listed.getD j true = false → (∀ e ∈ oj.after, Region.binds .any e = true → e.on ≠ i) → o.apart ops oj = true := by
          intro o ho j oj hoj hne hun hno
          have hjlt := (Array.getElem?_eq_some_iff.1 hoj).1
          have hbe := bmask_get hB (show ops.toList[i]? = some o by rw [Array.getElem?_toList]; exact ho)
          rw [Nat.zero_add] at hbe
          have hnb : b.testBit j = false := by
            cases hbj : b.testBit j
            · rfl
            · have h1 := bit_sub hsub hbj
              rw [← hl.bit, ← getD_flip (by rw [hl.size]; exact hjlt), hun] at h1
              cases h1
          rw [hbe] at hnb
          have := bmask1_bit (j := 0) (k := j) (show ops.toList[j]? = some oj by rw [Array.getElem?_toList]; exact hoj) (by rw [Nat.zero_add]; exact hnb)
          rw [Nat.zero_add] at this
          rcases this with h1 | h1 | h1
          · exact absurd h1 hne
          · obtain ⟨e, he, hb, hon⟩ := mask1_nil_spec h1
            exact absurd hon (hno e (by simpa using he) hb)
          · exact h1
        split at h
        · rename_i o ho
          have hlt := (Array.getElem?_eq_some_iff.1 ho).1
          have take : ∀ {v : Value}, YieldsIf C.P ops (Holds β0 prot mem0 w0) o v a → wpAnyH C.P .any ops Q (Holds β0 prot mem0 w0) n (listed.setIfInBounds i true) (a.put o.dst v) w →
              wpAnyH C.P .any ops Q (Holds β0 prot mem0 w0) (n + 1) listed a w := fun hy hrest =>
            wpAnyH_first ho (Region.noSelect_spec hsel) (fun c a' w' hq => absurd hq (hQ.pan _ _ _)) n listed a w (hfree o ho) him hy hS hrest
          rcases xguard_cases hF h with ⟨S1, hF1, hm1, hw, h1⟩ | ⟨S1, hF1, hm1, hw, h1⟩
          · obtain ⟨u, S2, env2, he2, hF2, hm2, h2, hrun⟩ := stepQ_ok hE 2 S1 hF1 (by rw [hm1]; exact hM) h1
            have hMs : MRel W0 Tp env2 β S2.mem w := by
              obtain ⟨e', rfl⟩ := he2
              rw [hm2, hm1]; exact hM.more e'
            refine take (.inl ⟨hw a rfl, fun w' hh => hrun w' ?_⟩) (ih _ _ S2 env2 β _ w (hl.set hlt) (he.trans he2) hb hF2 hMs (by rw [hm2, hm1]; exact hs) h2 (hk.more he2 (Longer.refl _)))
            rw [hm1]
            exact now he hb hM hs w' hh
          · have hput : ∃ S2, FRel env β S2 (a.put o.dst undef) ∧ S2.mem = S1.mem ∧ (xany C xc ops (dmask ops.toList) (bmask ops ops.toList 0 ops.toList) prot mem0 n (L ||| 2 ^ i) S2 k).holds A env :=
              putK_ok (w := w) (K := fun a' _ => ∃ S2, FRel env β S2 a' ∧ S2.mem = S1.mem ∧ (xany C xc ops (dmask ops.toList) (bmask ops ops.toList 0 ops.toList) prot mem0 n (L ||| 2 ^ i) S2 k).holds A env) hF1 (v := .tt []) (u := undef) ⟨[], rfl, trivial⟩ h1
                (fun S' a' hF' hm hh => ⟨S', hF', hm, hh⟩)
            obtain ⟨S2, hF2, hm2, h2⟩ := hput
            exact take (.inr ⟨hw, rfl⟩) (ih _ _ S2 env β _ w (hl.set hlt) he hb hF2 (by rw [hm2, hm1]; exact hM) (by rw [hm2, hm1]; exact hs) h2 hk)
        · exact h.elim
      · refine wpAnyH_all rfl hne fun i hi => ?_
        have hT := allT_holds h _ (List.mem_map.2 ⟨i, (ready_iff rfl hl i).1 hi, rfl⟩)
        split at hT
        · rename_i o ho
          have hlt := (Array.getElem?_eq_some_iff.1 ho).1
          have hw1 : wpT C.P ops Q (tagOf C.ext o) o (fun a' w' => Holds β0 prot mem0 w0 w' ∧ wpAnyH C.P .any ops Q (Holds β0 prot mem0 w0) n (listed.setIfInBounds i true) a' w') a w := by
            rcases xguard_cases hF hT with ⟨S1, hF1, hm1, hw, h1⟩ | ⟨S1, hF1, hm1, hw, h1⟩
            · refine xstep_ok hE hxc hw 2 S1 hF1 (by rw [hm1]; exact hM) h1 ?_
              intro S2 env2 β2 a2 w2 he2 hb2 hF2 hM2 h2
              cases hsb : sameB prot mem0 S2.mem
              · simp only [hsb, cond_false] at h2; exact h2.elim
              · simp only [hsb, cond_true] at h2
                exact ⟨holds_of hM0 hM2 (he.trans he2) (hb.trans hb2) hsb, ih _ _ S2 env2 β2 a2 w2 (hl.set hlt) (he.trans he2) (hb.trans hb2) hF2 hM2 hsb h2 (hk.more he2 hb2)⟩
            · unfold wpT
              rw [if_neg (by rw [hw]; decide)]
              have hput : ∃ S2, FRel env β S2 (a.put o.dst undef) ∧ S2.mem = S1.mem ∧ (xany C xc ops (dmask ops.toList) (bmask ops ops.toList 0 ops.toList) prot mem0 n (L ||| 2 ^ i) S2 k).holds A env :=
                putK_ok (w := w) (K := fun a' _ => ∃ S2, FRel env β S2 a' ∧ S2.mem = S1.mem ∧ (xany C xc ops (dmask ops.toList) (bmask ops ops.toList 0 ops.toList) prot mem0 n (L ||| 2 ^ i) S2 k).holds A env) hF1 (v := .tt []) (u := undef) ⟨[], rfl, trivial⟩ h1
                  (fun S' a' hF' hm hh => ⟨S', hF', hm, hh⟩)
              obtain ⟨S2, hF2, hm2, h2⟩ := hput
              exact ⟨hS, ih _ _ S2 env β _ w (hl.set hlt) he hb hF2 (by rw [hm2, hm1]; exact hM) (by rw [hm2, hm1]; exact hs) h2 hk⟩
          exact wpT_wpOp ho hw1
        · exact hT.elim
    · simp only [hr, cond_true] at h
      exact wpAnyH_done (nil_of hl hr) (hk S env β a w (Longer.refl _) (Longer.refl _) hF hM h) (n + 1)

/-- The regions that the region's own stores don't name. -/
def protOf (ops : List Oper) (S : St) : List Nat :=
  (List.range S.mem.length).filter fun r => sameB [r] S.mem S.mem && !(ops.any fun o => match o.op with
    | .store _ ad _ => match xev S ad with
      | some (.ww (.cc (.pp r' _))) => Nat.beq r r'
      | _ => false
    | _ => false)

theorem protOf_same (ops : List Oper) (S : St) : sameB (protOf ops S) S.mem S.mem = true := by
  refine List.all_eq_true.2 fun r hr => ?_
  have h := (List.mem_filter.1 hr).2
  rw [Bool.and_eq_true] at h
  have h1 := h.1
  unfold sameB at h1
  exact List.all_eq_true.1 h1 r (by simp)
end
end Eng
end
