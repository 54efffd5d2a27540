/-
  A region that draws its order: whatever order is drawn, the lexical one serves, if the operations that may change places are independent. Conditions: no panic leaves the region.
-/
import Derived.Orders
import Derived.Tactics
namespace Eng
open Go

/-- Nothing is asked of a panic, nor of a run that outgrows: they do not happen. -/
structure Calm (Q : Exit → Act → World → Prop) : Prop where
  pan : ∀ c a w, ¬ Q (.panic c) a w
  out : ¬ LetsOut Q

section
variable {P : Program} {ops : Array Oper} {Q : Exit → Act → World → Prop}

/-- One operation, by its tag: 0 looks at its operands alone, 1 reads the world, else whatever. -/
def wpT (P : Program) (ops : Array Oper) (Q : Exit → Act → World → Prop) (t : Nat) (o : Oper) (K : Act → World → Prop) (a : Act) (w : World) : Prop :=
  if Region.wanted o (yielded ops a.tmps) = true then
    (match t with
     | 0 => ∃ v, (∀ w', (execOp a.eval o).run P w' = .ok (.value v) w') ∧ K (a.put o.dst v) w
     | 1 => ∃ v, (execOp a.eval o).run P w = .ok (.value v) w ∧ K (a.put o.dst v) w
     | _ => o.wp P a w K Q)
  else K (a.put o.dst undef) w

theorem wpT_wp {t : Nat} {o : Oper} {K : Act → World → Prop} {a : Act} {w : World} (hw : Region.wanted o (yielded ops a.tmps) = true)
    (h : wpT P ops Q t o K a w) : o.wp P a w K Q := by
  unfold wpT at h
  rw [if_pos hw] at h
  match t, h with
  | 0, ⟨v, hr, hk⟩ => unfold Oper.wp; rw [hr w]; exact hk
  | 1, ⟨v, hr, hk⟩ => unfold Oper.wp; rw [hr]; exact hk
  | _ + 2, h => exact h

theorem wpT_wpOp {i : Nat} {t : Nat} {o : Oper} {K : Act → World → Prop} {a : Act} {w : World} (hi : ops[i]? = some o)
    (h : wpT P ops Q t o K a w) : wpOp P ops Q i K a w := by
  unfold wpOp
  simp only [hi]
  by_cases hw : Region.wanted o (yielded ops a.tmps) = true
  · rw [if_pos hw]; exact .inl (wpT_wp hw h)
  · rw [if_neg hw]; unfold wpT at h; rw [if_neg hw] at h; exact h

theorem wpT_mono {t : Nat} {o : Oper} {K K' : Act → World → Prop} {a : Act} {w : World} (hk : ∀ a w, K a w → K' a w)
    (h : wpT P ops Q t o K a w) : wpT P ops Q t o K' a w := by
  unfold wpT at *
  split
  · rename_i hw
    rw [if_pos hw] at h
    match t, h with
    | 0, ⟨v, hr, h⟩ => exact ⟨v, hr, hk _ _ h⟩
    | 1, ⟨v, hr, h⟩ => exact ⟨v, hr, hk _ _ h⟩
    | _ + 2, h => exact Oper.wp_mono hk h
  · rename_i hw
    rw [if_neg hw] at h
    exact hk _ _ h

/-- It leaves v and changes nothing else. -/
def Still (P : Program) (ops : Array Oper) (t : Nat) (o : Oper) (a : Act) (w : World) (v : Value) : Prop :=
  (Region.wanted o (yielded ops a.tmps) = true ∧ ((t = 0 ∧ ∀ w', (execOp a.eval o).run P w' = .ok (.value v) w') ∨ (t = 1 ∧ (execOp a.eval o).run P w = .ok (.value v) w))) ∨
  (¬ Region.wanted o (yielded ops a.tmps) = true ∧ v = undef)

theorem Still.wpT {t : Nat} {o : Oper} {K : Act → World → Prop} {a : Act} {w : World} {v : Value} (h : Still P ops t o a w v) (hk : K (a.put o.dst v) w) :
    wpT P ops Q t o K a w := by
  unfold Eng.wpT
  rcases h with ⟨hw, ⟨rfl, h⟩ | ⟨rfl, h⟩⟩ | ⟨hw, rfl⟩
  · rw [if_pos hw]; exact ⟨v, h, hk⟩
  · rw [if_pos hw]; exact ⟨v, h, hk⟩
  · rw [if_neg hw]; exact hk

/-- Either still, or an operation of the third kind that is carried out. -/
theorem wpT_cases {t : Nat} {o : Oper} {K : Act → World → Prop} {a : Act} {w : World} (h : wpT P ops Q t o K a w) :
    (∃ v, Still P ops t o a w v ∧ K (a.put o.dst v) w) ∨ (Region.wanted o (yielded ops a.tmps) = true ∧ 2 ≤ t ∧ o.wp P a w K Q) := by
  unfold wpT at h
  split at h
  · rename_i hw
    match t, h with
    | 0, ⟨v, hr, h⟩ => exact .inl ⟨v, .inl ⟨hw, .inl ⟨rfl, hr⟩⟩, h⟩
    | 1, ⟨v, hr, h⟩ => exact .inl ⟨v, .inl ⟨hw, .inr ⟨rfl, hr⟩⟩, h⟩
    | _ + 2, h => exact .inr ⟨hw, by omega, h⟩
  · rename_i hw
    exact .inl ⟨undef, .inr ⟨hw, rfl⟩, h⟩

theorem wpT_eff {t : Nat} {o : Oper} {K : Act → World → Prop} {a : Act} {w : World} (hw : Region.wanted o (yielded ops a.tmps) = true) (ht : 2 ≤ t) (h : o.wp P a w K Q) :
    wpT P ops Q t o K a w := by
  unfold wpT
  rw [if_pos hw]
  match t, ht with
  | _ + 2, _ => exact h

theorem Still.of_same {t : Nat} {o : Oper} {v : Value} {a a' : Act} {w : World} (hy : Still P ops t o a w v) (he : execOp a'.eval o = execOp a.eval o)
    (hw : Region.wanted o (yielded ops a'.tmps) = Region.wanted o (yielded ops a.tmps)) : Still P ops t o a' w v := by
  unfold Still at *
  rw [he, hw]
  exact hy

/-- What looks at its operands alone is still in every world. -/
theorem Still.world {t : Nat} {o : Oper} {v : Value} {a : Act} {w w' : World} (hy : Still P ops t o a w v) (ht : t ≠ 1) : Still P ops t o a w' v := by
  rcases hy with ⟨hw, ⟨h0, h⟩ | ⟨h1, h⟩⟩ | hn
  · exact .inl ⟨hw, .inl ⟨h0, h⟩⟩
  · exact absurd h1 ht
  · exact .inr hn

theorem put_defers (a : Act) (x : Option Tmp) (v : Value) (d : Deferred) :
    ({ a.put x v with defers := d :: (a.put x v).defers } : Act) = ({ a with defers := d :: a.defers } : Act).put x v := by
  cases x <;> rfl

/-- Two neighbours change places. -/
theorem wpT_swap {oi oj : Oper} {ti tj : Nat} {K : Act → World → Prop} {a : Act} {w : World} (hap : oi.apart ops oj = true)
    (hsi : ∀ cs b, oi.op ≠ .select cs b) (hsj : ∀ cs b, oj.op ≠ .select cs b) (hind : ti = 0 ∨ tj = 0 ∨ (ti ≤ 1 ∧ tj ≤ 1)) (hQ : Calm Q)
    (h : wpT P ops Q ti oi (fun a' w' => wpT P ops Q tj oj K a' w') a w) : wpT P ops Q tj oj (fun a' w' => wpT P ops Q ti oi K a' w') a w := by
  obtain ⟨h1, h2, h3⟩ := Oper.apart_spec hap
  have ij : ∀ {b : Act} {v u : Value} {w : World}, Still P ops tj oj (b.put oi.dst v) w u → Still P ops tj oj b w u := fun hy =>
    hy.of_same (execOp_put oj hsj _ oi.dst _ h1).symm (wanted_put oj _ oi.dst _ h1).symm
  have ji : ∀ {b : Act} {v u : Value} {w : World}, Still P ops ti oi b w u → Still P ops ti oi (b.put oj.dst v) w u := fun hy =>
    hy.of_same (execOp_put oi hsi _ oj.dst _ h3) (wanted_put oi _ oj.dst _ h3)
  have ij' : ∀ {b : Act} {v u : Value} {w : World}, Still P ops tj oj b w u → Still P ops tj oj (b.put oi.dst v) w u := fun hy =>
    hy.of_same (execOp_put oj hsj _ oi.dst _ h1) (wanted_put oj _ oi.dst _ h1)
  rcases wpT_cases h with ⟨v, hi, hj⟩ | ⟨hwi, hti, hi⟩
  · rcases wpT_cases hj with ⟨u, hj, hk⟩ | ⟨hwj, htj, hj⟩
    · refine (ij hj).wpT ((ji hi).wpT ?_)
      rw [← Act.put_comm a v u h2]; exact hk
    · -- the second is of the third kind
      have hti : ti ≠ 1 := by omega
      have hwj' : Region.wanted oj (yielded ops a.tmps) = true := by rw [← hwj]; exact (wanted_put oj a oi.dst v h1).symm
      refine wpT_eff hwj' htj ?_
      unfold Oper.wp at *
      rw [execOp_put oj hsj a oi.dst v h1] at hj
      generalize (execOp a.eval oj).run P w = r at *
      have fin : ∀ (b : Act) (u : Value) (w' : World), Still P ops ti oi b w' v → K ((b.put oi.dst v).put oj.dst u) w' → wpT P ops Q ti oi K (b.put oj.dst u) w' := by
        intro b u w' hb hk
        have hb' : Still P ops ti oi (b.put oj.dst u) w' v := hb.of_same (execOp_put oi hsi b oj.dst u h3) (wanted_put oi b oj.dst u h3)
        exact hb'.wpT (by rw [← Act.put_comm b v u h2]; exact hk)
      cases r with
      | ok n w' =>
        cases n <;> simp only [Oper.upon] at hj ⊢
        case value u => exact fin _ _ _ (hi.world hti) hj
        case skip => exact fin _ _ _ (hi.world hti) hj
        case defer d =>
          refine fin _ _ _ ((hi.world hti).of_same rfl rfl) ?_
          rw [← put_defers]; exact hj
        case enter f args =>
          refine Calls.mono hj fun e w'' he => ?_
          cases e with
          | returned u => exact fin _ _ _ (hi.world hti) he
          | panicked c => exact absurd he (hQ.pan _ _ _)
          | outgrown => exact he
        case row row args => exact Rows.mono hj fun u w'' he => fin _ _ _ (hi.world hti) he
      | halt x w' =>
        cases x <;> simp only [Oper.upon] at hj ⊢
        case panic u => exact absurd hj (hQ.pan _ _ _)
  · -- the first is of the third kind: the second looks at its operands alone, or isn't wanted
    have htj : tj = 0 := by omega
    subst htj
    -- what the second leaves
    have step : ∀ {b : Act} {u : Value} {w' : World}, (∀ x, execOp (b.put oi.dst x).eval oj = execOp b.eval oj) → wpT P ops Q 0 oj K (b.put oi.dst u) w' →
        ∃ v, (∀ w'', Still P ops 0 oj b w'' v) := by
      intro b u w' _ hk
      rcases wpT_cases hk with ⟨v, hv, _⟩ | ⟨_, h2, _⟩
      · exact ⟨v, fun w'' => (ij hv).world (by omega)⟩
      · omega
    have fin : ∀ {b : Act} {u v : Value} {w' : World}, Still P ops 0 oj b w' v → wpT P ops Q 0 oj K (b.put oi.dst u) w' → K ((b.put oj.dst v).put oi.dst u) w' := by
      intro b u v w' hv hk
      have hv' : Still P ops 0 oj (b.put oi.dst u) w' v := ij' hv
      rcases wpT_cases hk with ⟨v', hv2, hk⟩ | ⟨_, h2, _⟩
      · have : v = v' := by
          rcases hv' with ⟨hw, ⟨_, h⟩ | ⟨h, _⟩⟩ | ⟨hw, rfl⟩
          · rcases hv2 with ⟨_, ⟨_, h'⟩ | ⟨h', _⟩⟩ | ⟨hw', _⟩
            · have := (h w).symm.trans (h' w)
              injection this with this
              injection this
            · omega
            · exact absurd hw hw'
          · omega
          · rcases hv2 with ⟨hw', _⟩ | ⟨_, rfl⟩
            · exact absurd hw' hw
            · rfl
        subst this
        rw [← Act.put_comm b u v h2]; exact hk
      · omega
    have keep : ∀ (b : Act) (x : Value), execOp (b.put oi.dst x).eval oj = execOp b.eval oj := fun b x => execOp_put oj hsj b oi.dst x h1
    have wi : ∀ (x : Value), Region.wanted oi (yielded ops (a.put oj.dst x).tmps) = true := fun x => by rw [wanted_put oi a oj.dst x h3]; exact hwi
    have get : ∃ v, ∀ w'', Still P ops 0 oj a w'' v := by
      have hi' := hi
      unfold Oper.wp at hi'
      generalize (execOp a.eval oi).run P w = r at *
      cases r with
      | ok n w' =>
        cases n <;> simp only [Oper.upon] at hi'
        case value u => exact step (keep a) hi'
        case skip => exact step (keep a) hi'
        case defer d =>
          obtain ⟨v, hv⟩ := step (b := { a with defers := d :: a.defers }) (keep _) hi'
          exact ⟨v, fun w'' => (hv w'').of_same rfl rfl⟩
        case enter f args =>
          obtain ⟨e, w'', _, hR, _⟩ := hi' []
          cases e with
          | returned u => exact step (keep a) hR
          | panicked c => exact absurd hR (hQ.pan _ _ _)
          | outgrown => exact absurd hR hQ.out
        case row row args =>
          obtain ⟨v, w'', hR, _⟩ := hi' default []
          exact step (keep a) hR
      | halt x w' =>
        cases x <;> simp only [Oper.upon] at hi'
        case panic u => exact absurd hi' (hQ.pan _ _ _)
    obtain ⟨v, hv⟩ := get
    refine (hv w).wpT ?_
    refine wpT_eff (wi v) hti ?_
    unfold Oper.wp at *
    rw [execOp_put oi hsi a oj.dst v h3]
    generalize (execOp a.eval oi).run P w = r at *
    cases r with
    | ok n w' =>
      cases n <;> simp only [Oper.upon] at hi ⊢
      case value u => exact fin (hv _) hi
      case skip => exact fin (hv _) hi
      case defer d =>
        rw [put_defers]
        exact fin ((hv _).of_same rfl rfl) hi
      case enter f args =>
        refine Calls.mono hi fun e w'' he => ?_
        cases e with
        | returned u => exact fin (hv _) he
        | panicked c => exact absurd he (hQ.pan _ _ _)
        | outgrown => exact he
      case row row args => exact Rows.mono hi fun u w'' he => fin (hv _) he
    | halt x w' =>
      cases x <;> simp only [Oper.upon] at hi ⊢
      case panic u => exact absurd hi (hQ.pan _ _ _)
end
end Eng
