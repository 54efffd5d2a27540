/-
  What an operation yields by reckoning, against the model's own run: the operations that yield a value and change nothing.
-/
import Derived.Test.YtakddcclpocejaaEng6
namespace Eng
open Go Go.RowKit

section
variable {P : Program} {ext : Nat → Nat} {W0 : World} {Tp : Nat → Nat → Prop} {env : List Int} {β : List (Nat × Nat)} {S : St} {a : Act}

theorem b01_of {p : Prop} [Decidable p] : b01 (decide p) = if p then 1 else 0 := by by_cases h : p <;> simp [b01, h]
theorem b01_beq (s t : Bool) : cmpEv .eql (b01 s) (b01 t) = (s == t) := by cases s <;> cases t <;> rfl
theorem b01_bne (s t : Bool) : cmpEv .neq (b01 s) (b01 t) = !(s == t) := by cases s <;> cases t <;> rfl

theorem run_bool_eq {t : TypeId} (hu : P.underlying t = some .bool) (x y : Bool) (w : World) : (Op.equal t (.bool x) (.bool y)).run P w = .ok (x == y) w := by
  have key : ∀ d, (Op.equalIn (d + 1) t (.bool x) (.bool y)).run P w = .ok (x == y) w := fun d => by simp [Op.equalIn, run_underlying hu]
  exact key 9999

theorem guard_bool (op : BinOp) (t : TypeId) (x y : Operand) (p q : Bool) (w : World) : (eqGuard op t x y (.bool p) (.bool q)).run P w = .ok () w := by
  cases op <;> simp [eqGuard]

theorem binI_val (hn : env.length = S.ne) {op : BinOp} {t : TypeId} {x y : Operand} {k k' : IntKind} {e e' : SI} {i j : Int} {l : List (IOp × List SI)} {r : SV}
    (hi : e.is env i) (hif : fits k i) (hj : e'.is env j) (hjf : fits k' j) (h : xBinI S op k k' e e' = .val l r) :
    ∃ z, r.is (runDefs env l) β z ∧ Yl P (do eqGuard op t x y (.int k i) (.int k' j); binOp op t (.int k i) (.int k' j)) z := by
  have ev2 : ∀ o : BinOp, (IOp.bin o k).ev ([e, e'].map (·.val env)) = binEv o k i j := by
    intro o; simp [IOp.ev, hi.val, hj.val]
  have evc : ∀ o : BinOp, (IOp.cmp o).ev ([e, e'].map (·.val env)) = b01 (cmpEv o i j) := by
    intro o; simp [IOp.ev, hi.val, hj.val]
  have mk : ∀ o : BinOp, mkI S k (.bin o k) [e, e'] = .val l r → r.is (runDefs env l) β (.int k (binEv o k i j)) := by
    intro o h
    have := mkI_is (β := β) hn h (by rw [ev2]; exact fits_bin j hif)
    rwa [ev2] at this
  have shiftCase : op = .shl ∨ op = .shr → (bif nneB k' e' then mkI S k (.bin op k) [e, e'] else XR.fail) = .val l r →
      ∃ z, r.is (runDefs env l) β z ∧ Yl P (do eqGuard op t x y (.int k i) (.int k' j); binOp op t (.int k i) (.int k' j)) z := by
    intro ho hx
    cases hb : nneB k' e'
    · simp [hb] at hx
    · simp only [hb, cond_true] at hx
      exact ⟨_, mk op hx, yl_shift t x y i j ho (nneB_spec hb hj hjf)⟩
  have divCase : op = .quo ∨ op = .rem → (bif decide (k = k') && nzB e' then mkI S k (.bin op k) [e, e'] else XR.fail) = .val l r →
      ∃ z, r.is (runDefs env l) β z ∧ Yl P (do eqGuard op t x y (.int k i) (.int k' j); binOp op t (.int k i) (.int k' j)) z := by
    intro ho hx
    cases hb : (decide (k = k') && nzB e')
    · simp [hb] at hx
    · simp only [hb, cond_true] at hx
      rw [Bool.and_eq_true, decide_eq_true_eq] at hb
      obtain ⟨rfl, hb⟩ := hb
      exact ⟨_, mk op hx, yl_div_int t x y i j ho (nzB_spec hb hj)⟩
  have other : (bif decide (k = k') then (bif arithB op then mkI S k (.bin op k) [e, e'] else bif cmpB op then mkB S (.cmp op) [e, e'] else .fail) else XR.fail) = .val l r →
      ∃ z, r.is (runDefs env l) β z ∧ Yl P (do eqGuard op t x y (.int k i) (.int k' j); binOp op t (.int k i) (.int k' j)) z := by
    intro hx
    cases hk : decide (k = k')
    · simp [hk] at hx
    · simp only [hk, cond_true] at hx
      have hk := of_decide_eq_true hk
      subst hk
      cases ha : arithB op
      · simp only [ha, cond_false] at hx
        cases hc : cmpB op
        · simp [hc] at hx
        · simp only [hc, cond_true] at hx
          exact ⟨_, mkB_is (β := β) hn hx (evc op), yl_cmp_int t x y i j hc⟩
      · simp only [ha, cond_true] at hx
        exact ⟨_, mk op hx, yl_bin_int t x y i j ha⟩
  cases op with
  | shl => exact shiftCase (.inl rfl) h
  | shr => exact shiftCase (.inr rfl) h
  | quo => exact divCase (.inl rfl) h
  | rem => exact divCase (.inr rfl) h
  | _ => exact other h

theorem binB_val (hF : FRel env β S a) {op : BinOp} {t : TypeId} {x y : Operand} {e e' : SB} {i j : Bool} {l : List (IOp × List SI)} {r : SV}
    (hi : e.is env i) (hj : e'.is env j) (h : xBinB P S op t e e' = .val l r) :
    ∃ z, r.is (runDefs env l) β z ∧ Yl P (do eqGuard op t x y (.bool i) (.bool j); binOp op t (.bool i) (.bool j)) z := by
  have hn := hF.ne
  unfold xBinB at h
  have k1 := (know_is hF hi).si.val
  have k2 := (know_is hF hj).si.val
  split at h
  · rename_i hu
    have hb := mkB_is (β := β) (t := i == j) hn h (by simp only [IOp.ev, List.map_cons, List.map_nil, k1, k2]; exact congrArg b01 (b01_beq i j))
    refine ⟨_, hb, fun w => ?_⟩
    simp only [Sem.run_bind, guard_bool, Result.andThen_ok, binOp, run_bool_eq hu, Sem.run_pure]
  · rename_i hu
    have hb := mkB_is (β := β) (t := !(i == j)) hn h (by simp only [IOp.ev, List.map_cons, List.map_nil, k1, k2]; exact congrArg b01 (b01_bne i j))
    refine ⟨_, hb, fun w => ?_⟩
    simp only [Sem.run_bind, guard_bool, Result.andThen_ok, binOp, run_bool_eq hu, Sem.run_pure]
  · cases h

theorem eqs_ev {n : Nat} (xs ys : List SI) (hx : xs.length = n) : (IOp.eqs n).ev ((xs ++ ys).map (·.val env)) = b01 (decide (xs.map (·.val env) = ys.map (·.val env))) := by
  have e1 : ((xs ++ ys).map (·.val env)).take n = xs.map (·.val env) := by rw [List.map_append, List.take_append_of_le_length (by simp [hx]), List.take_of_length_le (by simp [hx])]
  have e2 : ((xs ++ ys).map (·.val env)).drop n = ys.map (·.val env) := by rw [List.map_append, List.drop_append_of_le_length (by simp [hx]), List.drop_of_length_le (by simp [hx])]; simp
  simp only [IOp.ev, e1, e2]
  congr 1
  rw [Bool.eq_iff_iff]
  simp

theorem binA_val (hn : env.length = S.ne) {op : BinOp} {t : TypeId} {x y : Operand} {p q : List SC} {vs ws : List Value} {l : List (IOp × List SI)} {r : SV}
    (h1 : All2 (SC.is env β) p vs) (h2 : All2 (SC.is env β) q ws) (h : xBinA P S op t p q = .val l r) :
    ∃ z, r.is (runDefs env l) β z ∧ Yl P (do eqGuard op t x y (.agg vs.toArray) (.agg ws.toArray); binOp op t (.agg vs.toArray) (.agg ws.toArray)) z := by
  unfold xBinA at h
  split at h
  · rename_i n el xs ys hu hx hy
    cases hc : (decide (xs.length = n) && decide (ys.length = n) && decide (usz P el = some 1) && !(P.eqGuardType P.depth t))
    · simp [hc] at h
    · simp only [hc, cond_true] at h
      simp only [Bool.and_eq_true, decide_eq_true_eq, Bool.not_eq_true'] at hc
      obtain ⟨⟨⟨c1, c2⟩, c3⟩, c4⟩ := hc
      have core : P.underlying el = some (.int .u64) → ∀ (op : BinOp) (w : World), (eqGuard op t x y (.agg vs.toArray) (.agg ws.toArray)).run P w = .ok () w ∧
          (Op.equal t (.agg vs.toArray) (.agg ws.toArray)).run P w = .ok (decide (xs.map (·.val env) = ys.map (·.val env))) w := by
        intro he op w
        rw [intsOf_is hx h1, intsOf_is hy h2]
        refine ⟨?_, run_arr_eq hu c3 he _ _ (by simpa using c1) (by simpa using c2) w⟩
        cases op <;> simp [eqGuard, c4]
      have val := eqs_ev (env := env) xs ys c1
      split at h
      · rename_i he
        injection h with h3 h4
        subst h3; subst h4
        refine ⟨.bool (decide (xs.map (·.val env) = ys.map (·.val env))), ⟨_, ?_, rfl⟩, fun w => ?_⟩
        · simp only [SB.is, runDefs, val, ← hn]; simp
        · obtain ⟨g1, g2⟩ := core he .eql w
          simp only [Sem.run_bind, g1, Result.andThen_ok, binOp, g2, Sem.run_pure]
      · rename_i he
        injection h with h3 h4
        subst h3; subst h4
        refine ⟨.bool (!(decide (xs.map (·.val env) = ys.map (·.val env)))), ⟨_, ?_, rfl⟩, fun w => ?_⟩
        · have e1 : (SI.var env.length).val (env ++ [b01 (decide (xs.map (·.val env) = ys.map (·.val env)))]) = b01 (decide (xs.map (·.val env) = ys.map (·.val env))) := by
            simp [SI.val]
          simp only [SB.is, runDefs, val, List.map_cons, List.map_nil, ← hn, e1]
          have : ∀ b : Bool, IOp.ev (.cmp .neq) [b01 b, SI.val (env ++ [b01 b]) (.lit 1)] = b01 (!b) := by intro b; cases b <;> rfl
          simp [this]
        · obtain ⟨g1, g2⟩ := core he .neq w
          simp only [Sem.run_bind, g1, Result.andThen_ok, binOp, g2, Sem.run_pure]
      · cases h
  · cases h

theorem bin_val (hF : FRel env β S a) {op : BinOp} {t : TypeId} {x y : Operand} {u v : SV} {l : List (IOp × List SI)} {r : SV} {m n : Value}
    (hu : u.is env β m) (hv : v.is env β n) (h : xBin P S op t u v = .val l r) :
    ∃ z, r.is (runDefs env l) β z ∧ Yl P (do eqGuard op t x y m n; binOp op t m n) z := by
  unfold xBin at h
  split at h
  · obtain ⟨i, hi, hif, rfl⟩ := hu
    obtain ⟨j, hj, hjf, rfl⟩ := hv
    exact binI_val hF.ne hi hif hj hjf h
  · obtain ⟨i, hi, rfl⟩ := hu
    obtain ⟨j, hj, rfl⟩ := hv
    exact binB_val hF hi hj h
  · obtain ⟨vs, rfl, h1⟩ := hu
    obtain ⟨ws, rfl, h2⟩ := hv
    exact binA_val hF.ne h1 h2 h
  · cases h
end
end Eng
