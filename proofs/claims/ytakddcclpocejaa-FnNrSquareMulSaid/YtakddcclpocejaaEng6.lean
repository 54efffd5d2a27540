/-
  What an operation of the walk by reckoning yields is what the model's operation yields.
-/
import Derived.Test.YtakddcclpocejaaEng5
namespace Eng
open Go Go.RowKit

section
variable {P : Program} {ext : Nat → Nat} {W0 : World} {Tp : Nat → Nat → Prop} {env : List Int} {β : List (Nat × Nat)} {S : St} {a : Act}

theorem xev_is (hF : FRel env β S a) {x : Operand} {sv : SV} (h : xev S x = some sv) : sv.is env β (a.eval x) := by
  cases x with
  | tmp t =>
    obtain ⟨v, hv, hs⟩ := hF.tm t sv h
    have : a.eval (.tmp t) = v := by simp [Act.eval, hv]
    rw [this]; exact hs
  | const v =>
    simp only [xev] at h
    cases ho : ofVal v with
    | none => simp [ho] at h
    | some y => simp [ho] at h; subst h; exact ofVal_is ho
  | global g => simp [xev] at h; subst h; exact ⟨rfl, rfl⟩
  | func f => simp [xev] at h; subst h; exact ⟨rfl, rfl⟩

theorem xevs_is (hF : FRel env β S a) : ∀ {l : List Operand} {m : List SV}, xevs S l = some m → All2 (SV.is env β) m (l.map a.eval)
  | [], m, h => by simp [xevs] at h; subst h; trivial
  | x :: r, m, h => by
    unfold xevs at h
    cases hx : xev S x with
    | none => simp [hx] at h
    | some v =>
      cases hr : xevs S r with
      | none => simp [hx, hr] at h
      | some l => simp [hx, hr] at h; subst h; exact ⟨xev_is hF hx, xevs_is hF hr⟩

theorem know_is (hF : FRel env β S a) {e : SB} {t : Bool} (h : e.is env t) : (know S e).is env t := by
  cases e with
  | lit b => exact h
  | var x =>
    cases hx : lk x S.fx with
    | none => simp only [know, hx]; exact h
    | some t' =>
      simp only [know, hx]
      have h1 := hF.fx x t' hx
      have h2 : env[x]? = some (b01 t) := h
      rw [h1] at h2
      injection h2 with h2
      show t = t'
      cases t <;> cases t' <;> simp [b01] at h2 <;> rfl

theorem run_sz {t : TypeId} {n : Nat} (h : usz P t = some n) (w : World) : (Go.sizeOf t).run P w = .ok n w := by
  unfold usz at h
  cases hi : P.info? t with
  | none => simp [hi] at h
  | some i => simp [hi] at h; subst h; simp [Go.sizeOf, typeInfo, hi]

theorem run_agg {t : TypeId} {b : Bool} (h : aggB P t = some b) (w : World) : (isAgg t).run P w = .ok b w := by
  unfold aggB at h
  cases hu : P.underlying t with
  | none => simp [hu] at h
  | some d =>
    simp [hu] at h
    subst h
    unfold isAgg
    simp only [Sem.run_bind, run_underlying hu, Result.andThen_ok]
    cases d <;> rfl

theorem lits_is : ∀ {xs : List SI} {l : List Int} {env : List Int}, lits xs = some l → xs.map (·.val env) = l
  | [], l, _, h => by simp [lits] at h; subst h; rfl
  | .lit n :: r, l, env, h => by
    simp only [lits] at h
    cases hr : lits r with
    | none => simp [hr] at h
    | some m => simp [hr] at h; subst h; rw [List.map_cons, lits_is (env := env) hr]; rfl
  | .var x :: r, l, _, h => by simp [lits] at h

/-- Of what 'mkI' yields. -/
theorem mkI_is (hn : env.length = S.ne) {k : IntKind} {o : IOp} {xs : List SI} {l : List (IOp × List SI)} {v : SV} (h : mkI S k o xs = .val l v) (hf : fits k (o.ev (xs.map (·.val env)))) :
    v.is (runDefs env l) β (.int k (o.ev (xs.map (·.val env)))) := by
  unfold mkI at h
  cases hl : lits xs with
  | some m =>
    simp only [hl] at h
    cases hd : decide (k.wrap (o.ev m) = o.ev m)
    · simp [hd] at h
    · simp [hd] at h
      obtain ⟨rfl, rfl⟩ := h
      rw [lits_is hl] at hf ⊢
      exact ⟨o.ev m, rfl, hf, rfl⟩
  | none =>
    simp only [hl] at h
    injection h with h1 h2
    subst h1; subst h2
    refine ⟨_, ?_, hf, rfl⟩
    simp [SI.is, runDefs, ← hn]

theorem mkB_is (hn : env.length = S.ne) {o : IOp} {xs : List SI} {l : List (IOp × List SI)} {v : SV} {t : Bool} (h : mkB S o xs = .val l v) (hf : o.ev (xs.map (·.val env)) = b01 t) :
    v.is (runDefs env l) β (.bool t) := by
  unfold mkB at h
  cases hl : lits xs with
  | some m =>
    simp only [hl] at h
    injection h with h1 h2
    subst h1; subst h2
    rw [lits_is hl] at hf
    refine ⟨t, ?_, rfl⟩
    show t = decide (o.ev m = 1)
    rw [hf]; cases t <;> simp [b01]
  | none =>
    simp only [hl] at h
    injection h with h1 h2
    subst h1; subst h2
    refine ⟨t, ?_, rfl⟩
    simp [SB.is, runDefs, ← hn, hf]

/-- The run of an operation that looks at its operands alone. -/
abbrev Yl (P : Program) (s : Sem Value) (v : Value) : Prop := ∀ w, s.run P w = .ok v w

theorem yl_bin_int {op : BinOp} {k : IntKind} (t : TypeId) (x y : Operand) (m n : Int) (h : arithB op = true) :
    Yl P (do eqGuard op t x y (.int k m) (.int k n); binOp op t (.int k m) (.int k n)) (.int k (binEv op k m n)) := by
  intro w
  cases op <;> simp [arithB] at h <;> simp [eqGuard, binOp, Op.intArith, Op.intBits, binEv]

theorem yl_cmp_int {op : BinOp} {k : IntKind} (t : TypeId) (x y : Operand) (m n : Int) (h : cmpB op = true) :
    Yl P (do eqGuard op t x y (.int k m) (.int k n); binOp op t (.int k m) (.int k n)) (.bool (cmpEv op m n)) := by
  intro w
  cases op <;> simp [cmpB] at h <;> simp [eqGuard, binOp, Op.intCmp, cmpEv]

theorem yl_div_int {op : BinOp} {k : IntKind} (t : TypeId) (x y : Operand) (m n : Int) (h : op = .quo ∨ op = .rem) (hn : n ≠ 0) :
    Yl P (do eqGuard op t x y (.int k m) (.int k n); binOp op t (.int k m) (.int k n)) (.int k (binEv op k m n)) := by
  intro w
  rcases h with rfl | rfl <;> simp [eqGuard, binOp, Op.intDiv, binEv, hn]

theorem yl_shift {op : BinOp} {k k' : IntKind} (t : TypeId) (x y : Operand) (m n : Int) (h : op = .shl ∨ op = .shr) (hn : 0 ≤ n) :
    Yl P (do eqGuard op t x y (.int k m) (.int k' n); binOp op t (.int k m) (.int k' n)) (.int k (binEv op k m n)) := by
  intro w
  have : ¬ n < 0 := by omega
  rcases h with rfl | rfl <;> simp [eqGuard, binOp, Op.shift, binEv, this]

theorem fits_bin {op : BinOp} {k : IntKind} {m : Int} (n : Int) (hm : fits k m) : fits k (binEv op k m n) := by
  cases op <;> first
    | exact fits_wrap _ _
    | exact fits_tmod hm n
    | exact fits_fdiv hm _ (Int.pow_pos (by omega))
    | (exact (fits_iff k 0).2 ⟨kMin_le k, kMax_ge k⟩)

theorem nneB_spec {k : IntKind} {e : SI} {n : Int} (h : nneB k e = true) (he : e.is env n) (hf : fits k n) : 0 ≤ n := by
  cases e with
  | lit m =>
    have : n = m := he
    subst this
    simpa [nneB] using h
  | var x =>
    rw [fits_iff] at hf
    cases k <;> simp [nneB, unsB] at h <;> simp [kMin] at hf <;> omega

theorem nzB_spec {e : SI} {n : Int} (h : nzB e = true) (he : e.is env n) : n ≠ 0 := by
  cases e with
  | lit m =>
    have : n = m := he
    subst this
    simpa [nzB] using h
  | var x => simp [nzB] at h

theorem intsOf_is : ∀ {l : List SC} {xs : List SI} {vs : List Value}, intsOf l = some xs → All2 (SC.is env β) l vs → vs = (xs.map (·.val env)).map (Value.int .u64)
  | [], xs, [], h, _ => by simp [intsOf] at h; subst h; rfl
  | .ii .u64 e :: r, xs, v :: vs, h, ⟨h1, h2⟩ => by
    simp only [intsOf] at h
    cases hr : intsOf r with
    | none => simp [hr] at h
    | some m =>
      simp [hr] at h
      subst h
      obtain ⟨n, hn, _, rfl⟩ := h1
      simp [intsOf_is hr h2, hn.val]
  | .ii .i8 _ :: _, _, _, h, _ | .ii .i16 _ :: _, _, _, h, _ | .ii .i32 _ :: _, _, _, h, _ | .ii .i64 _ :: _, _, _, h, _ | .ii .u8 _ :: _, _, _, h, _ | .ii .u16 _ :: _, _, _, h, _
  | .ii .u32 _ :: _, _, _, h, _ | .bb _ :: _, _, _, h, _ | .pp _ _ :: _, _, _, h, _ | .ss _ _ _ _ :: _, _, _, h, _ | .kk _ :: _, _, _, h, _ => by simp [intsOf] at h

theorem run_items_u64 {el : TypeId} (hu : P.underlying el = some (.int .u64)) (hs : usz P el = some 1) (d : Nat) (w : World) (xs ys : List Int) :
    ∀ (n k : Nat), k + n = xs.length → k + n = ys.length →
      (Op.eqItems (d + 1) el 1 (xs.map (Value.int .u64)).toArray (ys.map (Value.int .u64)).toArray (List.range' k n)).run P w = .ok (decide (xs.drop k = ys.drop k)) w
  | 0, k, h1, h2 => by
    rw [List.drop_of_length_le (by omega), List.drop_of_length_le (by omega)]
    simp [Op.eqItems]
  | n + 1, k, h1, h2 => by
    have hag : aggB P el = some false := by simp [aggB, hu]
    have hx : ∀ (zs : List Int), k < zs.length → (part el (zs.map (Value.int .u64)).toArray (k * 1)).run P w = .ok (.int .u64 (zs.getD k 0)) w := by
      intro zs hk
      unfold part
      simp [run_agg hag, hk]
    have he : ∀ m n : Int, (Op.equalIn (d + 1) el (.int .u64 m) (.int .u64 n)).run P w = .ok (m == n) w := by
      intro m n
      simp [Op.equalIn, run_underlying hu]
    rw [List.range'_succ, Op.eqItems]
    simp only [Sem.run_bind, hx xs (by omega), hx ys (by omega), he, Result.andThen_ok]
    have ex : xs.drop k = xs.getD k 0 :: xs.drop (k + 1) := by
      rw [List.drop_eq_getElem_cons (by omega)]; simp [show k < xs.length by omega]
    have ey : ys.drop k = ys.getD k 0 :: ys.drop (k + 1) := by
      rw [List.drop_eq_getElem_cons (by omega)]; simp [show k < ys.length by omega]
    have ih := run_items_u64 hu hs d w xs ys n (k + 1) (by omega) (by omega)
    rw [ex, ey]
    generalize xs.getD k 0 = u at *
    generalize ys.getD k 0 = v at *
    by_cases hxy : u = v
    · simp [hxy, ih]
    · simp [hxy]

theorem run_arr_eq {t el : TypeId} {n : Nat} (hu : P.underlying t = some (.array n el)) (hs : usz P el = some 1) (he : P.underlying el = some (.int .u64)) (xs ys : List Int)
    (hx : xs.length = n) (hy : ys.length = n) (w : World) : (Op.equal t (.agg (xs.map (Value.int .u64)).toArray) (.agg (ys.map (Value.int .u64)).toArray)).run P w = .ok (decide (xs = ys)) w := by
  unfold usz at hs
  cases hi : P.info? el with
  | none => simp [hi] at hs
  | some i =>
    have h1 : P.cellsOf el = 1 := by simp [hi] at hs; simp [Program.cellsOf, hi, hs]
    have h2 := run_items_u64 (P := P) he (by simp [usz, hi]; simpa [hi] using hs) 9998 w xs ys n 0 (by omega) (by omega)
    show (Op.equalIn (9999 + 1) t _ _).run P w = _
    rw [run_equalIn_array w 9999 _ _ hu hi, h1, List.range_eq_range', h2]
    simp
end
end Eng
