/-
  What an operation yields by reckoning, against the model's own run: all operations that yield a value and change nothing.
-/
import Derived.Test.YtakddcclpocejaaEng8
namespace Eng
open Go Go.RowKit

/-- What is known of the program's functions: 1 is Add64, 2 is Sub64, 0 is a function that is entered. -/
structure Ext (P : Program) (ext : Nat → Nat) : Prop where
  add : ∀ f, ext f = 1 → ∀ (x y c : Int) (w : World), fits .u64 x → fits .u64 y → c.toNat ≤ 1 → (callFunc f #[.int .u64 x, .int .u64 y, .int .u64 c]).run P w =
    .ok (.value (.tuple #[.int .u64 (IOp.addS.ev [x, y, c]), .int .u64 (IOp.addC.ev [x, y, c])])) w
  sub : ∀ f, ext f = 2 → ∀ (x y c : Int) (w : World), c.toNat ≤ 1 → (callFunc f #[.int .u64 x, .int .u64 y, .int .u64 c]).run P w =
    .ok (.value (.tuple #[.int .u64 (IOp.subD.ev [x, y, c]), .int .u64 (IOp.subB.ev [x, y, c])])) w
  enter : ∀ f, ext f = 0 → ∀ (args : Array Value) (w : World), (callFunc f args).run P w = .ok (.enter f args) w

section
variable {P : Program} {ext : Nat → Nat} {W0 : World} {Tp : Nat → Nat → Prop} {env : List Int} {β : List (Nat × Nat)} {S : St} {a : Act} {w : World}

theorem run_call {o : Oper} {c : Call} {f : Nat} (ho : o.op = .call c) (hc : c.callee = .value (.func f)) (w : World) :
    (execOp a.eval o).run P w = (callFunc f (c.args.map a.eval)).run P w := by
  unfold execOp
  rw [ho]
  simp [resolve, hc, Act.eval, Deferred.ofValue, invoke]

theorem bit_toNat (hF : FRel env β S a) {c : SI} {i : Int} (hi : c.is env i) (h : bitB S c = true) : i = 0 ∨ i = 1 := by
  cases c with
  | lit n =>
    have : i = n := hi
    subst this
    simpa [bitB] using h
  | var v =>
    have h2 : env[v]? = some i := hi
    rcases hF.bt v (by simpa [bitB] using h) with h1 | h1 <;> rw [h1] at h2 <;> injection h2 with h2 <;> omega

theorem fits_u64_nat (n : Nat) (h : n < 18446744073709551616) : fits .u64 (n : Int) := by rw [fits_iff]; simp only [kMin, kMax]; omega

theorem fits_add (x y c : Int) : fits .u64 (IOp.addS.ev [x, y, c]) := by
  simp only [IOp.ev]
  exact fits_u64_nat _ (Nat.mod_lt _ (by decide))
theorem fits_sub (x y c : Int) : fits .u64 (IOp.subD.ev [x, y, c]) := by
  simp only [IOp.ev]
  exact fits_u64_nat _ (Nat.mod_lt _ (by decide))
theorem fits_bit {n : Int} (h : n = 0 ∨ n = 1) : fits .u64 n := by rw [fits_iff]; simp only [kMin, kMax]; omega
theorem b01_bit (b : Bool) : b01 b = 0 ∨ b01 b = 1 := by cases b <;> simp [b01]
theorem addC_bit (x y c : Int) : IOp.addC.ev [x, y, c] = 0 ∨ IOp.addC.ev [x, y, c] = 1 := b01_bit _
theorem subB_bit (x y c : Int) : IOp.subB.ev [x, y, c] = 0 ∨ IOp.subB.ev [x, y, c] = 1 := by
  exact b01_bit _

theorem two_defs (o1 o2 : IOp) (x y c : SI) (hx : ∃ n, x.is env n) (hy : ∃ n, y.is env n) (hc : ∃ n, c.is env n) :
    runDefs env [(o1, [x, y, c]), (o2, [x, y, c])] = env ++ [o1.ev [x.val env, y.val env, c.val env], o2.ev [x.val env, y.val env, c.val env]] := by
  obtain ⟨i, hi⟩ := hx
  obtain ⟨j, hj⟩ := hy
  obtain ⟨k, hk⟩ := hc
  simp only [runDefs, List.map_cons, List.map_nil, (hi.more _).val, (hj.more _).val, (hk.more _).val, hi.val, hj.val, hk.val, List.append_assoc, List.cons_append, List.nil_append]

theorem all3 {α β : Type} {R : α → β → Prop} {x y z : α} : ∀ {vs : List β}, All2 R [x, y, z] vs → ∃ a b c, vs = [a, b, c] ∧ R x a ∧ R y b ∧ R z c
  | [a, b, c], ⟨h1, h2, h3, _⟩ => ⟨a, b, c, rfl, h1, h2, h3⟩

theorem call_val (hE : Ext P ext) (hF : FRel env β S a) {f : Nat} {args : List SV} {vs : List Value} {l : List (IOp × List SI)} {r : SV} (ha : All2 (SV.is env β) args vs)
    (h : xCall ext S f args = .val l r) : ∃ u, r.is (runDefs env l) β u ∧ ext f ≠ 0 ∧ ∀ w, (callFunc f vs.toArray).run P w = .ok (.value u) w := by
  have hn := hF.ne
  unfold xCall at h
  split at h
  · rename_i x y c he
    obtain ⟨v1, v2, v3, rfl, a1, a2, a3⟩ := all3 ha
    obtain ⟨i, hi, hif, rfl⟩ : ∃ n, x.is env n ∧ fits .u64 n ∧ v1 = .int .u64 n := a1
    obtain ⟨j, hj, hjf, rfl⟩ : ∃ n, y.is env n ∧ fits .u64 n ∧ v2 = .int .u64 n := a2
    obtain ⟨k, hk, _, rfl⟩ : ∃ n, c.is env n ∧ fits .u64 n ∧ v3 = .int .u64 n := a3
    cases hb : bitB S c
    · simp only [hb, cond_false] at h; cases h
    · simp only [hb, cond_true] at h
      injection h with h1 h2
      subst h1; subst h2
      have hbit := bit_toNat hF hk hb
      refine ⟨_, ?_, by rw [he]; decide, fun w => hE.add f he i j k w hif hjf (by omega)⟩
      rw [two_defs _ _ x y c ⟨i, hi⟩ ⟨j, hj⟩ ⟨k, hk⟩, hi.val, hj.val, hk.val]
      refine ⟨_, rfl, ⟨IOp.addS.ev [i, j, k], ?_, fits_add i j k, rfl⟩, ⟨IOp.addC.ev [i, j, k], ?_, fits_bit (addC_bit i j k), rfl⟩, trivial⟩
      · show (env ++ [_, _])[S.ne]? = some _
        rw [← hn]; simp
      · show (env ++ [_, _])[S.ne + 1]? = some _
        rw [← hn]; simp
  · rename_i x y c he
    obtain ⟨v1, v2, v3, rfl, a1, a2, a3⟩ := all3 ha
    obtain ⟨i, hi, hif, rfl⟩ : ∃ n, x.is env n ∧ fits .u64 n ∧ v1 = .int .u64 n := a1
    obtain ⟨j, hj, hjf, rfl⟩ : ∃ n, y.is env n ∧ fits .u64 n ∧ v2 = .int .u64 n := a2
    obtain ⟨k, hk, _, rfl⟩ : ∃ n, c.is env n ∧ fits .u64 n ∧ v3 = .int .u64 n := a3
    cases hb : bitB S c
    · simp only [hb, cond_false] at h; cases h
    · simp only [hb, cond_true] at h
      injection h with h1 h2
      subst h1; subst h2
      have hbit := bit_toNat hF hk hb
      refine ⟨_, ?_, by rw [he]; decide, fun w => hE.sub f he i j k w (by omega)⟩
      rw [two_defs _ _ x y c ⟨i, hi⟩ ⟨j, hj⟩ ⟨k, hk⟩, hi.val, hj.val, hk.val]
      refine ⟨_, rfl, ⟨IOp.subD.ev [i, j, k], ?_, fits_sub i j k, rfl⟩, ⟨IOp.subB.ev [i, j, k], ?_, fits_bit (subB_bit i j k), rfl⟩, trivial⟩
      · show (env ++ [_, _])[S.ne]? = some _
        rw [← hn]; simp
      · show (env ++ [_, _])[S.ne + 1]? = some _
        rw [← hn]; simp
  · cases h
  · cases h

/-- What the theorem below says of one operation. -/
def ValOk (P : Program) (ext : Nat → Nat) (env : List Int) (β : List (Nat × Nat)) (a : Act) (w : World) (o : Oper) (l : List (IOp × List SI)) (r : SV) : Prop :=
  ∃ u, r.is (runDefs env l) β u ∧ ((tagOf ext o = 0 ∧ ∀ w', (execOp a.eval o).run P w' = .ok (.value u) w') ∨ (tagOf ext o = 1 ∧ (execOp a.eval o).run P w = .ok (.value u) w))

theorem xval_val (hE : Ext P ext) (hF : FRel env β S a) (hM : CellsOk env β S.mem w) {o : Oper} {l : List (IOp × List SI)} {r : SV} (h : xval P ext o S = .val l r) :
    ValOk P ext env β a w o l r := by
  obtain ⟨dst, op, type, pos, after, guard⟩ := o
  cases op with
  | move x =>
    simp only [xval] at h
    split at h
    · rename_i v hv
      injection h with h1 h2
      subst h1; subst h2
      exact ⟨_, xev_is hF hv, .inl ⟨rfl, fun w' => rfl⟩⟩
    · cases h
  | assign x =>
    simp only [xval] at h
    split at h
    · rename_i v hv
      injection h with h1 h2
      subst h1; subst h2
      exact ⟨_, xev_is hF hv, .inl ⟨rfl, fun w' => rfl⟩⟩
    · cases h
  | nilCheck x =>
    simp only [xval] at h
    split at h
    · rename_i rg q hv
      injection h with h1 h2
      subst h1; subst h2
      obtain ⟨y, hy, e⟩ := xev_is hF hv
      refine ⟨_, ⟨y, hy, rfl⟩, .inl ⟨rfl, fun w' => ?_⟩⟩
      simp only [execOp, e]
      rfl
    · cases h
  | pick c x y =>
    simp only [xval] at h
    split at h
    · rename_i e u v hc hx hy
      split at h
      · rename_i t hk
        injection h with h1 h2
        subst h1; subst h2
        obtain ⟨t', ht', e'⟩ := xev_is hF hc
        have ht := know_is hF ht'
        rw [hk] at ht
        have ht : t' = t := ht
        subst ht
        refine ⟨if t' = true then a.eval x else a.eval y, ?_, .inl ⟨rfl, fun w' => ?_⟩⟩
        · cases t'
          · exact xev_is hF hy
          · exact xev_is hF hx
        · simp only [execOp, e', asBool]
          cases t' <;> rfl
      · cases h
    · cases h
  | extract t i =>
    simp only [xval] at h
    split at h
    · rename_i ls hv
      split at h
      · rename_i x hx
        injection h with h1 h2
        subst h1; subst h2
        obtain ⟨vs, e, hall⟩ := xev_is hF hv
        obtain ⟨y, hy, hys⟩ := hall.get hx
        refine ⟨y, hys, .inl ⟨rfl, fun w' => ?_⟩⟩
        simp [execOp, e, Instr.extract, hy]
      · cases h
    · cases h
  | indexAddr t x ix =>
    simp only [xval] at h
    split at h
    · rename_i u v hu hv
      obtain ⟨rfl, z, hz, hy⟩ := index_val (P := P) (xev_is hF hu) (xev_is hF hv) h
      exact ⟨z, hz, .inl ⟨rfl, fun w' => by simp [execOp, hy w']⟩⟩
    · cases h
  | load t x =>
    simp only [xval] at h
    split at h
    · rename_i u hu
      obtain ⟨rfl, z, hz, hy⟩ := load_val (P := P) hM (xev_is hF hu) h
      exact ⟨z, hz, .inr ⟨rfl, by simp [execOp, hy]⟩⟩
    · cases h
  | store t x y =>
    simp only [xval] at h
    split at h
    · simp only [xStore] at h
      split at h
      · split at h
        · unfold cond at h
          split at h <;> cases h
        · cases h
      · cases h
    · cases h
  | alloc t =>
    simp only [xval] at h
    split at h <;> cases h
  | box t x =>
    simp only [xval] at h
    split at h <;> cases h
  | build t parts =>
    simp only [xval] at h
    split at h
    · rename_i n el z ps hund hz hps
      cases hb : decide (usz P el = some 1)
      · simp [hb] at h
      · simp only [hb, cond_true] at h
        have hb := of_decide_eq_true hb
        split at h
        · rename_i cs hcs
          injection h with h1 h2
          subst h1; subst h2
          obtain ⟨zv, i, hi, hz0, hzc⟩ := zero_is (env := env) (β := β) hz
          have hparts := parts_is hF hps
          obtain ⟨zs, hfill, hzs⟩ := fill_is hparts hzc hcs
          refine ⟨.agg zs.toArray, ⟨zs, rfl, hzs⟩, .inl ⟨rfl, fun w' => ?_⟩⟩
          have hp : (parts.map fun x => (x.1, a.eval x.2)).toList = parts.toList.map fun p => (p.1, a.eval p.2) := by simp
          have hq : (zv.cells.toList).toArray = zv.cells := by simp
          rw [hq] at hfill
          simp only [execOp, Instr.build, zeroValue, typeInfo, Sem.run_bind, run_program, Result.andThen_ok, hi, hz0, Sem.run_pure, run_underlying hund, run_sz hb]
          rw [hp, hfill]
          simp
        · cases h
    · cases h
  | buildSlice t n parts =>
    simp only [xval] at h
    split at h
    · split at h
      · unfold cond at h
        split at h
        · split at h <;> cases h
        · cases h
      · cases h
    · cases h
  | makeSlice t x y =>
    simp only [xval] at h
    split at h
    · split at h
      · unfold cond at h
        split at h <;> cases h
      · cases h
    · cases h
  | slice t x lo hi mx =>
    simp only [xval] at h
    split at h
    · rename_i u hu
      split at h
      · obtain ⟨rfl, z, hz, hy⟩ := slice_val (P := P) (lv := none) (hv := none) (xev_is hF hu) trivial trivial h
        exact ⟨z, hz, .inl ⟨rfl, fun w' => by simp [execOp, hy w']⟩⟩
      · rename_i lo hi
        split at h
        · rename_i p q hp hq
          obtain ⟨rfl, z, hz, hy⟩ := slice_val (P := P) (lv := some (a.eval lo)) (hv := some (a.eval hi)) (xev_is hF hu) (xev_is hF hp) (xev_is hF hq) h
          exact ⟨z, hz, .inl ⟨rfl, fun w' => by simp [execOp, hy w']⟩⟩
        · cases h
      · cases h
    · cases h
  | binOp op t x y yt =>
    simp only [xval] at h
    split at h
    · rename_i u v hu hv
      obtain ⟨z, hz, hy⟩ := bin_val (P := P) (x := x) (y := y) hF (xev_is hF hu) (xev_is hF hv) h
      refine ⟨z, hz, .inl ⟨rfl, fun w' => ?_⟩⟩
      have := hy w'
      simp only [execOp]
      rw [Sem.run_bind, this]
      rfl
    · cases h
  | unOp op t x =>
    cases op with
    | not =>
      simp only [xval] at h
      split at h
      · rename_i e he
        split at h
        · rename_i t' hk
          injection h with h1 h2
          subst h1; subst h2
          obtain ⟨p, hp, e'⟩ := xev_is hF he
          have ht := know_is hF hp
          rw [hk] at ht
          have ht : p = t' := ht
          subst ht
          exact ⟨.bool (!p), ⟨!p, rfl, rfl⟩, .inl ⟨rfl, fun w' => by simp [execOp, e', Op.unary]⟩⟩
        · cases h
      · cases h
    | _ => simp [xval] at h
  | convert s d x =>
    simp only [xval] at h
    split at h
    · rename_i ds k k' e hs hd he
      obtain ⟨n, hn, hf, e'⟩ := xev_is hF he
      have hv : (IOp.conv k).ev ([e].map (·.val env)) = k.wrap n := by simp [IOp.ev, hn.val]
      have := mkI_is (β := β) hF.ne h (by rw [hv]; exact fits_wrap k n)
      rw [hv] at this
      refine ⟨_, this, .inl ⟨rfl, fun w' => ?_⟩⟩
      simp only [execOp, e', convert, Sem.run_bind, run_underlying hs, run_underlying hd, Result.andThen_ok, Conv.intToInt, Sem.run_pure]
    · cases h
  | call c =>
    simp only [xval] at h
    split at h
    · rename_i hc
      split at h
      · rename_i x t hx ht
        split at h
        · rename_i el rg q n cap hund hv
          cases hb : Nat.ble n 9223372036854775807
          · simp [hb] at h
          · simp only [hb, cond_true] at h
            have hn := Nat.le_of_ble_eq_true hb
            injection h with h1 h2
            subst h1; subst h2
            obtain ⟨y, hy, e⟩ := xev_is hF hv
            have hargs : c.args = #[x] := by rw [← Array.toList_inj]; simpa using hx
            refine ⟨.int .i64 n, ⟨n, rfl, by rw [fits_iff]; simp only [kMin, kMax]; omega, rfl⟩, .inl ⟨by simp [tagOf, hc], fun w' => ?_⟩⟩
            simp [execOp, resolve, hc, hargs, e, invoke, builtin, Builtin.len_, ht, run_underlying hund, goInt]
        · rename_i n el v hund hv
          cases hb : Nat.ble n 9223372036854775807
          · simp [hb] at h
          · simp only [hb, cond_true] at h
            have hn := Nat.le_of_ble_eq_true hb
            injection h with h1 h2
            subst h1; subst h2
            have hargs : c.args = #[x] := by rw [← Array.toList_inj]; simpa using hx
            refine ⟨.int .i64 n, ⟨n, rfl, by rw [fits_iff]; simp only [kMin, kMax]; omega, rfl⟩, .inl ⟨by simp [tagOf, hc], fun w' => ?_⟩⟩
            simp [execOp, resolve, hc, hargs, invoke, builtin, Builtin.len_, ht, run_underlying hund, goInt]
        · cases h
      · cases h
    · rename_i f hc
      split at h
      · rename_i args hargs
        have hall := xevs_is hF hargs
        obtain ⟨u, hu, hne, hr⟩ := call_val (P := P) hE hF hall h
        refine ⟨u, hu, .inl ⟨by simp [tagOf, hc, hne], fun w' => ?_⟩⟩
        rw [run_call (P := P) (a := a) (c := c) (f := f) rfl hc w']
        have : c.args.map a.eval = (c.args.toList.map a.eval).toArray := by rw [← Array.toList_map, Array.toArray_toList]
        rw [this]
        exact hr w'
      · cases h
    · cases h
  | _ => simp [xval] at h
end
end Eng
