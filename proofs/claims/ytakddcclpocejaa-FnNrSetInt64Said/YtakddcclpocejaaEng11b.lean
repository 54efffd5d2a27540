/-
  The walk by reckoning: more operations that look at their operands alone.
-/
import Derived.Test.YtakddcclpocejaaEng11
namespace Eng
open Go Go.RowKit

def xvalN (P : Program) (o : Oper) (S : St) : XR :=
  match o.op with
  | .build t parts => match P.underlying t, zeroOf P t with
    | some (.struct fs), some z => bif fs.isEmpty && parts.isEmpty then .val [] (.ww (.aa z)) else .fail
    | _, _ => .fail
  | .unOp .neg _ x => match xev S x with
    | some (.ww (.cc (.ii k e))) => mkI S k (.bin .sub k) [.lit 0, e]
    | _ => .fail
  | .unOp .xor _ x => match xev S x with
    | some (.ww (.cc (.ii k e))) => mkI S k (.bin .xor k) [.lit (if k.signed then -1 else k.max), e]
    | _ => .fail
  | .call c => match c.callee with
    | .builtin .max => match xevs S c.args.toList with
      | some [.ww (.cc (.ii k e)), .ww (.cc (.ii k' e'))] => bif decide (k = k') then mkI S k .mx [e, e'] else .fail
      | _ => .fail
    | .builtin .min => match xevs S c.args.toList with
      | some [.ww (.cc (.ii k e)), .ww (.cc (.ii k' e'))] => bif decide (k = k') then mkI S k .mn [e, e'] else .fail
      | _ => .fail
    | _ => .fail
  | _ => .fail
def yval (P : Program) (ext : Nat → Nat) (o : Oper) (S : St) : XR :=
  match xval P ext o S with
  | .fail => xvalN P o S
  | r => r

section
variable {P : Program} {ext : Nat → Nat} {W0 : World} {Tp : Nat → Nat → Prop} {env : List Int} {β : List (Nat × Nat)} {S : St} {a : Act} {w : World}

theorem mkI_kind (k : IntKind) (o : IOp) (xs : List SI) : (∃ l r, mkI S k o xs = .val l r) ∨ mkI S k o xs = .fail := by
  unfold mkI
  split
  · unfold cond; split
    · exact .inl ⟨_, _, rfl⟩
    · exact .inr rfl
  · exact .inl ⟨_, _, rfl⟩
theorem xvalN_kind (o : Oper) : (∃ l r, xvalN P o S = .val l r) ∨ xvalN P o S = .fail := by
  unfold xvalN
  split
  · split
    · unfold cond; split
      · exact .inl ⟨_, _, rfl⟩
      · exact .inr rfl
    · exact .inr rfl
  · split
    · exact mkI_kind _ _ _
    · exact .inr rfl
  · split
    · exact mkI_kind _ _ _
    · exact .inr rfl
  · split
    · split
      · unfold cond; split
        · exact mkI_kind _ _ _
        · exact .inr rfl
      · exact .inr rfl
    · split
      · unfold cond; split
        · exact mkI_kind _ _ _
        · exact .inr rfl
      · exact .inr rfl
    · exact .inr rfl
  · exact .inr rfl
theorem yval_of {o : Oper} {r : XR} (h : yval P ext o S = r) (hr : ∀ l v, r ≠ .val l v) (hf : r ≠ .fail) : xval P ext o S = r := by
  unfold yval at h
  split at h
  · rcases xvalN_kind (P := P) (S := S) o with ⟨l, v, hx⟩ | hx
    · exact absurd (hx ▸ h.symm) (hr l v)
    · exact absurd (hx ▸ h.symm) hf
  · exact h

theorem fits_neg (k : IntKind) (n : Int) : fits k (IOp.ev (.bin .sub k) [0, n]) := fits_wrap _ _
theorem fits_xor (k : IntKind) (m n : Int) : fits k (IOp.ev (.bin .xor k) [m, n]) := fits_wrap _ _
theorem two_args {l m : SV} {xs : List Value} (h : All2 (SV.is env β) [l, m] xs) : ∃ p q, xs = [p, q] ∧ l.is env β p ∧ m.is env β q := by
  match xs, h with
  | [p, q], ⟨h1, h2, _⟩ => exact ⟨p, q, rfl, h1, h2⟩
theorem run_max (k : IntKind) (m n : Int) (w : World) (tys : Array TypeId) (t : TypeId) : (Builtin.max_ tys t #[.int k m, .int k n]).run P w = .ok (.int k (IOp.mx.ev [m, n])) w := by
  simp [Builtin.max_, Builtin.max2, IOp.ev]
theorem run_min (k : IntKind) (m n : Int) (w : World) (tys : Array TypeId) (t : TypeId) : (Builtin.min_ tys t #[.int k m, .int k n]).run P w = .ok (.int k (IOp.mn.ev [m, n])) w := by
  simp [Builtin.min_, Builtin.min2, IOp.ev]

theorem xvalN_val (hF : FRel env β S a) {o : Oper} {l : List (IOp × List SI)} {r : SV} (h : xvalN P o S = .val l r) : ValOk P ext env β a w o l r := by
  obtain ⟨dst, op, type, pos, after, guard⟩ := o
  unfold xvalN at h
  split at h
  · rename_i t parts ho
    simp only at ho
    subst ho
    split at h
    · rename_i fs z hund hz
      cases hb : (fs.isEmpty && parts.isEmpty)
      · simp [hb] at h
      · simp only [hb, cond_true] at h
        injection h with h1 h2
        subst h1; subst h2
        rw [Bool.and_eq_true] at hb
        have hfs : fs = #[] := by simpa using hb.1
        have hps : parts = #[] := by simpa using hb.2
        obtain ⟨zv, i, hi, hz0, hzc⟩ := zero_is (env := env) (β := β) hz
        refine ⟨.agg zv.cells, ⟨zv.cells.toList, by simp, hzc⟩, .inl ⟨rfl, fun w' => ?_⟩⟩
        subst hfs; subst hps
        simp [execOp, Instr.build, zeroValue, typeInfo, hi, hz0, run_underlying hund, Instr.fill]
    · cases h
  · rename_i ty x ho
    simp only at ho
    subst ho
    split at h
    · rename_i k e he
      obtain ⟨n, hn, hf, ex⟩ := xev_is hF he
      have hv : (IOp.bin .sub k).ev ([SI.lit 0, e].map (·.val env)) = (IOp.bin .sub k).ev [0, n] := by
        show (IOp.bin .sub k).ev [0, e.val env] = _
        rw [hn.val]
      have := mkI_is (β := β) hF.ne h (by rw [hv]; exact fits_neg k n)
      rw [hv] at this
      refine ⟨_, this, .inl ⟨rfl, fun w' => ?_⟩⟩
      simp [execOp, ex, Op.unary, Op.intArith, IOp.ev, binEv]
    · cases h
  · rename_i ty x ho
    simp only at ho
    subst ho
    split at h
    · rename_i k e he
      obtain ⟨n, hn, hf, ex⟩ := xev_is hF he
      have hv : (IOp.bin .xor k).ev ([SI.lit (if k.signed then -1 else k.max), e].map (·.val env)) = (IOp.bin .xor k).ev [if k.signed then -1 else k.max, n] := by
        show (IOp.bin .xor k).ev [_, e.val env] = _
        rw [hn.val]
        rfl
      have := mkI_is (β := β) hF.ne h (by rw [hv]; exact fits_xor k _ n)
      rw [hv] at this
      refine ⟨_, this, .inl ⟨rfl, fun w' => ?_⟩⟩
      simp [execOp, ex, Op.unary, Op.intBits, IOp.ev, binEv]
    · cases h
  · rename_i c ho
    simp only at ho
    subst ho
    have args_of : ∀ {l m : SV}, xevs S c.args.toList = some [l, m] → ∃ p q, c.args.map a.eval = #[p, q] ∧ l.is env β p ∧ m.is env β q := by
      intro l m hargs
      obtain ⟨p, q, hpq, h1, h2⟩ := two_args (xevs_is hF hargs)
      refine ⟨p, q, ?_, h1, h2⟩
      rw [← Array.toList_inj, Array.toList_map, hpq]
    split at h
    · rename_i hc
      split at h
      · rename_i k e k' e' hargs
        obtain ⟨p, q, hpq, ⟨m, hm, hmf, rfl⟩, ⟨n, hn, hnf, rfl⟩⟩ := args_of hargs
        cases hk : decide (k = k')
        · simp [hk] at h
        · simp only [hk, cond_true] at h
          have hk := of_decide_eq_true hk
          subst hk
          have hv : IOp.mx.ev ([e, e'].map (·.val env)) = IOp.mx.ev [m, n] := by simp [hm.val, hn.val]
          have hfit : fits k (IOp.mx.ev [m, n]) := by simp only [IOp.ev, List.getD_cons_zero, List.getD_cons_succ]; split <;> assumption
          have := mkI_is (β := β) hF.ne h (by rw [hv]; exact hfit)
          rw [hv] at this
          refine ⟨_, this, .inl ⟨by simp [tagOf, hc], fun w' => ?_⟩⟩
          simp [execOp, resolve, hc, hpq, invoke, builtin, run_max]
      · cases h
    · rename_i hc
      split at h
      · rename_i k e k' e' hargs
        obtain ⟨p, q, hpq, ⟨m, hm, hmf, rfl⟩, ⟨n, hn, hnf, rfl⟩⟩ := args_of hargs
        cases hk : decide (k = k')
        · simp [hk] at h
        · simp only [hk, cond_true] at h
          have hk := of_decide_eq_true hk
          subst hk
          have hv : IOp.mn.ev ([e, e'].map (·.val env)) = IOp.mn.ev [m, n] := by simp [hm.val, hn.val]
          have hfit : fits k (IOp.mn.ev [m, n]) := by simp only [IOp.ev, List.getD_cons_zero, List.getD_cons_succ]; split <;> assumption
          have := mkI_is (β := β) hF.ne h (by rw [hv]; exact hfit)
          rw [hv] at this
          refine ⟨_, this, .inl ⟨by simp [tagOf, hc], fun w' => ?_⟩⟩
          simp [execOp, resolve, hc, hpq, invoke, builtin, run_min]
      · cases h
    · cases h
  · cases h

theorem yval_val (hE : Ext P ext) (hF : FRel env β S a) (hM : CellsOk env β S.mem w) {o : Oper} {l : List (IOp × List SI)} {r : SV} (h : yval P ext o S = .val l r) : ValOk P ext env β a w o l r := by
  unfold yval at h
  split at h
  · exact xvalN_val hF h
  · exact xval_val hE hF hM h
end
end Eng
