/-
  The walk by reckoning: new memory.
-/
import Derived.Test.YtakddcclpocejaaEng10
namespace Eng
open Go Go.RowKit

section
variable {P : Program} {ext : Nat → Nat} {W0 : World} {Tp : Nat → Nat → Prop} {env : List Int} {β : List (Nat × Nat)} {S : St} {a : Act} {w : World}

theorem all2_one {α β : Type} {R : α → β → Prop} {x : α} : ∀ {vs : List β}, All2 R [x] vs → ∃ v, vs = [v] ∧ R x v
  | [v], ⟨h, _⟩ => ⟨v, rfl, h⟩

theorem all2_rep {α β : Type} {R : α → β → Prop} {x : α} {y : β} (h : R x y) : ∀ n, All2 R (List.replicate n x) (List.replicate n y)
  | 0 => trivial
  | n + 1 => ⟨h, all2_rep h n⟩

theorem made_one (z : Value) (n : Nat) : (Array.range n).map (fun x => (#[z] : Array Value)[x % (#[z] : Array Value).size]!) = Array.replicate n z := by
  apply Array.ext
  · simp
  · intro i h1 h2
    simp [Nat.mod_one]

/-- What the theorem below says of one operation. -/
def NewOk (P : Program) (W0 : World) (Tp : Nat → Nat → Prop) (env : List Int) (β : List (Nat × Nat)) (S : St) (a : Act) (w : World) (o : Oper) (cs : List SC) (v : SC) : Prop :=
  ∃ w' u, (execOp a.eval o).run P w = .ok (.value u) w' ∧ MRel W0 Tp env (β ++ [(w.heap.size, 0)]) (S.mem ++ [(cs, true)]) w' ∧ v.is env (β ++ [(w.heap.size, 0)]) u

theorem newPtr (hM : MRel W0 Tp env β S.mem w) : (SC.pp S.mem.length 0).is env (β ++ [(w.heap.size, 0)]) (.pointer (some ⟨w.heap.size, 0, none⟩)) :=
  ⟨(w.heap.size, 0), by rw [← hM.nb]; simp, rfl⟩
theorem newSl (hM : MRel W0 Tp env β S.mem w) (n : Nat) : (SC.ss S.mem.length 0 n n).is env (β ++ [(w.heap.size, 0)]) (.slice (some ⟨w.heap.size, 0, none⟩) n n) :=
  ⟨(w.heap.size, 0), by rw [← hM.nb]; simp, rfl⟩

theorem xval_new (hF : FRel env β S a) (hM : MRel W0 Tp env β S.mem w) {o : Oper} {t0 : TypeId} {cs : List SC} {v : SC} (h : xval P ext o S = .new t0 cs v) :
    NewOk P W0 Tp env β S a w o cs v ∧ tagOf ext o = 2 := by
  obtain ⟨dst, op, type, pos, after, guard⟩ := o
  have noI : ∀ {k : IntKind} {o : IOp} {xs : List SI}, mkI S k o xs ≠ .new t0 cs v := by
    intro k o xs; unfold mkI; split
    · unfold cond; split <;> simp
    · simp
  have noB : ∀ {o : IOp} {xs : List SI}, mkB S o xs ≠ .new t0 cs v := by
    intro o xs; unfold mkB; split <;> simp
  cases op with
  | alloc t =>
    simp only [xval] at h
    split at h
    · rename_i zs hz
      injection h with h1 h2 h3
      subst h1; subst h2; subst h3
      obtain ⟨z, i, hi, hz0, hall⟩ := zero_is (env := env) (β := β) hz
      refine ⟨⟨w.alloc (.cells z.cells.toList.toArray t), _, ?_, hM.alloc t hall, newPtr hM⟩, rfl⟩
      simp [execOp, Instr.alloc, zeroValue, typeInfo, hi, hz0, newVar, newRow]
    · cases h
  | box t x =>
    simp only [xval] at h
    split at h
    · rename_i u hu
      injection h with h1 h2 h3
      subst h1; subst h2; subst h3
      have hcells := (show SW.is env β u (a.eval x) from xev_is hF hu).cells
      refine ⟨⟨w.alloc (.cells (a.eval x).cells.toList.toArray t), _, ?_, hM.alloc t hcells, newPtr hM⟩, rfl⟩
      simp [execOp, Instr.box, newVar, newRow]
    · cases h
  | buildSlice t n parts =>
    simp only [xval] at h
    split at h
    · rename_i el hund
      split at h
      · rename_i z ps hz hps
        cases hb : (decide (usz P el = some 1) && Nat.blt 0 n && Nat.ble n 4096)
        · simp [hb] at h
        · simp only [hb, cond_true] at h
          simp only [Bool.and_eq_true, decide_eq_true_eq] at hb
          obtain ⟨⟨b1, b2⟩, b3⟩ := hb
          have b2 : 0 < n := by simpa using b2
          have b3 := Nat.le_of_ble_eq_true b3
          split at h
          · rename_i out hout
            injection h with h1 h2 h3
            subst h1; subst h2; subst h3
            obtain ⟨zv, i, hi, hz0, hall⟩ := zero_is (env := env) (β := β) hz
            obtain ⟨z1, hz1, hzr⟩ := all2_one hall
            have hzc : zv.cells = #[z1] := by rw [← Array.toList_inj]; simpa using hz1
            obtain ⟨zs, hfill, hzs⟩ := fill_is (parts_is hF hps) (all2_rep hzr n) hout
            refine ⟨⟨w.alloc (.cells zs.toArray el), _, ?_, hM.alloc el hzs, newSl hM n⟩, rfl⟩
            have hp : (parts.map fun x => (x.1, a.eval x.2)).toList = parts.toList.map fun p => (p.1, a.eval p.2) := by simp
            have hbig : ¬ (n * 1 > 2 ^ 24) := by omega
            have hz : ¬ (n * 1 = 0) := by omega
            have hrep : (List.replicate n z1).toArray = Array.replicate n z1 := by simp
            rw [hrep] at hfill
            simp only [execOp, Instr.buildSlice, Sem.run_bind, run_underlying hund, Result.andThen_ok, run_sz b1, if_neg hbig, if_neg hz, zeroValue, typeInfo, run_program, hi, hz0, Sem.run_pure, hzc]
            rw [Nat.mul_one, made_one, hp, hfill]
            simp [newRow]
          · cases h
      · cases h
    · cases h
  | makeSlice t x y =>
    simp only [xval] at h
    split at h
    · rename_i el k1 n k2 m hund hx hy
      split at h
      · rename_i z hz
        cases hb : (decide (usz P el = some 1) && decide (0 ≤ n) && decide (n = m) && decide (n ≤ 4096) && smallB P el)
        · simp only [hb, cond_false] at h; cases h
        · simp only [hb, cond_true] at h
          simp only [Bool.and_eq_true, decide_eq_true_eq] at hb
          obtain ⟨⟨⟨⟨b1, b2⟩, b3⟩, b4⟩, b5⟩ := hb
          subst b3
          injection h with h1 h2 h3
          subst h1; subst h2; subst h3
          obtain ⟨zv, i, hi, hz0, hall⟩ := zero_is (env := env) (β := β) hz
          obtain ⟨z1, hz1, hzr⟩ := all2_one hall
          have hzc : zv.cells = #[z1] := by rw [← Array.toList_inj]; simpa using hz1
          obtain ⟨n', e1, _, hxv⟩ := xev_is hF hx
          obtain ⟨m', e2, _, hyv⟩ := xev_is hF hy
          have e1 : n' = n := e1
          have e2 : m' = n := e2
          subst e1; subst e2
          have hbytes : i.bytes ≤ 16 := by
            simp only [smallB, hi] at b5
            exact Nat.le_of_ble_eq_true b5
          have hsz : i.size = 1 := by simpa [usz, hi] using b1
          have hbn : (i.bytes : Int) * m' ≤ 281474976710656 := by
            have h1 : (i.bytes : Int) * m' ≤ 16 * m' := Int.mul_le_mul_of_nonneg_right (by omega) b2
            omega
          have hrun := run_make (P := P) w t el i zv hund hi hz0 k1 k2 m' m' b2 (Int.le_refl _) hbn (by omega)
          refine ⟨⟨w.alloc (.cells (List.replicate m'.toNat z1).toArray el), _, ?_, hM.alloc el (all2_rep hzr _), newSl hM _⟩, rfl⟩
          simp only [execOp, hxv, hyv]
          rw [Sem.run_bind, hrun, hsz, hzc, madeCells, Nat.mul_one, made_one]
          simp
      · cases h
    · cases h
  | move x => simp only [xval] at h; split at h <;> cases h
  | assign x => simp only [xval] at h; split at h <;> cases h
  | nilCheck x => simp only [xval] at h; split at h <;> cases h
  | pick c x y => simp only [xval] at h; split at h <;> first | (split at h <;> cases h) | cases h
  | extract t i => simp only [xval] at h; split at h <;> first | (split at h <;> cases h) | cases h
  | indexAddr t x ix =>
    simp only [xval] at h
    split at h
    · unfold xIndex at h
      split at h <;> first | (split at h <;> first | (split at h <;> first | (unfold cond at h; split at h <;> cases h) | cases h) | cases h) | cases h
    · cases h
  | load t x =>
    simp only [xval] at h
    split at h
    · unfold xLoad at h
      split at h <;> first | (split at h <;> first | (split at h <;> cases h) | (unfold cond at h; split at h <;> cases h) | cases h) | cases h
    · cases h
  | store t x y =>
    simp only [xval] at h
    split at h
    · simp only [xStore] at h
      split at h
      · split at h
        · unfold cond at h; split at h <;> cases h
        · cases h
      · cases h
    · cases h
  | build t parts =>
    simp only [xval] at h
    split at h
    · unfold cond at h; split at h <;> first | (split at h <;> cases h) | cases h
    · cases h
  | slice t x lo hi mx =>
    have noS : ∀ {t' : TypeId} {u : SV} {lo hi : Option SV}, xSlice P t' u lo hi ≠ .new t0 cs v := by
      intro t' u lo hi; unfold xSlice; split
      · split
        · simp
        · unfold cond; split <;> simp
        · simp
      · simp
    simp only [xval] at h
    split at h
    · split at h
      · exact absurd h noS
      · split at h
        · exact absurd h noS
        · cases h
      · cases h
    · cases h
  | binOp op t x y yt =>
    simp only [xval] at h
    split at h
    · exfalso
      unfold xBin at h
      split at h
      · unfold xBinI at h
        split at h <;> (unfold cond at h; split at h <;> first | exact noI h | cases h | (split at h <;> first | exact noI h | (split at h <;> first | exact noB h | cases h)))
      · unfold xBinB at h
        split at h <;> first | exact noB h | cases h
      · unfold xBinA at h
        split at h
        · unfold cond at h; split at h <;> first | (split at h <;> cases h) | cases h
        · cases h
      · cases h
    · cases h
  | unOp op t x =>
    cases op with
    | not => simp only [xval] at h; split at h <;> first | (split at h <;> cases h) | cases h
    | _ => simp [xval] at h
  | convert s d x =>
    simp only [xval] at h
    split at h <;> first | exact absurd h noI | cases h
  | call c =>
    simp only [xval] at h
    split at h
    · split at h
      · split at h <;> first | (unfold cond at h; split at h <;> cases h) | cases h
      · cases h
    · split at h
      · unfold xCall at h
        split at h <;> first | (unfold cond at h; split at h <;> cases h) | cases h
      · cases h
    · cases h
  | _ => simp [xval] at h

/-- Of a call. -/
theorem xval_call (hF : FRel env β S a) {o : Oper} {f : Nat} {args : List SV} (h : xval P ext o S = .call f args) :
    ∃ c vs, o.op = .call c ∧ c.callee = .value (.func f) ∧ All2 (SV.is env β) args vs ∧ c.args.map a.eval = vs.toArray ∧ ext f = 0 ∧ tagOf ext o = 2 := by
  obtain ⟨dst, op, type, pos, after, guard⟩ := o
  have noI : ∀ {k : IntKind} {o : IOp} {xs : List SI}, mkI S k o xs ≠ .call f args := by
    intro k o xs; unfold mkI; split
    · unfold cond; split <;> simp
    · simp
  have noB : ∀ {o : IOp} {xs : List SI}, mkB S o xs ≠ .call f args := by
    intro o xs; unfold mkB; split <;> simp
  cases op with
  | call c =>
    simp only [xval] at h
    split at h
    · split at h
      · split at h <;> first | (unfold cond at h; split at h <;> cases h) | cases h
      · cases h
    · rename_i g hc
      split at h
      · rename_i l hl
        unfold xCall at h
        split at h
        · unfold cond at h; split at h <;> cases h
        · unfold cond at h; split at h <;> cases h
        · rename_i he
          injection h with h1 h2
          subst h1; subst h2
          refine ⟨c, _, rfl, hc, xevs_is hF hl, by rw [← Array.toList_map, Array.toArray_toList], he, by simp [tagOf, hc, he]⟩
        · cases h
      · cases h
    · cases h
  | move x => simp only [xval] at h; split at h <;> cases h
  | assign x => simp only [xval] at h; split at h <;> cases h
  | nilCheck x => simp only [xval] at h; split at h <;> cases h
  | pick c x y => simp only [xval] at h; split at h <;> first | (split at h <;> cases h) | cases h
  | extract t i => simp only [xval] at h; split at h <;> first | (split at h <;> cases h) | cases h
  | indexAddr t x ix =>
    simp only [xval] at h
    split at h
    · unfold xIndex at h
      split at h <;> first | (split at h <;> first | (split at h <;> first | (unfold cond at h; split at h <;> cases h) | cases h) | cases h) | cases h
    · cases h
  | load t x =>
    simp only [xval] at h
    split at h
    · unfold xLoad at h
      split at h <;> first | (split at h <;> first | (split at h <;> cases h) | (unfold cond at h; split at h <;> cases h) | cases h) | cases h
    · cases h
  | alloc t => simp only [xval] at h; split at h <;> cases h
  | box t x => simp only [xval] at h; split at h <;> cases h
  | store t x y =>
    simp only [xval] at h
    split at h
    · simp only [xStore] at h
      split at h
      · split at h
        · unfold cond at h; split at h <;> cases h
        · cases h
      · cases h
    · cases h
  | build t parts =>
    simp only [xval] at h
    split at h
    · unfold cond at h; split at h <;> first | (split at h <;> cases h) | cases h
    · cases h
  | buildSlice t n parts =>
    simp only [xval] at h
    split at h
    · split at h
      · unfold cond at h; split at h <;> first | (split at h <;> cases h) | cases h
      · cases h
    · cases h
  | makeSlice t x y =>
    simp only [xval] at h
    split at h
    · split at h
      · unfold cond at h; split at h <;> cases h
      · cases h
    · cases h
  | slice t x lo hi mx =>
    have noS : ∀ {t' : TypeId} {u : SV} {lo hi : Option SV}, xSlice P t' u lo hi ≠ .call f args := by
      intro t' u lo hi; unfold xSlice; split
      · split
        · simp
        · unfold cond; split <;> simp
        · simp
      · simp
    simp only [xval] at h
    split at h
    · split at h
      · exact absurd h noS
      · split at h
        · exact absurd h noS
        · cases h
      · cases h
    · cases h
  | binOp op t x y yt =>
    simp only [xval] at h
    split at h
    · exfalso
      unfold xBin at h
      split at h
      · unfold xBinI at h
        split at h <;> (unfold cond at h; split at h <;> first | exact noI h | cases h | (split at h <;> first | exact noI h | (split at h <;> first | exact noB h | cases h)))
      · unfold xBinB at h
        split at h <;> first | exact noB h | cases h
      · unfold xBinA at h
        split at h
        · unfold cond at h; split at h <;> first | (split at h <;> cases h) | cases h
        · cases h
      · cases h
    · cases h
  | unOp op t x =>
    cases op with
    | not => simp only [xval] at h; split at h <;> first | (split at h <;> cases h) | cases h
    | _ => simp [xval] at h
  | convert s d x =>
    simp only [xval] at h
    split at h <;> first | exact absurd h noI | cases h
  | _ => simp [xval] at h

/-- Of a truth value that is asked for. -/
theorem xval_ask (hF : FRel env β S a) {o : Oper} {x0 : Nat} (h : xval P ext o S = .ask x0) : env[x0]? = some 0 ∨ env[x0]? = some 1 := by
  obtain ⟨dst, op, type, pos, after, guard⟩ := o
  have noI : ∀ {k : IntKind} {o : IOp} {xs : List SI}, mkI S k o xs ≠ .ask x0 := by
    intro k o xs; unfold mkI; split
    · unfold cond; split <;> simp
    · simp
  have noB : ∀ {o : IOp} {xs : List SI}, mkB S o xs ≠ .ask x0 := by
    intro o xs; unfold mkB; split <;> simp
  have bit : ∀ {e : SB} {t : Bool}, e.is env t → know S e = .var x0 → env[x0]? = some 0 ∨ env[x0]? = some 1 := by
    intro e t he hk
    have h1 := know_is hF he
    rw [hk] at h1
    have h1 : env[x0]? = some (b01 t) := h1
    rw [h1]
    cases t <;> simp [b01]
  cases op with
  | call c =>
    simp only [xval] at h
    split at h
    · split at h
      · split at h <;> first | (unfold cond at h; split at h <;> cases h) | cases h
      · cases h
    · split at h
      · unfold xCall at h
        split at h <;> first | (unfold cond at h; split at h <;> cases h) | cases h
      · cases h
    · cases h
  | move x => simp only [xval] at h; split at h <;> cases h
  | assign x => simp only [xval] at h; split at h <;> cases h
  | nilCheck x => simp only [xval] at h; split at h <;> cases h
  | pick c x y =>
    simp only [xval] at h
    split at h
    · rename_i e u v hc hx hy
      split at h
      · cases h
      · rename_i x hk
        injection h with h1
        subst h1
        obtain ⟨t', ht', _⟩ := xev_is hF hc
        exact bit ht' hk
    · cases h
  | extract t i => simp only [xval] at h; split at h <;> first | (split at h <;> cases h) | cases h
  | indexAddr t x ix =>
    simp only [xval] at h
    split at h
    · unfold xIndex at h
      split at h <;> first | (split at h <;> first | (split at h <;> first | (unfold cond at h; split at h <;> cases h) | cases h) | cases h) | cases h
    · cases h
  | load t x =>
    simp only [xval] at h
    split at h
    · unfold xLoad at h
      split at h <;> first | (split at h <;> first | (split at h <;> cases h) | (unfold cond at h; split at h <;> cases h) | cases h) | cases h
    · cases h
  | alloc t => simp only [xval] at h; split at h <;> cases h
  | box t x => simp only [xval] at h; split at h <;> cases h
  | store t x y =>
    simp only [xval] at h
    split at h
    · simp only [xStore] at h
      split at h
      · split at h
        · unfold cond at h; split at h <;> cases h
        · cases h
      · cases h
    · cases h
  | build t parts =>
    simp only [xval] at h
    split at h
    · unfold cond at h; split at h <;> first | (split at h <;> cases h) | cases h
    · cases h
  | buildSlice t n parts =>
    simp only [xval] at h
    split at h
    · split at h
      · unfold cond at h; split at h <;> first | (split at h <;> cases h) | cases h
      · cases h
    · cases h
  | makeSlice t x y =>
    simp only [xval] at h
    split at h
    · split at h
      · unfold cond at h; split at h <;> cases h
      · cases h
    · cases h
  | slice t x lo hi mx =>
    have noS : ∀ {t' : TypeId} {u : SV} {lo hi : Option SV}, xSlice P t' u lo hi ≠ .ask x0 := by
      intro t' u lo hi; unfold xSlice; split
      · split
        · simp
        · unfold cond; split <;> simp
        · simp
      · simp
    simp only [xval] at h
    split at h
    · split at h
      · exact absurd h noS
      · split at h
        · exact absurd h noS
        · cases h
      · cases h
    · cases h
  | binOp op t x y yt =>
    simp only [xval] at h
    split at h
    · exfalso
      unfold xBin at h
      split at h
      · unfold xBinI at h
        split at h <;> (unfold cond at h; split at h <;> first | exact noI h | cases h | (split at h <;> first | exact noI h | (split at h <;> first | exact noB h | cases h)))
      · unfold xBinB at h
        split at h <;> first | exact noB h | cases h
      · unfold xBinA at h
        split at h
        · unfold cond at h; split at h <;> first | (split at h <;> cases h) | cases h
        · cases h
      · cases h
    · cases h
  | unOp op t x =>
    cases op with
    | not =>
      simp only [xval] at h
      split at h
      · rename_i e hc
        split at h
        · cases h
        · rename_i x hk
          injection h with h1
          subst h1
          obtain ⟨t', ht', _⟩ := xev_is hF hc
          exact bit ht' hk
      · cases h
    | _ => simp [xval] at h
  | convert s d x =>
    simp only [xval] at h
    split at h <;> first | exact absurd h noI | cases h
  | _ => simp [xval] at h
end
end Eng
