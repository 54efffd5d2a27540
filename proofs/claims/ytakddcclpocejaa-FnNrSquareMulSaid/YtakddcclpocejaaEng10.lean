/-
  The walk by reckoning: stores and new memory, trees of what is to be shown, operations in a row, code; and why a tree that holds shows what the code does.
-/
import Derived.Test.YtakddcclpocejaaEng9
namespace Eng
open Go Go.RowKit

theorem bit_ev {o : IOp} (h : o.bit = true) (xs : List Int) : o.ev xs = 0 ∨ o.ev xs = 1 := by
  cases o <;> simp [IOp.bit] at h <;> exact b01_bit _

def bitsOf (ne : Nat) : List (IOp × List SI) → List Nat → List Nat
  | [], bt => bt
  | (o, _) :: r, bt => bitsOf (ne + 1) r (bif o.bit then ne :: bt else bt)

def St.grow (S : St) (l : List (IOp × List SI)) : St := { S with ne := S.ne + l.length, bt := bitsOf S.ne l S.bt }

def wrAt (cs : List SC) (n : Nat) : List SC → List SC
  | [] => cs
  | s :: r => wrAt (cs.set n s) (n + 1) r

theorem wrAt_length : ∀ (l : List SC) (cs : List SC) (n : Nat), (wrAt cs n l).length = cs.length
  | [], _, _ => rfl
  | s :: r, cs, n => by rw [wrAt, wrAt_length r]; simp

section
variable {P : Program} {ext : Nat → Nat} {W0 : World} {Tp : Nat → Nat → Prop} {env : List Int} {β : List (Nat × Nat)} {S : St} {a : Act} {w : World}

theorem FRel.grow : ∀ (l : List (IOp × List SI)) {env : List Int} {S : St}, FRel env β S a → FRel (runDefs env l) β (S.grow l) a
  | [], env, S, h => h
  | (o, xs) :: r, env, S, h => by
    have h1 := h.more [o.ev (xs.map (·.val env))] []
    rw [List.append_nil] at h1
    have h2 : FRel (env ++ [o.ev (xs.map (·.val env))]) β { S with ne := S.ne + 1, bt := bif o.bit then S.ne :: S.bt else S.bt } a := by
      refine ⟨h1.ne, h1.nd, h1.nt, h1.tm, h1.fx, fun x hx => ?_⟩
      cases hb : o.bit
      · simp only [hb, cond_false] at hx; exact h1.bt x hx
      · simp only [hb, cond_true] at hx
        rcases List.mem_cons.1 hx with rfl | hx
        · have : (env ++ [o.ev (xs.map (·.val env))])[S.ne]? = some (o.ev (xs.map (·.val env))) := by rw [← h.ne]; simp
          rcases bit_ev hb (xs.map (·.val env)) with h3 | h3 <;> rw [this, h3] <;> simp
        · exact h1.bt x hx
    have h3 := FRel.grow r h2
    have e : ({ S with ne := S.ne + 1, bt := bif o.bit then S.ne :: S.bt else S.bt } : St).grow r = S.grow ((o, xs) :: r) := by
      simp only [St.grow, bitsOf, List.length_cons]
      congr 1
      omega
    rw [e] at h3
    exact h3

theorem MRel.grow {mem : List (List SC × Bool)} (h : MRel W0 Tp env β mem w) (l : List (IOp × List SI)) : MRel W0 Tp (runDefs env l) β mem w := by
  obtain ⟨e', he, _⟩ := runDefs_more l env
  rw [he]; exact h.more e'

theorem store_ok {r : Nat} {x : Nat × Nat} (q : Nat) (hx : β[r]? = some x) : ∀ (scs : List SC) (vs : List Value) (i : Nat) (w : World) (mem : List (List SC × Bool)) (cs : List SC),
    MRel W0 Tp env β mem w → mem[r]? = some (cs, true) → All2 (SC.is env β) scs vs → q + i + scs.length ≤ cs.length →
    ∃ w', (storeCells ⟨x.1, x.2 + q, none⟩ vs i).run P w = .ok () w' ∧ MRel W0 Tp env β (mem.set r (wrAt cs (q + i) scs, true)) w'
  | [], [], i, w, mem, cs, hM, hr, _, _ => by
    refine ⟨w, rfl, ?_⟩
    have : mem.set r (wrAt cs (q + i) [], true) = mem := by
      apply List.ext_getElem?
      intro j
      by_cases hj : r = j
      · subst hj
        rw [List.getElem?_set_self (List.getElem?_eq_some_iff.1 hr).1, hr]; rfl
      · rw [List.getElem?_set_ne hj]
    rw [this]; exact hM
  | s :: scs, v :: vs, i, w, mem, cs, hM, hr, ⟨h1, h2⟩, hl => by
    have hlt : q + i < cs.length := by simp at hl; omega
    have hM' := hM.set1 hr hlt hx h1
    obtain ⟨y, hy, _, hc, hf⟩ := hM.cell r cs true hr
    rw [hx] at hy
    injection hy with hy
    subst hy
    obtain ⟨u, hu, _⟩ := hc (q + i) cs[q + i] (List.getElem?_eq_getElem hlt)
    have hfr := (hf rfl (q + i) hlt).1
    have hr' : (mem.set r (cs.set (q + i) s, true))[r]? = some (cs.set (q + i) s, true) := by
      rw [List.getElem?_set_self (List.getElem?_eq_some_iff.1 hr).1]
    obtain ⟨w', hrun, hM2⟩ := store_ok q hx scs vs (i + 1) _ _ _ hM' hr' h2 (by simp at hl ⊢; omega)
    refine ⟨w', ?_, ?_⟩
    · rw [storeCells]
      simp only [Sem.run_bind, addr_add, run_store P w _ v _ h1.one]
      rw [show x.2 + q + i = x.2 + (q + i) from by omega, hu, hfr]
      simpa using hrun
    · rw [wrAt]
      rw [List.set_set] at hM2
      rw [← Nat.add_assoc] at hM2
      exact hM2

theorem xval_sto (hF : FRel env β S a) (hM : MRel W0 Tp env β S.mem w) {o : Oper} {r q : Nat} {cs : List SC} (h : xval P ext o S = .sto r q cs) :
    ∃ old b w', S.mem[r]? = some (old, b) ∧ (execOp a.eval o).run P w = .ok .skip w' ∧ MRel W0 Tp env β (S.mem.set r (wrAt old q cs, true)) w' ∧ tagOf ext o = 2 := by
  obtain ⟨dst, op, type, pos, after, guard⟩ := o
  have noI : ∀ {k : IntKind} {o : IOp} {xs : List SI}, mkI S k o xs ≠ .sto r q cs := by
    intro k o xs; unfold mkI; split
    · unfold cond; split <;> simp
    · simp
  have noB : ∀ {o : IOp} {xs : List SI}, mkB S o xs ≠ .sto r q cs := by
    intro o xs; unfold mkB; split <;> simp
  cases op with
  | store t x y =>
    simp only [xval] at h
    split at h
    · rename_i u v hu hv
      unfold xStore at h
      split at h
      · rename_i rg qq vv
        split at h
        · rename_i old sz hr hsz
          cases hb : (decide (vv.cells.length = sz) && decide (qq + sz ≤ old.length))
          · simp [hb] at h
          · simp only [hb, cond_true] at h
            simp only [Bool.and_eq_true, decide_eq_true_eq] at hb
            injection h with h1 h2 h3
            subst h1; subst h2; subst h3
            obtain ⟨x', hx', e1⟩ := xev_is hF hu
            have hcells := (show SW.is env β vv (a.eval y) from xev_is hF hv).cells
            obtain ⟨w', hrun, hM'⟩ := store_ok (P := P) qq hx' vv.cells _ 0 w S.mem old hM hr hcells (by omega)
            refine ⟨old, true, w', hr, ?_, hM', rfl⟩
            have hlen := hcells.length
            have hsize : ¬ (a.eval y).cells.size ≠ sz := by
              simp only [Array.length_toList] at hlen
              omega
            simp only [execOp, e1, Instr.storeAt, Instr.sureAddr, storeVar, Sem.run_bind, Sem.run_pure, Result.andThen_ok, run_sz hsz, if_neg hsize, hrun]
        · cases h
      · cases h
    · cases h
  | move x => simp only [xval] at h; split at h <;> cases h
  | assign x => simp only [xval] at h; split at h <;> cases h
  | nilCheck x => simp only [xval] at h; split at h <;> cases h
  | pick c x y => simp only [xval] at h; split at h <;> first | (split at h <;> cases h) | cases h
  | extract t i => simp only [xval] at h; split at h <;> first | (split at h <;> cases h) | cases h
  | indexAddr t x ix =>
    simp only [xval] at h
    split at h
    · unfold xIndex at h
      split at h <;> first | (split at h <;> first | (split at h <;> first | (unfold cond at h; split at h <;> cases h) | cases h) | cases h) | cases h
    · cases h
  | load t x =>
    simp only [xval] at h
    split at h
    · unfold xLoad at h
      split at h <;> first | (split at h <;> first | (split at h <;> cases h) | (unfold cond at h; split at h <;> cases h) | cases h) | cases h
    · cases h
  | alloc t => simp only [xval] at h; split at h <;> cases h
  | box t x => simp only [xval] at h; split at h <;> cases h
  | build t parts =>
    simp only [xval] at h
    split at h
    · unfold cond at h; split at h <;> first | (split at h <;> cases h) | cases h
    · cases h
  | buildSlice t n parts =>
    simp only [xval] at h
    split at h
    · split at h
      · unfold cond at h; split at h <;> first | (split at h <;> cases h) | cases h
      · cases h
    · cases h
  | makeSlice t x y =>
    simp only [xval] at h
    split at h
    · split at h
      · unfold cond at h; split at h <;> cases h
      · cases h
    · cases h
  | slice t x lo hi mx =>
    have noS : ∀ {u : SV} {lo hi : Option SV}, xSlice P t u lo hi ≠ .sto r q cs := by
      intro u lo hi; unfold xSlice; split
      · split
        · simp
        · unfold cond; split <;> simp
        · simp
      · simp
    simp only [xval] at h
    split at h
    · split at h
      · exact absurd h noS
      · split at h
        · exact absurd h noS
        · cases h
      · cases h
    · cases h
  | binOp op t x y yt =>
    simp only [xval] at h
    split at h
    · exfalso
      unfold xBin at h
      split at h
      · unfold xBinI at h
        split at h <;> (unfold cond at h; split at h <;> first | exact noI h | cases h | (split at h <;> first | exact noI h | (split at h <;> first | exact noB h | cases h)))
      · unfold xBinB at h
        split at h <;> first | exact noB h | cases h
      · unfold xBinA at h
        split at h
        · unfold cond at h; split at h <;> first | (split at h <;> cases h) | cases h
        · cases h
      · cases h
    · cases h
  | unOp op t x =>
    cases op with
    | not => simp only [xval] at h; split at h <;> first | (split at h <;> cases h) | cases h
    | _ => simp [xval] at h
  | convert s d x =>
    simp only [xval] at h
    split at h <;> first | exact absurd h noI | cases h
  | call c =>
    simp only [xval] at h
    split at h
    · split at h
      · split at h <;> first | (unfold cond at h; split at h <;> cases h) | cases h
      · cases h
    · split at h
      · unfold xCall at h
        split at h <;> first | (unfold cond at h; split at h <;> cases h) | cases h
      · cases h
    · cases h
  | _ => simp [xval] at h
end
end Eng
