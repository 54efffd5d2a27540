/-
  What an operation yields by reckoning, against the model's own run: addresses, loads, literals, slices, calls of the library's Add64 and Sub64, len; and all of them together.
-/
import Derived.Test.YtakddcclpocejaaEng7
namespace Eng
open Go Go.RowKit

section
variable {P : Program} {ext : Nat → Nat} {W0 : World} {Tp : Nat → Nat → Prop} {env : List Int} {β : List (Nat × Nat)} {S : St} {a : Act} {w : World}

theorem addr_add (b o n : Nat) : (⟨b, o, none⟩ : Addr).add n = ⟨b, o + n, none⟩ := by
  unfold Addr.add
  split
  · rename_i h; subst h; rfl
  · rfl

theorem index_val {t : TypeId} {u v : SV} {l : List (IOp × List SI)} {r : SV} {m n : Value}
    (hu : u.is env β m) (hv : v.is env β n) (h : xIndex P t u v = .val l r) : l = [] ∧ ∃ z, r.is env β z ∧ Yl P (Instr.indexAt t m n) z := by
  unfold xIndex at h
  split at h
  · rename_i r q k i
    obtain ⟨x, hx, rfl⟩ := hu
    obtain ⟨j, hj, _, rfl⟩ := hv
    have hji : j = i := hj
    subst hji
    split at h
    · rename_i len el hund
      split at h
      · rename_i sz hsz
        cases hb : (decide (0 ≤ j) && decide (j < (len : Int)))
        · simp [hb] at h
        · simp only [hb, cond_true] at h
          rw [Bool.and_eq_true, decide_eq_true_eq, decide_eq_true_eq] at hb
          injection h with h1 h2
          subst h1; subst h2
          refine ⟨rfl, _, ⟨x, hx, rfl⟩, fun w => ?_⟩
          simp only [Instr.indexAt, asIntOf, Sem.run_bind, Sem.run_pure, Result.andThen_ok, run_underlying hund, Instr.sureAddr, if_pos hb, run_sz hsz]
          rw [addr_add]
          simp [Nat.add_assoc]
      · cases h
    · cases h
  · rename_i r q len cap k i
    obtain ⟨x, hx, rfl⟩ := hu
    obtain ⟨j, hj, _, rfl⟩ := hv
    have hji : j = i := hj
    subst hji
    split at h
    · rename_i el hund
      split at h
      · rename_i sz hsz
        cases hb : (decide (0 ≤ j) && decide (j < (len : Int)))
        · simp [hb] at h
        · simp only [hb, cond_true] at h
          rw [Bool.and_eq_true, decide_eq_true_eq, decide_eq_true_eq] at hb
          injection h with h1 h2
          subst h1; subst h2
          refine ⟨rfl, _, ⟨x, hx, rfl⟩, fun w => ?_⟩
          simp only [Instr.indexAt, asIntOf, Sem.run_bind, Sem.run_pure, Result.andThen_ok, run_underlying hund, if_pos hb, run_sz hsz]
          rw [addr_add]
          simp [Nat.add_assoc]
      · cases h
    · cases h
  · cases h

theorem run_loadCellsFrom (b o : Nat) : ∀ (n i : Nat) (acc vs : List Value), vs.length = n → (∀ j v, vs[j]? = some v → w.cell? ⟨b, o + i + j, none⟩ = some v) →
    (loadCellsFrom ⟨b, o, none⟩ i n acc.toArray).run P w = .ok (acc ++ vs).toArray w
  | 0, i, acc, vs, hl, _ => by
    have : vs = [] := List.eq_nil_of_length_eq_zero hl
    subst this
    simp [loadCellsFrom]
  | n + 1, i, acc, [], hl, _ => by simp at hl
  | n + 1, i, acc, v :: vs, hl, hc => by
    have h0 := hc 0 v rfl
    have ih := run_loadCellsFrom b o n (i + 1) (acc ++ [v]) vs (by simpa using hl) (fun j u hj => by
      have := hc (j + 1) u (by simpa using hj)
      rw [show o + (i + 1) + j = o + i + (j + 1) from by omega]; exact this)
    rw [loadCellsFrom]
    simp only [Sem.run_bind, addr_add, run_load]
    rw [show o + i + 0 = o + i from by omega] at h0
    rw [h0]
    simp only [Result.andThen_ok]
    rw [show acc.toArray.push v = (acc ++ [v]).toArray from by simp, ih]
    simp

theorem load_val (hM : CellsOk env β S.mem w) {t : TypeId} {u : SV} {l : List (IOp × List SI)} {r : SV} {m : Value}
    (hu : u.is env β m) (h : xLoad P S t u = .val l r) : l = [] ∧ ∃ z, r.is env β z ∧ (Instr.loadAt t m).run P w = .ok z w := by
  unfold xLoad at h
  split at h
  · rename_i rg q
    obtain ⟨x, hx, rfl⟩ := hu
    split at h
    · rename_i cs wr sz hr hag hsz
      cases hb : decide (q + sz ≤ cs.length)
      · simp [hb] at h
      · simp only [hb, cond_true] at h
        have hb := of_decide_eq_true hb
        injection h with h1 h2
        subst h1; subst h2
        have hc := hM rg cs wr x hr hx
        have hlen : ((cs.drop q).take sz).length = sz := by simp; omega
        have hall : All2 (SC.is env β) ((cs.drop q).take sz) ((List.range sz).map fun j => (w.cell? ⟨x.1, x.2 + q + j, none⟩).getD undef) := by
          have := All2.of_get (R := SC.is env β) (l := (cs.drop q).take sz) (f := fun j => (w.cell? ⟨x.1, x.2 + q + j, none⟩).getD undef) (fun j sc hj => by
            have hlt : j < sz := by
              have := (List.getElem?_eq_some_iff.1 hj).1
              omega
            rw [List.getElem?_take_of_lt hlt, List.getElem?_drop] at hj
            obtain ⟨v, hv, hs⟩ := hc (q + j) sc hj
            rw [← Nat.add_assoc] at hv
            rw [hv]
            exact hs)
          rw [hlen] at this
          exact this
        refine ⟨rfl, _, ⟨_, rfl, hall⟩, ?_⟩
        simp only [Instr.loadAt, Instr.sureAddr, loadVar, Sem.run_bind, Sem.run_pure, Result.andThen_ok, run_agg hag, if_true, run_sz hsz, loadCells]
        have := run_loadCellsFrom (P := P) (w := w) x.1 (x.2 + q) sz 0 [] ((List.range sz).map fun j => (w.cell? ⟨x.1, x.2 + q + j, none⟩).getD undef) (by simp) (fun j v hj => by
          have hlt : j < sz := by
            have := (List.getElem?_eq_some_iff.1 hj).1
            simpa using this
          simp [hlt] at hj
          have hcs : cs[q + j]? = some cs[q + j] := List.getElem?_eq_getElem (by omega)
          obtain ⟨u, hu, _⟩ := hc (q + j) _ hcs
          rw [← Nat.add_assoc] at hu
          rw [hu] at hj
          simp at hj
          subst hj
          exact hu)
        rw [this]
        simp
    · rename_i cs wr hr hag
      split at h
      · rename_i sc hsc
        injection h with h1 h2
        subst h1; subst h2
        have hc := hM rg cs wr x hr hx
        obtain ⟨v, hv, hs⟩ := hc q sc hsc
        refine ⟨rfl, v, hs, ?_⟩
        simp [Instr.loadAt, Instr.sureAddr, loadVar, run_agg hag, hv]
      · cases h
    · cases h
  · cases h

theorem zero_is {t : TypeId} {cs : List SC} (h : zeroOf P t = some cs) : ∃ z i, P.info? t = some i ∧ i.zero = some z ∧ All2 (SC.is env β) cs z.cells.toList := by
  unfold zeroOf at h
  split at h
  · rename_i i hi
    split at h
    · rename_i z hz
      exact ⟨z, i, hi, hz, ofVals_is h⟩
    · cases h
  · cases h

theorem parts_is (hF : FRel env β S a) : ∀ {ps : List (Nat × Operand)} {qs : List (Nat × SV)}, xParts S ps = some qs →
    All2 (fun (q : Nat × SV) (p : Nat × Value) => q.1 = p.1 ∧ q.2.is env β p.2) qs (ps.map fun p => (p.1, a.eval p.2))
  | [], qs, h => by simp [xParts] at h; subst h; trivial
  | (i, x) :: r, qs, h => by
    unfold xParts at h
    cases hx : xev S x with
    | none => simp [hx] at h
    | some v =>
      cases hr : xParts S r with
      | none => simp [hx, hr] at h
      | some l => simp [hx, hr] at h; subst h; exact ⟨⟨rfl, xev_is hF hx⟩, parts_is hF hr⟩

theorem All2.set {α β : Type} {R : α → β → Prop} : ∀ {l : List α} {m : List β} (i : Nat) {x : α} {y : β}, All2 R l m → R x y → All2 R (l.set i x) (m.set i y)
  | [], [], _, _, _, _, _ => trivial
  | _ :: _, _ :: _, 0, _, _, ⟨_, h2⟩, h => ⟨h, h2⟩
  | _ :: _, _ :: _, i + 1, _, _, ⟨h1, h2⟩, h => ⟨h1, All2.set i h2 h⟩

theorem one_cells {v : Value} (h : v.oneCell' = true) : v.cells = #[v] := by cases v <;> first | rfl | simp [Value.oneCell'] at h

theorem fill_is : ∀ {ps : List (Nat × SV)} {qs : List (Nat × Value)} {cs out : List SC} {vs : List Value},
    All2 (fun (q : Nat × SV) (p : Nat × Value) => q.1 = p.1 ∧ q.2.is env β p.2) ps qs → All2 (SC.is env β) cs vs → xFill cs ps = some out →
    ∃ zs, Instr.fill (fun i => some (i * 1, 1)) vs.toArray qs = some zs.toArray ∧ All2 (SC.is env β) out zs
  | [], [], cs, out, vs, _, hc, h => by simp [xFill] at h; subst h; exact ⟨vs, rfl, hc⟩
  | (i, .ww (.cc x)) :: ps, (j, v) :: qs, cs, out, vs, ⟨⟨hij, hx⟩, hp⟩, hc, h => by
    have hij : i = j := hij
    subst hij
    have hx : x.is env β v := hx
    simp only [xFill] at h
    cases hb : Nat.blt i cs.length
    · simp [hb] at h
    · simp only [hb, cond_true] at h
      have hlt : i < cs.length := by simpa using hb
      obtain ⟨zs, hz, hz2⟩ := fill_is hp (hc.set i hx) h
      refine ⟨zs, ?_, hz2⟩
      have hvl : i < vs.length := by rw [← hc.length]; exact hlt
      have h1 : ¬ (i + 1 > vs.length) := by omega
      rw [Instr.fill]
      simp only [Nat.mul_one, one_cells hx.one]
      simpa [h1] using hz
  | (i, .ww (.aa _)) :: _, _ :: _, _, _, _, _, _, h => by simp [xFill] at h
  | (i, .tt _) :: _, _ :: _, _, _, _, _, _, h => by simp [xFill] at h

theorem slice_val {t : TypeId} {u : SV} {m : Value} {lo hi : Option SV} {lv hv : Option Value} {l : List (IOp × List SI)} {r : SV}
    (hu : u.is env β m) (hl : match lo, lv with | none, none => True | some x, some y => x.is env β y | _, _ => False)
    (hh : match hi, hv with | none, none => True | some x, some y => x.is env β y | _, _ => False)
    (h : xSlice P t u lo hi = .val l r) : l = [] ∧ ∃ z, r.is env β z ∧ Yl P (Instr.sliceAt t m lv hv none) z := by
  unfold xSlice at h
  split at h
  · rename_i n el rg q hund
    obtain ⟨x, hx, rfl⟩ := hu
    split at h
    · rename_i sz hsz
      injection h with h1 h2
      subst h1; subst h2
      match lv, hv, hl, hh with
      | none, none, _, _ =>
      refine ⟨rfl, _, ⟨x, hx, rfl⟩, fun w => ?_⟩
      simp only [Instr.sliceAt, Instr.sliceBounds, Instr.sureAddr, Sem.run_bind, Sem.run_pure, Result.andThen_ok, run_underlying hund, run_sz hsz, addr_add]
      by_cases hn : n = 0
      · simp [hn]
      · simp [hn]
    · rename_i sz k1 i1 k2 i2 hsz
      cases hb : (decide (0 ≤ i1) && decide (i1 ≤ i2) && decide (i2 ≤ (n : Int)) && decide (i1 < (n : Int)))
      · simp [hb] at h
      · simp only [hb, cond_true] at h
        simp only [Bool.and_eq_true, decide_eq_true_eq] at hb
        obtain ⟨⟨⟨b1, b2⟩, b3⟩, b4⟩ := hb
        injection h with h1 h2
        subst h1; subst h2
        match lv, hv, hl, hh with
        | some _, some _, ⟨j1, e1, _, rfl⟩, ⟨j2, e2, _, rfl⟩ =>
        have e1 : j1 = i1 := e1
        have e2 : j2 = i2 := e2
        subst e1; subst e2
        refine ⟨rfl, _, ⟨x, hx, rfl⟩, fun w => ?_⟩
        have c1 : (0 : Int) ≤ j2 ∧ j2 ≤ (n : Int) := ⟨by omega, b3⟩
        have c2 : (0 : Int) ≤ j1 ∧ j1 ≤ ((j2.toNat : Nat) : Int) := ⟨b1, by omega⟩
        have c3 : ¬ n = j1.toNat := by omega
        simp only [Instr.sliceAt, Instr.sliceBounds, Instr.sliceBound, asIntOf, Instr.sureAddr, Sem.run_bind, Sem.run_pure, Result.andThen_ok, run_underlying hund, run_sz hsz, addr_add,
          if_pos c1, if_pos c2, if_neg c3, Nat.add_assoc]
    · cases h
  · cases h
end
end Eng
