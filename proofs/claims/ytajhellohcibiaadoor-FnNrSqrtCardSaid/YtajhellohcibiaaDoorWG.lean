/-
  A contract turned into what a walk by hand asks of a call: at any addresses, in any world.
-/
import Derived.Test.YtajhellohcibiaaDoorEngC
namespace Eng
open Go Go.RowKit

theorem us_cell {env : List Int} {β : List (Nat × Nat)} {i n b o : Nat} {w : World} (h : i + n ≤ env.length) (hw : Wds env) (hc : ∀ j, j < n → w.cell? ⟨b, o + j, none⟩ = some (.int .u64 (env.getD (i + j) 0))) :
    ∀ (j : Nat) (sc : SC), (us i n)[j]? = some sc → ∃ v, w.cell? ⟨b, o + j, none⟩ = some v ∧ sc.is env β v := by
  intro j sc hj
  have hj' : j < n := by
    have := (List.getElem?_eq_some_iff.1 hj).1
    simpa [us] using this
  have hs : sc = .ii .u64 (.var (i + j)) := by
    have : (us i n)[j]? = some (.ii .u64 (.var (i + j))) := by simp [us, u, hj']
    rw [this] at hj
    injection hj with hj
    exact hj.symm
  subst hs
  refine ⟨_, hc j hj', env.getD (i + j) 0, ?_, fits_of (hw _ ?_), rfl⟩
  · show env[i + j]? = some _
    rw [List.getD_eq_getElem?_getD, List.getElem?_eq_getElem (by omega)]
    rfl
  · rw [List.getD_eq_getElem?_getD, List.getElem?_eq_getElem (by omega)]
    exact List.getElem_mem _

/-- Regions that are only read: what is below stays. -/
theorem ko_ro {P : Program} {A : Ask} {κ : K} (hk : KOk P A κ) {env : List Int} {β : List (Nat × Nat)} {vs : List Value} {w : World} (hl : env.length = κ.m) (hn : β.length = κ.mem.length)
    (hro : ∀ p ∈ κ.mem, p.2 = false)
    (hc : ∀ (r : Nat) (cs : List SC) (wr : Bool), κ.mem[r]? = some (cs, wr) → ∃ x : Nat × Nat, β[r]? = some x ∧ x.1 < w.heap.size ∧ ∀ (j : Nat) (sc : SC), cs[j]? = some sc → ∃ v, w.cell? ⟨x.1, x.2 + j, none⟩ = some v ∧ sc.is env β v)
    (ha : All2 (SV.is env β) κ.args vs) (hp : A.pre κ.id env) :
    Calls P κ.f vs.toArray w (fun e w' => ∃ ys β' v, ys.length = κ.mout ∧ A.post κ.id env ys ∧ e = .returned v ∧ Longer β β' ∧ κ.ret.is (env ++ ys) β' v ∧
      MRel w (TpOf β κ.mem) (env ++ ys) β' κ.mem1 w' ∧ (∀ i x, κ.mem.length ≤ i → β'[i]? = some x → w.heap.size ≤ x.1) ∧ Below w.heap.size w w') := by
  have hf : ∀ (r : Nat) (cs : List SC) (wr : Bool), κ.mem[r]? = some (cs, wr) → wr = false := fun r cs wr h => hro (cs, wr) (List.mem_of_getElem? h)
  refine (hk env β vs w hl ⟨hn, fun r cs wr h => ?_, fun r s x y cs ds wr ws _ _ _ h1 h2 h3 => ?_, Kept.refl _ _⟩ ha hp).mono ?_
  · obtain ⟨x, h1, h2, h3⟩ := hc r cs wr h
    exact ⟨x, h1, h2, h3, fun hwr => by rw [hf r cs wr h] at hwr; cases hwr⟩
  · rw [hf _ _ _ h1, hf _ _ _ h2] at h3
    rcases h3 with h3 | h3 <;> cases h3
  · rintro e w' ⟨ys, β', v, h1, h2, h3, h4, h5, h6, h7⟩
    refine ⟨ys, β', v, h1, h2, h3, h4, h5, h6, h7, Kept.below ?_⟩
    have hkp := h6.kept
    have : TpOf β κ.mem = fun _ _ => False := by
      funext b o
      refine eq_false ?_
      rintro ⟨r, cs, x, h, _⟩
      have := hf _ _ _ h
      cases this
    rw [this] at hkp
    exact hkp

/-- One region is written: all else stays. -/
def Touch (w : World) (b o n : Nat) (w' : World) : Prop := Kept w (fun b' o' => b' = b ∧ o ≤ o' ∧ o' < o + n) w'
theorem ko_w {P : Program} {A : Ask} {κ : K} (hk : KOk P A κ) {env : List Int} {β : List (Nat × Nat)} {vs : List Value} {w : World} {cs0 : List SC} {ro : List (List SC × Bool)} {b0 o0 : Nat}
    (hm : κ.mem = (cs0, true) :: ro) (h0 : β[0]? = some (b0, o0)) (hl : env.length = κ.m) (hn : β.length = κ.mem.length) (hro : ∀ p ∈ ro, p.2 = false)
    (hc : ∀ (r : Nat) (cs : List SC) (wr : Bool), κ.mem[r]? = some (cs, wr) → ∃ x : Nat × Nat, β[r]? = some x ∧ x.1 < w.heap.size ∧ ∀ (j : Nat) (sc : SC), cs[j]? = some sc → ∃ v, w.cell? ⟨x.1, x.2 + j, none⟩ = some v ∧ sc.is env β v)
    (hf : ∀ j, j < cs0.length → w.frozen? ⟨b0, o0 + j, none⟩ = false)
    (hd : ∀ (r : Nat) (x : Nat × Nat) (cs : List SC), β[r + 1]? = some x → ro[r]? = some (cs, false) → x.1 ≠ b0 ∨ x.2 + cs.length ≤ o0 ∨ o0 + cs0.length ≤ x.2)
    (ha : All2 (SV.is env β) κ.args vs) (hp : A.pre κ.id env) :
    Calls P κ.f vs.toArray w (fun e w' => ∃ ys β' v, ys.length = κ.mout ∧ A.post κ.id env ys ∧ e = .returned v ∧ Longer β β' ∧ κ.ret.is (env ++ ys) β' v ∧
      MRel w (TpOf β κ.mem) (env ++ ys) β' κ.mem1 w' ∧ (∀ i x, κ.mem.length ≤ i → β'[i]? = some x → w.heap.size ≤ x.1) ∧ Touch w b0 o0 cs0.length w') := by
  have hr : ∀ (r : Nat) (cs : List SC) (wr : Bool), κ.mem[r + 1]? = some (cs, wr) → wr = false ∧ ro[r]? = some (cs, false) := fun r cs wr h => by
    rw [hm, List.getElem?_cons_succ] at h
    have : wr = false := hro (cs, wr) (List.mem_of_getElem? h)
    subst this
    exact ⟨rfl, h⟩
  have hz : κ.mem[0]? = some (cs0, true) := by rw [hm]; rfl
  refine (hk env β vs w hl ⟨hn, fun r cs wr h => ?_, fun r s x y cs ds wr ws hne hx hy h1 h2 h3 => ?_, Kept.refl _ _⟩ ha hp).mono ?_
  · obtain ⟨x, h1, h2, h3⟩ := hc r cs wr h
    refine ⟨x, h1, h2, h3, fun hwr => ?_⟩
    cases r with
    | succ r => rw [(hr r cs wr h).1] at hwr; cases hwr
    | zero =>
      rw [hz] at h
      cases h
      rw [h0] at h1
      cases h1
      exact fun j hj => ⟨hf j hj, Or.inr ⟨0, cs0, (b0, o0), hz, h0, rfl, Nat.le_add_right .., by show o0 + j < o0 + _; omega⟩⟩
  · cases r with
    | zero =>
      rw [hz] at h1
      cases h1
      rw [h0] at hx
      cases hx
      cases s with
      | zero => exact absurd rfl hne
      | succ s =>
        rcases hd s y ds hy (hr s ds ws h2).2 with h | h | h
        · exact Or.inl fun e => h e.symm
        · exact Or.inr (Or.inr h)
        · exact Or.inr (Or.inl h)
    | succ r =>
      have hwr := (hr r cs wr h1).1
      subst hwr
      cases s with
      | succ s =>
        have := (hr s ds ws h2).1
        subst this
        rcases h3 with h3 | h3 <;> cases h3
      | zero =>
        rw [hz] at h2
        cases h2
        rw [h0] at hy
        cases hy
        exact hd r x cs hx (hr r cs false h1).2
  · rintro e w' ⟨ys, β', v, h1, h2, h3, h4, h5, h6, h7⟩
    refine ⟨ys, β', v, h1, h2, h3, h4, h5, h6, h7, ?_⟩
    have hkp := h6.kept
    have ht : ∀ b o, TpOf β κ.mem b o → b = b0 ∧ o0 ≤ o ∧ o < o0 + cs0.length := by
      rintro b o ⟨r, cs, x, h, hx, hb, ho1, ho2⟩
      cases r with
      | succ r =>
        have := (hr r cs true h).1
        cases this
      | zero =>
        rw [hz] at h
        cases h
        rw [h0] at hx
        cases hx
        exact ⟨hb, ho1, ho2⟩
    exact ⟨hkp.os, hkp.tape, hkp.output, hkp.size, fun b hb hno => hkp.block b hb fun o ho => hno o (ht b o ho), fun b o hb hno => hkp.cell b o hb fun h => hno (ht b o h), hkp.frozen⟩
theorem Touch.below {w w' : World} {b o n B : Nat} (h : Touch w b o n w') (hB : B ≤ b) (hs : B ≤ w.heap.size) : Below B w w' :=
  ⟨h.os, h.tape, h.output, h.size, fun k hk => h.block k (by omega) fun o' hh => by omega⟩
end Eng
