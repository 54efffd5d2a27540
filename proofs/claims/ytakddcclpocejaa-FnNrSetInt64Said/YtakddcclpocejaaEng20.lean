/-
  The walk by reckoning: contracts of loops and of regions.
-/
import Derived.Test.YtakddcclpocejaaEng19
namespace Eng
open Go Go.RowKit

/-- One end of a piece. -/
structure PX where
  e : SX
  out : List Nat
  id : Nat
  mout : Nat
  ret : List SW
  mem1 : List (List SC × Bool)
/-- A contract of a piece of code. -/
structure PC where
  nt : Nat
  sl : List Nat
  args : List SW
  mem : List (List SC × Bool)
  m : Nat
  ex : List PX

def PX.k (p : PC) (x : PX) : K := { f := 0, args := p.args.map .ww, mem := p.mem, m := p.m, id := x.id, mout := x.mout, ret := .tt x.ret, mem1 := x.mem1 }
def slotW (S : St) (d : Nat) : Option SW :=
  match lk d S.tm with
  | some (.ww x) => some x
  | _ => none
def zipT : List Nat → List SW → List (Nat × SV)
  | d :: l, x :: m => (d, .ww x) :: zipT l m
  | _, _ => []
def PX.use (p : PC) (args : List SW) (S : St) (x : PX) : Option PR :=
  match (x.k p).use (args.map .ww) S with
  | some r => match r.ret with
    | .tt l => some { e := x.e, id := r.id, xs := r.xs, m := r.m, tm := zipT x.out l, mem := r.mem }
    | _ => none
  | none => none
def PC.use (p : PC) (S : St) : Option (List PR) :=
  bif Nat.beq p.nt S.nt then match optl (slotW S) p.sl with
    | some args => optl (PX.use p args S) p.ex
    | none => none
  else none
def pcOf : List ((Nat × Nat) × PC) → Nat → Nat → St → Option (List PR)
  | [], _, _, _ => none
  | ((f, k), p) :: r, fn, key, S => match (bif Nat.beq f fn && Nat.beq k key then p.use S else none) with
    | some l => some l
    | none => pcOf r fn key S

def Slots (a : Act) (ds : List Nat) (us : List Value) : Prop := ∀ (i d : Nat) (v : Value), ds[i]? = some d → us[i]? = some v → a.tmps[d]? = some v

/-- What the contract of a piece says. -/
def PcKOk (P : Program) (A : Ask) (p : PC) (c : Code) : Prop :=
  ∀ (env : List Int) (β : List (Nat × Nat)) (us : List Value) (a : Act) (w : World) (Q : Exit → Act → World → Prop), Calm Q → env.length = p.m → MRel w (TpOf β p.mem) env β p.mem w →
    All2 (SW.is env β) p.args us → a.defers = [] → a.tmps.size = p.nt → Slots a p.sl us → (∀ x, x ∈ p.ex → A.pre x.id env) →
    (∀ x, x ∈ p.ex → ∀ (ys : List Int) (β' : List (Nat × Nat)) (rs : List Value) (a' : Act) (w' : World), ys.length = x.mout → A.post x.id env ys → Longer β β' → All2 (SW.is (env ++ ys) β') x.ret rs →
      MRel w (TpOf β p.mem) (env ++ ys) β' x.mem1 w' → (∀ i y, p.mem.length ≤ i → β'[i]? = some y → w.heap.size ≤ y.1) → a'.defers = [] → a'.tmps.size = p.nt → Slots a' x.out rs → Q x.e.ex a' w') →
    PieceWp P c Q a w

section
variable {env : List Int} {β : List (Nat × Nat)}
theorem all2_ww : ∀ {l : List SW} {vs : List Value}, All2 (SW.is env β) l vs → All2 (SV.is env β) (l.map .ww) vs
  | [], [], _ => trivial
  | _ :: _, _ :: _, ⟨h1, h2⟩ => ⟨h1, all2_ww h2⟩
theorem all2_slots {S : St} {a : Act} (hF : FRel env β S a) : ∀ {ds : List Nat} {l : List SW}, optl (slotW S) ds = some l → ∃ us, All2 (SW.is env β) l us ∧ Slots a ds us
  | [], l, h => by
    simp [optl] at h
    subst h
    exact ⟨[], trivial, fun i d v h => by simp at h⟩
  | d :: ds, l, h => by
    unfold optl at h
    split at h
    · rename_i x m hx hm
      injection h with h
      subst h
      obtain ⟨us, h1, h2⟩ := all2_slots hF hm
      unfold slotW at hx
      split at hx
      · rename_i y hy
        injection hx with hx
        subst hx
        obtain ⟨v, hv, hs⟩ := hF.tm d _ hy
        refine ⟨v :: us, ⟨hs, h1⟩, fun i e u he hu => ?_⟩
        cases i with
        | zero =>
          simp at he hu
          subst he; subst hu
          exact hv
        | succ i => exact h2 i e u (by simpa using he) (by simpa using hu)
      · cases hx
    · cases h
theorem lk_zipT {d : Nat} {sv : SV} : ∀ {ds : List Nat} {l : List SW}, lk d (zipT ds l) = some sv → ∃ (i : Nat) (x : SW), ds[i]? = some d ∧ l[i]? = some x ∧ sv = .ww x
  | [], l, h => by cases l <;> simp [zipT, lk] at h
  | e :: ds, [], h => by simp [zipT, lk] at h
  | e :: ds, x :: l, h => by
    by_cases he : e = d
    · subst he
      rw [zipT, lk_cons_same] at h
      injection h with h
      exact ⟨0, x, rfl, rfl, h.symm⟩
    · rw [zipT, lk_cons_ne _ _ he] at h
      obtain ⟨i, y, h1, h2, h3⟩ := lk_zipT h
      exact ⟨i + 1, y, by simpa using h1, by simpa using h2, h3⟩
theorem slots_tm {a : Act} {ds : List Nat} {l : List SW} {us : List Value} (hs : Slots a ds us) (hl : All2 (SW.is env β) l us) (d : Nat) (sv : SV) (h : lk d (zipT ds l) = some sv) :
    ∃ v, a.tmps[d]? = some v ∧ sv.is env β v := by
  obtain ⟨i, x, h1, h2, rfl⟩ := lk_zipT h
  obtain ⟨v, hv, hx⟩ := hl.get h2
  exact ⟨v, hs i d v h1 hv, hx⟩
end

theorem names_same {p : PC} {x y : PX} {args : List SV} {S : St} {σ σ' : List SI} {ρ ρ' : List Nat} (h : (x.k p).names args S = some (σ, ρ)) (h' : (y.k p).names args S = some (σ', ρ')) : σ = σ' ∧ ρ = ρ' := by
  have key : ∀ z : PX, ∀ {σ : List SI} {ρ : List Nat}, (z.k p).names args S = some (σ, ρ) →
      getAll (mtR (mtA ⟨[], []⟩ (p.args.map SV.ww) args) S 0 p.mem).i 0 p.m = some σ ∧ getAll (mtA ⟨[], []⟩ (p.args.map SV.ww) args).r 0 p.mem.length = some ρ := by
    intro z σ ρ h
    unfold K.names at h
    split at h
    · rename_i σ' ρ' hσ hρ
      split at h
      · unfold cond at h
        split at h
        · simp only [Option.some.injEq, Prod.mk.injEq] at h
          obtain ⟨rfl, rfl⟩ := h
          exact ⟨hσ, hρ⟩
        · cases h
      · cases h
    · cases h
  obtain ⟨h1, h2⟩ := key x h
  obtain ⟨h3, h4⟩ := key y h'
  rw [h1] at h3
  rw [h2] at h4
  injection h3 with h3
  injection h4 with h4
  exact ⟨h3, h4⟩

theorem pxuse_of {p : PC} {args : List SW} {S : St} {x : PX} {r : PR} (h : PX.use p args S x = some r) :
    ∃ κr l, (x.k p).use (args.map .ww) S = some κr ∧ κr.ret = .tt l ∧ r = { e := x.e, id := κr.id, xs := κr.xs, m := κr.m, tm := zipT x.out l, mem := κr.mem } := by
  unfold PX.use at h
  split at h
  · rename_i κr hκ
    split at h
    · rename_i l hl
      injection h with h
      exact ⟨κr, l, hκ, hl, h.symm⟩
    · cases h
  · cases h

theorem pcuse_ok {P : Program} {A : Ask} {p : PC} {c : Code} (hk : PcKOk P A p c) {S : St} {l : List PR} (h : p.use S = some l) {env : List Int} {β : List (Nat × Nat)} {a : Act} {w W0 : World} {Tp : Nat → Nat → Prop}
    {Q : Exit → Act → World → Prop} (hQ : Calm Q) (hF : FRel env β S a) (hM : MRel W0 Tp env β S.mem w) (hne : l ≠ []) (hp : ∀ r, r ∈ l → A.pre r.id (r.xs.map (·.val env)))
    (hq : ∀ r, r ∈ l → ∀ (ys : List Int) (β' : List (Nat × Nat)) (a' : Act) (w' : World), ys.length = r.m → A.post r.id (r.xs.map (·.val env)) ys → Longer β β' →
      FRel (env ++ ys) β' { S with tm := r.tm, mem := r.mem, ne := S.ne + r.m } a' → MRel W0 Tp (env ++ ys) β' r.mem w' → Q r.e.ex a' w') : PieceWp P c Q a w := by
  unfold PC.use at h
  cases hnt : Nat.beq p.nt S.nt with
  | false => rw [hnt, cond_false] at h; cases h
  | true =>
    rw [hnt, cond_true] at h
    have hnt := Nat.eq_of_beq_eq_true hnt
    split at h
    · rename_i args hargs
      obtain ⟨us, hus, hsl⟩ := all2_slots hF hargs
      -- the first end gives the names
      obtain ⟨r0, hr0⟩ : ∃ r0, l[0]? = some r0 := by
        cases l with
        | nil => exact absurd rfl hne
        | cons r0 l => exact ⟨r0, rfl⟩
      obtain ⟨x0, hx0, hu0⟩ := optl_get_rev h r0 hr0
      obtain ⟨κ0, l0, hκ0, _, _⟩ := pxuse_of hu0
      obtain ⟨σ, ρ, hn0⟩ := names_of_use hκ0
      have all : ∀ x, x ∈ p.ex → ∃ r κr lr, r ∈ l ∧ (x.k p).use (args.map .ww) S = some κr ∧ κr.ret = .tt lr ∧ r = { e := x.e, id := κr.id, xs := κr.xs, m := κr.m, tm := zipT x.out lr, mem := κr.mem } ∧
          Carried (x.k p) κr env β us w W0 Tp (σ.map (·.val env)) (ρ.map fun r => β.getD r (0, 0)) := by
        intro x hx
        obtain ⟨i, hi⟩ := List.getElem?_of_mem hx
        obtain ⟨r, hr, hxu⟩ := optl_get h x hi
        obtain ⟨κr, lr, h1, h2, h3⟩ := pxuse_of hxu
        obtain ⟨σ', ρ', hn⟩ := names_of_use h1
        obtain ⟨rfl, rfl⟩ := names_same hn0 hn
        exact ⟨r, κr, lr, List.mem_of_getElem? hr, h1, h2, h3, use_core hn h1 hF.facts hM (all2_ww hus)⟩
      obtain ⟨_, _, _, _, _, _, _, hc0⟩ := all x0 (List.mem_of_getElem? hx0)
      have hargs0 : All2 (SW.is (σ.map (·.val env)) (ρ.map fun r => β.getD r (0, 0))) p.args us := by
        have := hc0.args
        have key : ∀ (l : List SW) (vs : List Value), All2 (SV.is (σ.map (·.val env)) (ρ.map fun r => β.getD r (0, 0))) (l.map .ww) vs → All2 (SW.is (σ.map (·.val env)) (ρ.map fun r => β.getD r (0, 0))) l vs := by
          intro l
          induction l with
          | nil => intro vs h; cases vs <;> first | trivial | exact h.elim
          | cons x l ih => intro vs h; cases vs with
            | nil => exact h.elim
            | cons v vs => exact ⟨h.1, ih vs h.2⟩
        exact key _ _ this
      refine hk _ _ us a w Q hQ hc0.len hc0.mem hargs0 hF.nd (by rw [hF.nt, hnt]) hsl (fun x hx => ?_) (fun x hx => ?_)
      · obtain ⟨r, κr, lr, hr, h1, h2, h3, hc⟩ := all x hx
        have := hp r hr
        rw [h3] at this
        have hid := hc.id
        have hxs := hc.xs
        simp only at this
        rw [hxs, hid] at this
        exact this
      · intro ys β1 rs a' w' hyl hpost hb hrs hM1 hfresh hnd hnt' hsl'
        obtain ⟨r, κr, lr, hr, h1, h2, h3, hc⟩ := all x hx
        obtain ⟨β', hb', hret, hM'⟩ := hc.post ys β1 (.tuple rs.toArray) w' hyl hb ⟨rs, rfl, hrs⟩ hM1 hfresh
        rw [h2] at hret
        obtain ⟨vs, hvs, hall⟩ := hret
        have hvs : rs = vs := by
          have := Value.tuple.inj hvs
          simpa using congrArg Array.toList this
        subst hvs
        have hid := hc.id
        have hxs := hc.xs
        have hmm := hc.m
        have := hq r hr ys β' a' w' (by rw [h3]; simp only; rw [hmm]; exact hyl) (by rw [h3]; simp only; rw [hxs, hid]; exact hpost) hb'
        rw [h3] at this
        refine this ?_ hM'
        refine ⟨?_, hnd, by rw [hnt', hnt], fun d sv hd => slots_tm hsl' hall d sv hd, fun y t hy => get_more (hF.fx y t hy) ys, fun y hy => ?_⟩
        · simp only [List.length_append, hF.ne, hyl]
          rw [hmm]
          rfl
        · rcases hF.bt y hy with h4 | h4
          · exact .inl (get_more h4 ys)
          · exact .inr (get_more h4 ys)
    · cases h

theorem pcuse_ne {p : PC} (hex : p.ex ≠ []) {S : St} {l : List PR} (h : p.use S = some l) : l ≠ [] := by
  unfold PC.use at h
  unfold cond at h
  split at h
  · split at h
    · have := optl_length h
      intro e
      subst e
      exact hex (List.eq_nil_of_length_eq_zero this.symm)
    · cases h
  · cases h

theorem pcOf_ok {P : Program} {ext : Nat → Nat} {con : Nat → List SV → St → Option CR} {A : Ask} : ∀ {L : List ((Nat × Nat) × PC)},
    (∀ q, q ∈ L → q.2.ex ≠ [] ∧ ∀ c, InF P q.1.1 (q.1.2, c) → PcKOk P A q.2 c) → PcOk ⟨P, ext, con, pcOf L⟩ A
  | [], _ => fun fn key c S l _ h => by simp [pcOf] at h
  | ((f, k), p) :: L, hL => by
    intro fn key c S l hin h env β a w W0 Tp Q hQ hF hM hp hq
    simp only [pcOf] at h
    have hrest : pcOf L fn key S = some l → PieceWp P c Q a w := fun h =>
      pcOf_ok (ext := ext) (con := con) (fun q hq => hL q (List.mem_cons_of_mem _ hq)) fn key c S l hin h env β a w W0 Tp Q hQ hF hM hp hq
    cases hb : (Nat.beq f fn && Nat.beq k key) with
    | false =>
      rw [hb, cond_false] at h
      exact hrest h
    | true =>
      rw [hb, cond_true] at h
      split at h
      · rename_i l' hl
        injection h with h
        subst h
        rw [Bool.and_eq_true] at hb
        have h1 := Nat.eq_of_beq_eq_true hb.1
        have h2 := Nat.eq_of_beq_eq_true hb.2
        subst h1
        subst h2
        obtain ⟨hex, hk⟩ := hL ((f, k), p) (List.mem_cons_self ..)
        exact pcuse_ok (hk c hin) hl hQ hF hM (pcuse_ne hex hl) hp hq
      · exact hrest h
end Eng
