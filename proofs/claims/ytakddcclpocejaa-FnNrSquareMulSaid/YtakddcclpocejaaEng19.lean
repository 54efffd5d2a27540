/-
  The walk by reckoning: a contract is shown by the walk itself.
-/
import Derived.Test.YtakddcclpocejaaEng18
namespace Eng
open Go Go.RowKit

def K.st (κ : K) : St := { nt := 0, tm := [], fx := [], bt := [], mem := κ.mem, ne := κ.m, fn := 0, blk := 0 }
def st0 : St := { nt := 0, tm := [], fx := [], bt := [], mem := [], ne := 0, fn := 0, blk := 0 }
def enc (τ : List SI) : SV := .ww (.aa (τ.map fun e => .ii .u64 e))
def dec1 : SC → SI
  | .ii _ e => e
  | _ => .lit 0
def dec : SV → List SI
  | .ww (.aa l) => l.map dec1
  | _ => []
theorem dec_enc (τ : List SI) : dec (enc τ) = τ := by
  simp only [dec, enc, List.map_map]
  induction τ with
  | nil => rfl
  | cons x r ih => simp only [List.map_cons, ih]; rfl

/-- The regions at the end of the walk are those that the contract tells. -/
def doneB (σ : List SI) (ρ : List Nat) (S : St) : Nat → List (List SC × Bool) → Bool
  | _, [] => true
  | i, (cs, wr) :: r => (match ρ[i]?, optl (SC.sub σ ρ) cs with
    | some r', some ds => (match S.mem[r']? with
      | some (es, wr') => listBeq SC.beq ds es && (!wr || wr')
      | none => false)
    | _, _ => false) && doneB σ ρ S (i + 1) r
theorem doneB_ok {σ : List SI} {ρ : List Nat} {S : St} : ∀ {km : List (List SC × Bool)} {i : Nat}, doneB σ ρ S i km = true →
    ∀ (j : Nat) (cs : List SC) (wr : Bool), km[j]? = some (cs, wr) → ∃ r' ds wr', ρ[i + j]? = some r' ∧ optl (SC.sub σ ρ) cs = some ds ∧ S.mem[r']? = some (ds, wr') ∧ (wr = true → wr' = true)
  | [], i, _, j, cs, wr, h => by simp at h
  | (cs0, wr0) :: km, i, hm, j, cs, wr, h => by
    simp only [doneB, Bool.and_eq_true] at hm
    obtain ⟨h1, h3⟩ := hm
    cases j with
    | zero =>
      simp at h
      obtain ⟨rfl, rfl⟩ := h
      split at h1
      · rename_i r' ds hr hd
        split at h1
        · rename_i es wr' hs
          simp only [Bool.and_eq_true, Bool.or_eq_true, Bool.not_eq_true'] at h1
          have he := listBeq_eq (fun _ _ => SC.beq_eq) h1.1
          subst he
          refine ⟨r', ds, wr', by simpa using hr, hd, hs, fun hw => ?_⟩
          rcases h1.2 with h4 | h4
          · rw [hw] at h4; cases h4
          · exact h4
        · cases h1
      · cases h1
    | succ j =>
      obtain ⟨r', ds, wr', a1, a2, a3, a4⟩ := doneB_ok h3 j cs wr (by simpa using h)
      exact ⟨r', ds, wr', by rw [show i + (j + 1) = i + 1 + j by omega]; exact a1, a2, a3, a4⟩

/-- New regions: behind those of the beginning, writable, not empty. -/
def freshB (n : Nat) (S : St) : List Nat → Bool
  | [] => true
  | r :: l => Nat.ble n r && (match S.mem[r]? with
    | some (_ :: _, true) => true
    | _ => false) && freshB n S l
theorem freshB_ok {n : Nat} {S : St} : ∀ {l : List Nat}, freshB n S l = true → ∀ (j r : Nat), l[j]? = some r → n ≤ r ∧ ∃ c cs, S.mem[r]? = some (c :: cs, true)
  | [], _, j, r, h => by simp at h
  | x :: l, h, j, r, hj => by
    simp only [freshB, Bool.and_eq_true] at h
    obtain ⟨⟨h1, h2⟩, h3⟩ := h
    cases j with
    | zero =>
      simp at hj
      subst hj
      refine ⟨Nat.le_of_ble_eq_true h1, ?_⟩
      split at h2
      · rename_i c cs hc; exact ⟨c, cs, hc⟩
      · cases h2
    | succ j => exact freshB_ok h3 j r (by simpa using hj)
/-- The regions that the contract may write still stand as they stood. -/
def stillB (S : St) : Nat → List (List SC × Bool) → Bool
  | _, [] => true
  | i, (cs, wr) :: r => (!wr || (match S.mem[i]? with
    | some (es, w) => w && Nat.beq es.length cs.length
    | none => false)) && stillB S (i + 1) r
theorem stillB_ok {S : St} : ∀ {km : List (List SC × Bool)} {i : Nat}, stillB S i km = true → ∀ (j : Nat) (cs : List SC), km[j]? = some (cs, true) → ∃ es, S.mem[i + j]? = some (es, true) ∧ es.length = cs.length
  | [], i, _, j, cs, h => by simp at h
  | (cs0, wr0) :: km, i, hm, j, cs, h => by
    simp only [stillB, Bool.and_eq_true] at hm
    obtain ⟨h1, h3⟩ := hm
    cases j with
    | zero =>
      simp at h
      obtain ⟨rfl, rfl⟩ := h
      simp only [Bool.not_true, Bool.false_or] at h1
      split at h1
      · rename_i es w hs
        simp only [Bool.and_eq_true] at h1
        obtain ⟨rfl, h2⟩ := h1
        exact ⟨es, hs, Nat.eq_of_beq_eq_true h2⟩
      · cases h1
    | succ j =>
      obtain ⟨es, a1, a2⟩ := stillB_ok h3 j cs (by simpa using h)
      exact ⟨es, by rw [show i + (j + 1) = i + 1 + j by omega]; exact a1, a2⟩

def idR (n : Nat) : List (Nat × Nat) := (List.range n).map fun i => (i, i)
def K.done (κ : K) (v : SV) (S : St) : Option (List SI × List Nat) :=
  match getAll (mtR (mtA ⟨[], idR κ.mem.length⟩ [κ.ret] [v]) S 0 κ.mem1).i κ.m κ.mout, getAll (mtA ⟨[], idR κ.mem.length⟩ [κ.ret] [v]).r κ.mem.length (κ.mem1.length - κ.mem.length) with
  | some τ, some ρk =>
    match SV.sub (varsFrom 0 κ.m ++ τ) (List.range κ.mem.length ++ ρk) κ.ret with
    | some u => bif SV.beq u v && (nodupB (List.range κ.mem.length ++ ρk) && (doneB (varsFrom 0 κ.m ++ τ) (List.range κ.mem.length ++ ρk) S 0 κ.mem1 && (freshB κ.mem.length S ρk && (stillB S 0 κ.mem && Nat.ble κ.mem.length κ.mem1.length)))) then some (τ, ρk) else none
    | none => none
  | _, _ => none
def K.end (κ : K) (v : SV) (S : St) : Tree := match κ.done v S with
  | some x => .fin (enc x.1) st0
  | none => .bad 9
def Ask.to (A : Ask) (κ : K) : Ask := { A with fin := fun v _ env => A.post κ.id (env.take κ.m) ((dec v).map (·.val env)) }

def rngC : List SC → List (IntKind × Nat)
  | [] => []
  | .ii k (.var x) :: l => (k, x) :: rngC l
  | _ :: l => rngC l
def rngA : List SV → List (IntKind × Nat)
  | [] => []
  | .ww (.cc c) :: l => rngC [c] ++ rngA l
  | .ww (.aa cs) :: l => rngC cs ++ rngA l
  | _ :: l => rngA l
def rngM : List (List SC × Bool) → List (IntKind × Nat)
  | [] => []
  | (cs, _) :: l => rngC cs ++ rngM l
def Rng (env : List Int) : List (IntKind × Nat) → Prop
  | [] => True
  | (k, x) :: l => fits k (env.getD x 0) ∧ Rng env l
theorem Rng.append {env : List Int} : ∀ {l m : List (IntKind × Nat)}, Rng env l → Rng env m → Rng env (l ++ m)
  | [], _, _, h => h
  | (_, _) :: _, _, h1, h2 => ⟨h1.1, Rng.append h1.2 h2⟩
theorem rngC_ok {env : List Int} {β : List (Nat × Nat)} : ∀ {l : List SC} {vs : List Value}, All2 (SC.is env β) l vs → Rng env (rngC l)
  | [], _, _ => trivial
  | c :: l, [], h => h.elim
  | c :: l, v :: vs, ⟨h1, h2⟩ => by
    have ih := rngC_ok h2
    cases c with
    | ii k e =>
      cases e with
      | lit n => exact ih
      | var x =>
        obtain ⟨n, hn, hf, _⟩ := h1
        refine ⟨?_, ih⟩
        rw [show env.getD x 0 = n from hn.val]
        exact hf
    | bb e => exact ih
    | pp r o => exact ih
    | ss r o l c => exact ih
    | kk u => exact ih
theorem rngA_ok {env : List Int} {β : List (Nat × Nat)} : ∀ {l : List SV} {vs : List Value}, All2 (SV.is env β) l vs → Rng env (rngA l)
  | [], _, _ => trivial
  | c :: l, [], h => h.elim
  | c :: l, v :: vs, ⟨h1, h2⟩ => by
    have ih := rngA_ok h2
    cases c with
    | ww e =>
      cases e with
      | cc c => exact Rng.append (rngC_ok (l := [c]) (vs := [v]) ⟨h1, trivial⟩) ih
      | aa cs =>
        obtain ⟨us, _, hu⟩ := h1
        exact Rng.append (rngC_ok hu) ih
    | tt e => exact ih
theorem rngM_ok {W0 : World} {Tp : Nat → Nat → Prop} {env : List Int} {β : List (Nat × Nat)} {w : World} {mem : List (List SC × Bool)} (h : MRel W0 Tp env β mem w) : Rng env (rngM mem) := by
  have key : ∀ l : List (List SC × Bool), (∀ p, p ∈ l → p ∈ mem) → Rng env (rngM l) := by
    intro l
    induction l with
    | nil => intro _; trivial
    | cons p l ih =>
      intro hl
      obtain ⟨cs, wr⟩ := p
      refine Rng.append ?_ (ih fun q hq => hl q (List.mem_cons_of_mem _ hq))
      obtain ⟨r, hr⟩ := List.getElem?_of_mem (hl (cs, wr) (List.mem_cons_self ..))
      obtain ⟨x, _, _, hc, _⟩ := h.cell r cs wr hr
      have : All2 (SC.is env β) cs ((List.range cs.length).map fun j => (w.cell? ⟨x.1, x.2 + j, none⟩).getD default) :=
        All2.of_get fun i sc hi => by
          obtain ⟨v, hv, hs⟩ := hc i sc hi
          rw [hv]
          exact hs
      exact rngC_ok this
  exact key mem fun _ hp => hp

/-- The end of a walk, in the contract's own names. -/
theorem done_core {κ : K} {v : SV} {S : St} {τ : List SI} {ρk : List Nat} (hd : κ.done v S = some (τ, ρk)) {env ee : List Int} {β δ : List (Nat × Nat)} {w w' : World} {env' : List Int} {β' : List (Nat × Nat)} {u : Value}
    (hl : env.length = κ.m) (he : env' = env ++ ee) (hδ : β' = β ++ δ) (hnb : β.length = κ.mem.length) (hM' : MRel w (TpOf β κ.mem) env' β' S.mem w') (hv : v.is env' β' u) :
    (τ.map (·.val env')).length = κ.mout ∧ ∃ βc, Longer β βc ∧ κ.ret.is (env ++ τ.map (·.val env')) βc u ∧ MRel w (TpOf β κ.mem) (env ++ τ.map (·.val env')) βc κ.mem1 w' ∧
      (∀ i x, κ.mem.length ≤ i → βc[i]? = some x → w.heap.size ≤ x.1) := by
  unfold K.done at hd
  split at hd
  · rename_i τ' ρk' hτ hρ
    split at hd
    · rename_i uu hret
      cases hc : (SV.beq uu v && (nodupB (List.range κ.mem.length ++ ρk') && (doneB (varsFrom 0 κ.m ++ τ') (List.range κ.mem.length ++ ρk') S 0 κ.mem1 && (freshB κ.mem.length S ρk' && (stillB S 0 κ.mem && Nat.ble κ.mem.length κ.mem1.length))))) with
      | false => rw [hc, cond_false] at hd; cases hd
      | true =>
        rw [hc, cond_true] at hd
        simp only [Option.some.injEq, Prod.mk.injEq] at hd
        obtain ⟨rfl, rfl⟩ := hd
        simp only [Bool.and_eq_true] at hc
        obtain ⟨hc1, hnd, hdn, hfr, hst, hle⟩ := hc
        have hle := Nat.le_of_ble_eq_true hle
        have hvv := SV.beq_eq hc1
        subst hvv
        have hτl := getAll_len hτ
        have hρl := getAll_len hρ
        have hgetD : ∀ (r : Nat) (x : Nat × Nat), β'[r]? = some x → β'.getD r (0, 0) = x := fun r x hx => by simp [List.getD, hx]
        let βc := β ++ ρk'.map fun r => β'.getD r (0, 0)
        have hβc : ∀ (j r : Nat) (x : Nat × Nat), (List.range κ.mem.length ++ ρk')[j]? = some r → β'[r]? = some x → βc[j]? = some x := by
          intro j r x hj hx
          rcases Nat.lt_or_ge j κ.mem.length with hjl | hjl
          · rw [List.getElem?_append_left (by simpa using hjl), List.getElem?_range hjl] at hj
            injection hj with hj
            subst hj
            rw [hδ, List.getElem?_append_left (by omega)] at hx
            exact get_more hx _
          · rw [List.getElem?_append_right (by simpa using hjl)] at hj
            simp only [βc]
            rw [List.getElem?_append_right (by omega)]
            simp only [List.length_range] at hj
            rw [hnb]
            rw [List.getElem?_map, hj, Option.map_some, hgetD r x hx]
        have hdown : DownOk (varsFrom 0 κ.m ++ τ') (List.range κ.mem.length ++ ρk') (env ++ τ'.map (·.val env')) env' βc β' := by
          refine ⟨fun j e m hj hem => ?_, fun j r x hj hx => hβc j r x hj hx⟩
          have hvl : (varsFrom 0 κ.m).length = κ.m := by simp [varsFrom]
          rcases Nat.lt_or_ge j κ.m with hjl | hjl
          · rw [List.getElem?_append_left (by omega)] at hj
            simp only [varsFrom, List.getElem?_map, List.getElem?_range hjl, Option.map_some, Nat.zero_add] at hj
            injection hj with hj
            subst hj
            simp only [SI.is] at hem
            rw [he, List.getElem?_append_left (by omega)] at hem
            exact get_more hem _
          · rw [List.getElem?_append_right (by omega), hvl] at hj
            rw [List.getElem?_append_right (by omega), hl]
            rw [List.getElem?_map, hj, Option.map_some, hem.val]
        have hdone := doneB_ok hdn
        simp only [Nat.zero_add] at hdone
        have hdoneβ : ∀ (j : Nat) (cs : List SC) (wr : Bool), κ.mem1[j]? = some (cs, wr) → ∃ r' ds wr' x, (List.range κ.mem.length ++ ρk')[j]? = some r' ∧ optl (SC.sub (varsFrom 0 κ.m ++ τ') (List.range κ.mem.length ++ ρk')) cs = some ds ∧
            S.mem[r']? = some (ds, wr') ∧ (wr = true → wr' = true) ∧ β'[r']? = some x ∧ βc[j]? = some x := by
          intro j cs wr hj
          obtain ⟨r', ds, wr', a1, a2, a3, a4⟩ := hdone j cs wr hj
          obtain ⟨x, hx, _⟩ := hM'.cell r' ds wr' a3
          exact ⟨r', ds, wr', x, a1, a2, a3, a4, hx, hβc j r' x a1 hx⟩
        refine ⟨by simp [hτl], βc, ⟨_, rfl⟩, SV.down hdown hret hv, ⟨?_, ?_, ?_, hM'.kept⟩, ?_⟩
        · simp only [βc, List.length_append, List.length_map, hρl, hnb]
          omega
        · intro j cs wr hj
          obtain ⟨r', ds, wr', x, a1, a2, a3, a4, a5, a6⟩ := hdoneβ j cs wr hj
          obtain ⟨y, hy, hyl, hyc, hyf⟩ := hM'.cell r' ds wr' a3
          rw [a5] at hy
          injection hy with hy
          subst hy
          refine ⟨x, a6, hyl, fun i sc hi => ?_, fun hw i hi => hyf (a4 hw) i (by rw [optl_length a2]; exact hi)⟩
          obtain ⟨sd, hd, hsub⟩ := optl_get a2 sc hi
          obtain ⟨z, hz, hzs⟩ := hyc i sd hd
          exact ⟨z, hz, SC.down hdown hsub hzs⟩
        · intro j l x y cs ds wr ws hjl hx hy hj hll hor
          obtain ⟨r1, d1, wr1, z1, a1, a2, a3, a4, a5, a6⟩ := hdoneβ j cs wr hj
          obtain ⟨r2, d2, wr2, z2, b1, b2, b3, b4, b5, b6⟩ := hdoneβ l ds ws hll
          rw [hx] at a6
          rw [hy] at b6
          injection a6 with a6
          injection b6 with b6
          subst a6
          subst b6
          have hrr : r1 ≠ r2 := fun he => hjl (nodupB_ok hnd j l r1 a1 (by rw [b1, he]))
          have := hM'.dis r1 r2 x y d1 d2 wr1 wr2 hrr a5 b5 a3 b3 (hor.imp a4 b4)
          rw [optl_length a2, optl_length b2] at this
          exact this
        · intro i x hi hx
          simp only [βc] at hx
          rw [List.getElem?_append_right (by omega), hnb] at hx
          simp only [List.getElem?_map, Option.map_eq_some_iff] at hx
          obtain ⟨r, hr, hrx⟩ := hx
          obtain ⟨h1, c, cs, h2⟩ := freshB_ok hfr _ r hr
          obtain ⟨y, hy, hyl, hyc, hyf⟩ := hM'.cell r (c :: cs) true h2
          rw [hgetD r y hy] at hrx
          subst hrx
          rcases (hyf rfl 0 (by simp)).2 with h3 | ⟨q, cq, z, c1, c2, c3, c4, c5⟩
          · exact h3
          · exfalso
            obtain ⟨es, he1, he2⟩ := stillB_ok hst q cq c1
            rw [Nat.zero_add] at he1
            have hql : q < κ.mem.length := (List.getElem?_eq_some_iff.1 c1).1
            have hz : β'[q]? = some z := by rw [hδ]; exact get_more c2 _
            rcases hM'.dis q r z y es (c :: cs) true true (by omega) hz hy he1 h2 (.inl rfl) with d1 | d1 | d1
            · exact d1 c3.symm
            · omega
            · simp only [List.length_cons] at d1; omega
    · cases hd
  · cases hd

theorem kok_of {C : Cfg} {A : Ask} (hm : C.P.follows .mixedOrders = true) (hE : Ext C.P C.ext) (hC : ConOk C A) (hP : PcOk C A) (n : Nat) {κ : K} (hx : C.ext κ.f = 0)
    (h : ∀ env : List Int, env.length = κ.m → Rng env (rngA κ.args ++ rngM κ.mem) → A.pre κ.id env → (xcall C (fun f => xcode C n f 0) κ.f κ.args κ.st κ.end).holds (A.to κ) env) : KOk C.P A κ := by
  intro env β vs w hl hM ha hp
  have hh := h env hl (Rng.append (rngA_ok ha) (rngM_ok hM)) hp
  have hC' : ConOk C (A.to κ) := hC
  have hP' : PcOk C (A.to κ) := hP
  have hf : Facts env κ.st := ⟨hl, fun x t ht => by simp [K.st, lk] at ht, fun x hx => by simp [K.st] at hx⟩
  refine (xcall_ok hC' (code_ok (W0 := w) (Tp := TpOf β κ.mem) hm hE hC' hP' n).1 κ.f κ.args κ.st κ.end env β w vs
    (fun u w' => ∃ ys β' v, ys.length = κ.mout ∧ A.post κ.id env ys ∧ u = v ∧ Longer β β' ∧ κ.ret.is (env ++ ys) β' v ∧
      MRel w (TpOf β κ.mem) (env ++ ys) β' κ.mem1 w' ∧ (∀ i x, κ.mem.length ≤ i → β'[i]? = some x → w.heap.size ≤ x.1)) hx hf hM ha hh ?_).mono ?_
  · rintro v u S env' β' w' ⟨ee, he⟩ ⟨δ, hδ⟩ _ _ _ hM' hv hend
    unfold K.end at hend
    split at hend
    · rename_i x hd
      obtain ⟨τ, ρk⟩ := x
      have hpost : A.post κ.id env (τ.map (·.val env')) := by
        have h1 : A.post κ.id (env'.take κ.m) ((dec (enc τ)).map (·.val env')) := hend
        rw [dec_enc, he, List.take_append_of_le_length (by omega), List.take_of_length_le (by omega), ← he] at h1
        exact h1
      obtain ⟨h1, βc, h2, h3, h4, h5⟩ := done_core hd hl he hδ hM.nb hM' hv
      exact ⟨_, βc, u, h1, hpost, rfl, h2, h3, h4, h5⟩
    · exact hend.elim
  · rintro e w' ⟨u, rfl, ys, β', v, h1, h2, rfl, h3, h4, h5, h6⟩
    exact ⟨ys, β', u, h1, h2, rfl, h3, h4, h5, h6⟩
end Eng
