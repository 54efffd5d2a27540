/-
  The walk by reckoning: the contract of a loop from its rounds, of a region from its walk.
-/
import Derived.Test.YtakddcclpocejaaEng20
namespace Eng
open Go Go.RowKit

/-- What holds at a loop's head. -/
structure HS where
  mout : Nat
  ret : List SW
  mem1 : List (List SC × Bool)
def HS.k (p : PC) (h : HS) : K := { f := 0, args := p.args.map .ww, mem := p.mem, m := p.m, id := 0, mout := h.mout, ret := .tt h.ret, mem1 := h.mem1 }
def headSt (p : PC) (h : HS) : St := { nt := p.nt, tm := zipT p.sl h.ret, fx := [], bt := [], mem := h.mem1, ne := p.m + h.mout, fn := 0, blk := 0 }
def PC.h0 (p : PC) : HS := ⟨0, p.args, p.mem⟩

def fit (nt : Nat) (κ : K) (ds : List Nat) (S : St) : Option (List SI) :=
  match optl (slotW S) ds with
  | some l => match κ.done (.tt l) S with
    | some x => bif Nat.beq S.nt nt then some x.1 else none
    | none => none
  | none => none
def sxEq : SX → SX → Bool
  | .normal, .normal => true
  | .ret, .ret => true
  | .exit i, .exit j => Nat.beq i j
  | _, _ => false
theorem sxEq_eq {a b : SX} (h : sxEq a b = true) : a = b := by
  cases a <;> cases b <;> simp [sxEq] at h <;> first | rfl | (subst h; rfl)
def endOf (p : PC) (S : St) (e : SX) : Nat → List PX → Tree
  | _, [] => .bad 40
  | j, x :: r => bif sxEq x.e e then (match fit p.nt (x.k p) x.out S with
    | some τ => .fin (enc τ) { st0 with fn := j }
    | none => endOf p S e (j + 1) r) else endOf p S e (j + 1) r
def kend (p : PC) (h : HS) : SX → St → Tree
  | .normal, S => match fit p.nt (h.k p) p.sl S with
    | some τ => .fin (enc τ) st0
    | none => .bad 41
  | e, S => endOf p S e 1 p.ex
def Ask.rnd (A : Ask) (p : PC) (i : Nat) (h : HS) (Inv : Nat → List Int → List Int → Prop) (μ : Nat → List Int → List Int → Nat) : Ask :=
  { A with fin := fun v S e => match S.fn with
      | 0 => Inv (i + 1) (e.take p.m) ((dec v).map (·.val e)) ∧ μ (i + 1) (e.take p.m) ((dec v).map (·.val e)) < μ i (e.take p.m) ((e.drop p.m).take h.mout)
      | j + 1 => match p.ex[j]? with
        | some x => A.post x.id (e.take p.m) ((dec v).map (·.val e))
        | none => False }

section
variable {C : Cfg} {A : Ask}

/-- What the walk has come to, in the contract's own names. -/
theorem fit_ok {nt : Nat} {κ : K} {ds : List Nat} {S : St} {τ : List SI} {ret : List SW} (hret : κ.ret = .tt ret) (hd : fit nt κ ds S = some τ) {env ee : List Int} {β δ : List (Nat × Nat)} {w w' : World} {env' : List Int} {β' : List (Nat × Nat)} {a : Act}
    (hl : env.length = κ.m) (he : env' = env ++ ee) (hδ : β' = β ++ δ) (hnb : β.length = κ.mem.length) (hF : FRel env' β' S a) (hM' : MRel w (TpOf β κ.mem) env' β' S.mem w') :
    a.tmps.size = nt ∧ (τ.map (·.val env')).length = κ.mout ∧ ∃ βc rs, Longer β βc ∧ All2 (SW.is (env ++ τ.map (·.val env')) βc) ret rs ∧ Slots a ds rs ∧ MRel w (TpOf β κ.mem) (env ++ τ.map (·.val env')) βc κ.mem1 w' ∧
      (∀ i x, κ.mem.length ≤ i → βc[i]? = some x → w.heap.size ≤ x.1) := by
  unfold fit at hd
  split at hd
  · rename_i l hl'
    obtain ⟨us, hus, hsl⟩ := all2_slots hF hl'
    split at hd
    · rename_i x hx
      obtain ⟨τ', ρk⟩ := x
      cases hb : Nat.beq S.nt nt with
      | false => rw [hb, cond_false] at hd; cases hd
      | true =>
      rw [hb, cond_true] at hd
      have hb := Nat.eq_of_beq_eq_true hb
      injection hd with hd
      simp only at hd
      subst hd
      obtain ⟨h1, βc, h2, h3, h4, h5⟩ := done_core (u := .tuple us.toArray) hx hl he hδ hnb hM' ⟨us, rfl, hus⟩
      rw [hret] at h3
      obtain ⟨vs, hvs, hall⟩ := h3
      have hvs : us = vs := by
        have := Value.tuple.inj hvs
        simpa using congrArg Array.toList this
      subst hvs
      exact ⟨by rw [hF.nt, hb], h1, βc, us, h2, hall, hsl, h4, h5⟩
    · cases hd
  · cases hd

theorem endOf_ok {p : PC} {S : St} {e : SX} {A' : Ask} {i : Nat} {h0 : HS} {Inv : Nat → List Int → List Int → Prop} {μ : Nat → List Int → List Int → Nat} {env : List Int} :
    ∀ {l : List PX} {j : Nat}, (∀ k x, l[k]? = some x → p.ex[j + k]? = some x) → (endOf p S e (j + 1) l).holds (A'.rnd p i h0 Inv μ) env →
      ∃ x τ, x ∈ p.ex ∧ x.e = e ∧ fit p.nt (x.k p) x.out S = some τ ∧ A'.post x.id (env.take p.m) (τ.map (·.val env))
  | [], j, _, h => h.elim
  | x :: l, j, hl, h => by
    have rest : (endOf p S e (j + 1 + 1) l).holds (A'.rnd p i h0 Inv μ) env → ∃ x τ, x ∈ p.ex ∧ x.e = e ∧ fit p.nt (x.k p) x.out S = some τ ∧ A'.post x.id (env.take p.m) (τ.map (·.val env)) := fun h =>
      endOf_ok (h0 := h0) (fun k y hy => by
        have := hl (k + 1) y (by simpa using hy)
        rwa [show j + (k + 1) = j + 1 + k by omega] at this) h
    unfold endOf at h
    cases hb : sxEq x.e e with
    | false => rw [hb, cond_false] at h; exact rest h
    | true =>
      rw [hb, cond_true] at h
      split at h
      · rename_i τ hτ
        have hx := hl 0 x rfl
        have h1 : (match p.ex[j]? with
          | some x => A'.post x.id (env.take p.m) ((dec (enc τ)).map (·.val env))
          | none => False) := h
        rw [Nat.add_zero] at hx
        rw [hx, dec_enc] at h1
        exact ⟨x, τ, List.mem_of_getElem? hx, sxEq_eq hb, hτ, h1⟩
      · exact rest h

theorem loop_of (hm : C.P.follows .mixedOrders = true) (hE : Ext C.P C.ext) (hC : ConOk C A) (hP : PcOk C A) (n : Nat) {p : PC} {fn blk : Nat} {x : Code} (hsub : ∀ q, q ∈ pieces blk x → InF C.P fn q)
    (H : Nat → HS) (Inv : Nat → List Int → List Int → Prop) (μ : Nat → List Int → List Int → Nat) (h0 : H 0 = p.h0)
    (hst : ∀ env : List Int, env.length = p.m → Rng env (rngA (p.args.map .ww) ++ rngM p.mem) → (∀ x, x ∈ p.ex → A.pre x.id env) → Inv 0 env [])
    (hr : ∀ (i : Nat) (env ys : List Int), env.length = p.m → ys.length = (H i).mout → Rng (env ++ ys) (rngA ((H i).ret.map .ww) ++ rngM (H i).mem1) → Inv i env ys →
      (xcode C n fn blk x (headSt p (H i)) (kend p (H (i + 1)))).holds (A.rnd p i (H i) Inv μ) (env ++ ys)) : PcKOk C.P A p (.loop x) := by
  intro env β us a w Q hQ hl hM hus hnd hnt hsl hpre hq
  have main : ∀ (N i : Nat) (ys : List Int) (β' : List (Nat × Nat)) (rs : List Value) (a' : Act) (w' : World), μ i env ys = N → ys.length = (H i).mout → Inv i env ys → Longer β β' → All2 (SW.is (env ++ ys) β') (H i).ret rs →
      MRel w (TpOf β p.mem) (env ++ ys) β' (H i).mem1 w' → a'.defers = [] → a'.tmps.size = p.nt → Slots a' p.sl rs → LoopRuns C.P x Q a' w' := by
    intro N
    induction N using Nat.strongRecOn with
    | _ N ih =>
      intro i ys β1 rs a1 w1 hμ hyl hinv ⟨δ1, hδ1⟩ hrs hM1 hnd1 hnt1 hsl1
      have hh := hr i env ys hl hyl (Rng.append (rngA_ok (all2_ww hrs)) (rngM_ok hM1)) hinv
      have hF : FRel (env ++ ys) β1 (headSt p (H i)) a1 := ⟨by simp [headSt, hl, hyl], hnd1, hnt1, fun d sv hd => slots_tm hsl1 hrs d sv hd, fun y t hy => by simp [headSt, lk] at hy, fun y hy => by simp [headSt] at hy⟩
      refine LoopRuns.step ((code_ok (A := A.rnd p i (H i) Inv μ) (W0 := w) (Tp := TpOf β p.mem) hm hE hC hP n).1 fn blk x _ _ _ (env ++ ys) β1 a1 w1 hsub hQ.then hF hM1 hh ?_)
      intro e S' env' β2 a' w' ⟨ee, he⟩ ⟨δ2, hδ2⟩ hF' hM' hend
      have he' : env' = env ++ (ys ++ ee) := by rw [he]; simp
      have hδ' : β2 = β ++ (δ1 ++ δ2) := by rw [hδ2, hδ1]; simp
      have htake : env'.take p.m = env := by rw [he', List.take_append_of_le_length (by omega), List.take_of_length_le (by omega)]
      have leave : ∀ x' τ, x' ∈ p.ex → fit p.nt (x'.k p) x'.out S' = some τ → A.post x'.id (env'.take p.m) (τ.map (·.val env')) → Q x'.e.ex a' w' := by
        intro x' τ hx' hτ hpost
        obtain ⟨hz, h1, βc, rs', h2, h3, h4, h5, h6⟩ := fit_ok (κ := x'.k p) (ret := x'.ret) rfl hτ hl he' hδ' hM.nb hF' hM'
        rw [htake] at hpost
        exact hq x' hx' _ βc rs' a' w' h1 hpost h2 h3 h5 h6 hF'.nd hz h4
      have outs : ∀ e, (endOf p S' e 1 p.ex).holds (A.rnd p i (H i) Inv μ) env' → Q e.ex a' w' := by
        intro e hh
        obtain ⟨x', τ, hx', hxe, hτ, hpost⟩ := endOf_ok (j := 0) (fun k y hy => by rwa [Nat.zero_add]) hh
        rw [← hxe]
        exact leave x' τ hx' hτ hpost
      cases e with
      | ret => exact outs .ret hend
      | exit id => exact outs (.exit id) hend
      | normal =>
        simp only [kend] at hend
        split at hend
        · rename_i τ hτ
          obtain ⟨hz, h1, βc, rs', h2, h3, h4, h5, h6⟩ := fit_ok (κ := (H (i + 1)).k p) (ret := (H (i + 1)).ret) rfl hτ hl he' hδ' hM.nb hF' hM'
          have hend : Inv (i + 1) (env'.take p.m) ((dec (enc τ)).map (·.val env')) ∧ μ (i + 1) (env'.take p.m) ((dec (enc τ)).map (·.val env')) < μ i (env'.take p.m) ((env'.drop p.m).take (H i).mout) := hend
          have hdrop : (env'.drop p.m).take (H i).mout = ys := by
            rw [he', List.drop_append_of_le_length (by omega), List.drop_of_length_le (by omega), List.nil_append, List.take_append_of_le_length (by omega), List.take_of_length_le (by omega)]
          rw [dec_enc, htake, hdrop] at hend
          exact ih _ (by rw [← hμ]; exact hend.2) (i + 1) _ βc rs' a' w' rfl h1 hend.1 h2 h3 h5 hF'.nd hz h4
        · exact hend.elim
  have hr0 : (H 0).ret = p.args := by rw [h0]; rfl
  have hm0 : (H 0).mem1 = p.mem := by rw [h0]; rfl
  exact main _ 0 [] β us a w rfl (by rw [h0]; rfl) (hst env hl (Rng.append (rngA_ok (all2_ww hus)) (rngM_ok hM)) hpre) (Longer.refl _) (by rw [hr0, List.append_nil]; exact hus) (by rw [hm0, List.append_nil]; exact hM) hnd hnt hsl

/-- The contract of a region. -/
theorem piece_of (hm : C.P.follows .mixedOrders = true) (hE : Ext C.P C.ext) (hC : ConOk C A) (hP : PcOk C A) (n : Nat) {p : PC} {fn blk : Nat} {c : Code} (hsub : ∀ q, q ∈ pieces blk c → InF C.P fn q)
    (hnl : ∀ Q a w, c.wp C.P Q a w → PieceWp C.P c Q a w)
    (hr : ∀ env : List Int, env.length = p.m → Rng env (rngA (p.args.map .ww) ++ rngM p.mem) → (∀ x, x ∈ p.ex → A.pre x.id env) →
      (xcode C n fn blk c (headSt p p.h0) (fun e S => endOf p S e 1 p.ex)).holds (A.rnd p 0 p.h0 (fun _ _ _ => True) (fun _ _ _ => 0)) env) : PcKOk C.P A p c := by
  intro env β us a w Q hQ hl hM hus hnd hnt hsl hpre hq
  have hh := hr env hl (Rng.append (rngA_ok (all2_ww hus)) (rngM_ok hM)) hpre
  have hF : FRel env β (headSt p p.h0) a := ⟨by simp [headSt, PC.h0, hl], hnd, hnt, fun d sv hd => slots_tm hsl hus d sv hd, fun y t hy => by simp [headSt, lk] at hy, fun y hy => by simp [headSt] at hy⟩
  refine hnl Q a w ((code_ok (A := A.rnd p 0 p.h0 (fun _ _ _ => True) (fun _ _ _ => 0)) (W0 := w) (Tp := TpOf β p.mem) hm hE hC hP n).1 fn blk c _ _ _ env β a w hsub hQ hF hM hh ?_)
  intro e S' env' β2 a' w' ⟨ee, he⟩ ⟨δ2, hδ2⟩ hF' hM' hend
  have htake : env'.take p.m = env := by rw [he, List.take_append_of_le_length (by omega), List.take_of_length_le (by omega)]
  obtain ⟨x', τ, hx', hxe, hτ, hpost⟩ := endOf_ok (j := 0) (fun k y hy => by rwa [Nat.zero_add]) hend
  obtain ⟨hz, h1, βc, rs', h2, h3, h4, h5, h6⟩ := fit_ok (κ := x'.k p) (ret := x'.ret) rfl hτ hl he hδ2 hM.nb hF' hM'
  rw [htake] at hpost
  rw [← hxe]
  exact hq x' hx' _ βc rs' a' w' h1 hpost h2 h3 h5 h6 hF'.nd hz h4
end
end Eng
