/-
  The walk by reckoning: a tree that holds shows what the code does; a call.
-/
import Derived.Test.YtkfojkdlojmgoaaEng13
namespace Eng
open Go Go.RowKit

/-- What the contracts say is true. -/
def ConOk (C : Cfg) (A : Ask) : Prop :=
  ∀ (f : Nat) (args : List SV) (S : St) (r : CR), C.con f args S = some r → ∀ (env : List Int) (β : List (Nat × Nat)) (vs : List Value) (w W0 : World) (Tp : Nat → Nat → Prop),
    Facts env S → MRel W0 Tp env β S.mem w → All2 (SV.is env β) args vs → A.pre r.id (r.xs.map (·.val env)) →
    Calls C.P f vs.toArray w (fun e w' => ∃ ys β' v, ys.length = r.m ∧ A.post r.id (r.xs.map (·.val env)) ys ∧ e = .returned v ∧ Longer β β' ∧ r.ret.is (env ++ ys) β' v ∧ MRel W0 Tp (env ++ ys) β' r.mem w')

theorem Calm.then {Q : Exit → Act → World → Prop} {K : Act → World → Prop} (h : Calm Q) : Calm (Exit.then K Q) :=
  ⟨fun c a w => h.pan c a w, fun ⟨a, w, hq⟩ => h.out ⟨a, w, hq⟩⟩
theorem Calm.inBlock {Q : Exit → Act → World → Prop} {id : Nat} (h : Calm Q) : Calm (Exit.inBlock id Q) :=
  ⟨fun c a w => h.pan c a w, fun ⟨a, w, hq⟩ => h.out ⟨a, w, hq⟩⟩
theorem Calm.noGoto {Q : Exit → Act → World → Prop} (h : Calm Q) : Calm (Exit.noGoto Q) :=
  ⟨fun c a w => h.pan c a w, fun ⟨a, w, hq⟩ => h.out ⟨a, w, hq⟩⟩

theorem tmOf_lk : ∀ (args : List SV) (i d : Nat), lk d (tmOf i args) = if i ≤ d then args[d - i]? else none
  | [], i, d => by simp [tmOf, lk]
  | v :: r, i, d => by
    rw [tmOf]
    by_cases h : i = d
    · subst h; rw [lk_cons_same]; simp
    · rw [lk_cons_ne _ _ h, tmOf_lk r (i + 1) d]
      by_cases h2 : i + 1 ≤ d
      · rw [if_pos h2, if_pos (by omega)]
        rw [show d - i = (d - (i + 1)) + 1 from by omega]
        simp
      · rw [if_neg h2, if_neg (by omega)]

section
variable {C : Cfg} {A : Ask} {W0 : World} {Tp : Nat → Nat → Prop}

/-- What follows a piece of code. -/
def Behind (A : Ask) (W0 : World) (Tp : Nat → Nat → Prop) (env : List Int) (β : List (Nat × Nat)) (k : SX → St → Tree) (Q : Exit → Act → World → Prop) : Prop :=
  ∀ (e : SX) (S' : St) (env' : List Int) (β' : List (Nat × Nat)) (a' : Act) (w' : World), Longer env env' → Longer β β' → FRel env' β' S' a' → MRel W0 Tp env' β' S'.mem w' →
    (k e S').holds A env' → Q e.ex a' w'

theorem Behind.more {env env' : List Int} {β β' : List (Nat × Nat)} {k : SX → St → Tree} {Q : Exit → Act → World → Prop} (h : Behind A W0 Tp env β k Q) (he : Longer env env') (hb : Longer β β') :
    Behind A W0 Tp env' β' k Q :=
  fun e S' e' b' a' w' he' hb' => h e S' e' b' a' w' (he.trans he') (hb.trans hb')

/-- Of all code at this fuel. -/
def CodeOk (C : Cfg) (A : Ask) (W0 : World) (Tp : Nat → Nat → Prop) (n : Nat) : Prop :=
  ∀ (c : Code) (S : St) (k : SX → St → Tree) (Q : Exit → Act → World → Prop) (env : List Int) (β : List (Nat × Nat)) (a : Act) (w : World),
    Calm Q → FRel env β S a → MRel W0 Tp env β S.mem w → (xcode C n c S k).holds A env → Behind A W0 Tp env β k Q → c.wp C.P Q a w
def LoopOk (C : Cfg) (A : Ask) (W0 : World) (Tp : Nat → Nat → Prop) (n : Nat) : Prop :=
  ∀ (x : Code) (S : St) (k : SX → St → Tree) (Q : Exit → Act → World → Prop) (env : List Int) (β : List (Nat × Nat)) (a : Act) (w : World),
    Calm Q → FRel env β S a → MRel W0 Tp env β S.mem w → (xcode C n (.loop x) S k).holds A env → Behind A W0 Tp env β k Q → Code.rounds C.P x Q n a w

theorem enter_frel {env : List Int} {β : List (Nat × Nat)} {S : St} (hf : Facts env S) {f : Nat} {fn : Func} {args : List SV} {vs : List Value} (ha : All2 (SV.is env β) args vs) :
    FRel env β (enterSt f fn args S) { tmps := vs.toArray ++ Array.replicate (fn.ntmps - vs.toArray.size) undef, defers := [] } := by
  have hl := ha.length
  refine ⟨hf.ne, rfl, by simp [enterSt, hl], fun d sv hd => ?_, hf.fx, hf.bt⟩
  simp only [enterSt] at hd
  rw [tmOf_lk] at hd
  simp only [Nat.zero_le, if_true, Nat.sub_zero] at hd
  obtain ⟨v, hv, hs⟩ := ha.get hd
  refine ⟨v, ?_, hs⟩
  have hlt := (List.getElem?_eq_some_iff.1 hv).1
  rw [Array.getElem?_append_left (by simpa using hlt)]
  simpa using hv

theorem xcall_ok (hC : ConOk C A) {n : Nat} (hn : CodeOk C A W0 Tp n) : XcOk C A W0 Tp (xcall C (xcode C n)) := by
  intro f args S kk env β w vs R hext hf hM hall h hk
  unfold xcall at h
  split at h
  · rename_i r hr
    obtain ⟨hp, hh⟩ := h
    refine (hC f args S r hr env β vs w W0 Tp hf hM hall hp).mono ?_
    rintro e w' ⟨ys, β', v, hl, hpost, rfl, hb, hv, hM'⟩
    refine ⟨v, rfl, hk r.ret v { S with mem := r.mem, ne := S.ne + r.m } (env ++ ys) β' w' ⟨ys, rfl⟩ hb ⟨?_, ?_, ?_⟩ rfl rfl hM' hv (hh ys hl hpost)⟩
    · simp [hf.ne, hl]
    · intro x t hx; exact get_more (hf.fx x t hx) ys
    · intro x hx
      rcases hf.bt x hx with h1 | h1
      · exact .inl (get_more h1 ys)
      · exact .inr (get_more h1 ys)
  · split at h
    · rename_i fn hfn
      split at h
      · rename_i c hc
        refine calls_of_wp hfn hc ?_
        have hcalm : Calm (bodyPost C.P fn fun e w' => ∃ u, e = Ending.returned u ∧ R u w') :=
          ⟨fun c a w hq => (by obtain ⟨_, u, hu, _⟩ := hq; cases hu), fun ⟨a, w, hq⟩ => (by obtain ⟨u, hu, _⟩ := hq; cases hu)⟩
        refine hn c _ _ _ env β _ w hcalm (enter_frel hf hall) hM h ?_
        intro e S' env' β' a' w' he hb hF' hM' hh
        have fin : (match xres C.P S' fn.results.toList with
            | some v => kk v { S with fx := S'.fx, bt := S'.bt, mem := S'.mem, ne := S'.ne }
            | none => .bad 7 : Tree).holds A env' → a'.defers = [] ∧ ∃ v, (results fn a'.tmps).run C.P w' = .ok v w' ∧ ∃ u, Ending.returned v = Ending.returned u ∧ R u w' := by
          intro hh
          split at hh
          · rename_i v hv
            obtain ⟨u, hu, hrun⟩ := xres_is (C := C) hF' hM' hv
            exact ⟨hF'.nd, u, hrun, u, rfl, hk v u { S with fx := S'.fx, bt := S'.bt, mem := S'.mem, ne := S'.ne } env' β' w' he hb ⟨hF'.ne, hF'.fx, hF'.bt⟩ rfl rfl hM' hu hh⟩
          · exact hh.elim
        cases e with
        | normal => exact fin hh
        | ret => exact fin hh
        | exit id => exact hh.elim
      · exact h.elim
    · exact h.elim

theorem arr_lit (ops : Array Oper) : ops = ops.toList.toArray := by simp

theorem code_ok (hm : C.P.follows .mixedOrders = true) (hE : Ext C.P C.ext) (hC : ConOk C A) : ∀ n, CodeOk C A W0 Tp n ∧ LoopOk C A W0 Tp n
  | 0 => ⟨fun c S k Q env β a w _ _ _ h _ => h.elim, fun x S k Q env β a w _ _ _ h _ => h.elim⟩
  | n + 1 => by
    obtain ⟨ih, il⟩ := code_ok hm hE hC n
    have loop : LoopOk C A W0 Tp (n + 1) := by
      intro x S k Q env β a w hQ hF hM h hk
      rw [rounds_succ]
      refine ih x S _ _ env β a w hQ.then hF hM h ?_
      intro e S' env' β' a' w' he hb hF' hM' hh
      cases e with
      | normal => exact il x S' k Q env' β' a' w' hQ hF' hM' hh (hk.more he hb)
      | ret => exact hk .ret S' env' β' a' w' he hb hF' hM' hh
      | exit id => exact hk (.exit id) S' env' β' a' w' he hb hF' hM' hh
    refine ⟨?_, loop⟩
    intro c S k Q env β a w hQ hF hM h hk
    cases c with
    | skip => exact wp_skip (hk .normal S env β a w (Longer.refl _) (Longer.refl _) hF hM h)
    | label l => exact wp_label (hk .normal S env β a w (Longer.refl _) (Longer.refl _) hF hM h)
    | region id ops draw =>
      have aft : After A W0 Tp env β (k .normal) (Q .normal) := fun S' env' β' a' w' he hb hF' hM' hh => hk .normal S' env' β' a' w' he hb hF' hM' hh
      cases draw
      · have hl := xops_ok hE (xcall_ok hC ih) (Q := Q) ops.toList S env β a w hF hM h aft
        have := region_still (id := id) (l := ops.toList) (tg := tagOf C.ext) (by rw [← arr_lit]; exact hl)
        rwa [← arr_lit] at this
      · simp only [xcode, cond_true] at h
        cases hp : planB ops (tagOf C.ext) (masks ops.toList [])
        · simp only [hp, cond_false] at h
          cases hsel : Region.noSelect ops
          · simp only [hsel, cond_false] at h; exact h.elim
          · simp only [hsel, cond_true] at h
            refine wp_region_held hm (xany_ok hE (xcall_ok hC ih) hsel hQ hM.drew ops.size 0 _ S env β a _ ⟨by simp, fun j => by rw [getD_replicate_false']; simp⟩ (Longer.refl _) (Longer.refl _) hF hM.drew (protOf_same _ _) h aft)
        · simp only [hp, cond_true] at h
          have hl := xops_ok hE (xcall_ok hC ih) (Q := Q) ops.toList S env β a { w with drawn := w.drawn + 1 } hF hM.drew h aft
          have := region_draw (id := id) (l := ops.toList) (tg := tagOf C.ext) hm (by rw [← arr_lit]; exact hp) hQ (by rw [← arr_lit]; exact hl)
          rwa [← arr_lit] at this
    | seq x y =>
      refine wp_seq (ih x S _ _ env β a w hQ.then hF hM h ?_)
      intro e S' env' β' a' w' he hb hF' hM' hh
      cases e with
      | normal => exact ih y S' k Q env' β' a' w' hQ hF' hM' hh (hk.more he hb)
      | ret => exact hk .ret S' env' β' a' w' he hb hF' hM' hh
      | exit id => exact hk (.exit id) S' env' β' a' w' he hb hF' hM' hh
    | cond c x y =>
      simp only [xcode] at h
      split at h
      · rename_i e hc
        obtain ⟨t, ht, he⟩ := xev_is hF hc
        have hkn := know_is hF ht
        split at h
        · rename_i t' hk'
          rw [hk'] at hkn
          have hkn : t = t' := hkn
          subst hkn
          cases t
          · exact wp_cond_false he (ih y S k Q env β a w hQ hF hM h hk)
          · exact wp_cond_true he (ih x S k Q env β a w hQ hF hM h hk)
        · rename_i v hk'
          rw [hk'] at hkn
          have hx : env[v]? = some (b01 t) := hkn
          obtain ⟨h1, h2⟩ := h
          have hbit : env[v]? = some 0 ∨ env[v]? = some 1 := by rw [hx]; cases t <;> simp [b01]
          have hg : env.getD v 0 = b01 t := by simp [hx]
          cases t
          · exact wp_cond_false he (ih y { S with fx := (v, false) :: S.fx } k Q env β a w hQ (hF.know hg hbit) hM (h2 (by rw [hg]; rfl)) hk)
          · exact wp_cond_true he (ih x { S with fx := (v, true) :: S.fx } k Q env β a w hQ (hF.know hg hbit) hM (h1 (by rw [hg]; rfl)) hk)
      · exact h.elim
    | block id x =>
      refine wp_block (ih x S _ _ env β a w hQ.inBlock hF hM h ?_)
      intro e S' env' β' a' w' he hb hF' hM' hh
      cases e with
      | normal => exact hk .normal S' env' β' a' w' he hb hF' hM' hh
      | ret => exact hk .ret S' env' β' a' w' he hb hF' hM' hh
      | exit i =>
        cases hi : Nat.beq i id
        · simp only [hi, cond_false] at hh
          have hne : i ≠ id := fun e => by subst e; simp at hi
          show (if i = id then Q .normal a' w' else Q (.exit i) a' w')
          rw [if_neg hne]
          exact hk (.exit i) S' env' β' a' w' he hb hF' hM' hh
        · simp only [hi, cond_true] at hh
          have heq := Nat.eq_of_beq_eq_true hi
          show (if i = id then Q .normal a' w' else Q (.exit i) a' w')
          rw [if_pos heq]
          exact hk .normal S' env' β' a' w' he hb hF' hM' hh
    | loop x => exact wp_loop_rounds (n + 1) (loop x S k Q env β a w hQ hF hM h hk)
    | exit id => exact wp_exit (hk (.exit id) S env β a w (Longer.refl _) (Longer.refl _) hF hM h)
    | scope x =>
      refine wp_scope_straight (ih x S _ _ env β a w hQ.noGoto hF hM h ?_)
      intro e S' env' β' a' w' he hb hF' hM' hh
      cases e with
      | normal => exact hk .normal S' env' β' a' w' he hb hF' hM' hh
      | ret => exact hk .ret S' env' β' a' w' he hb hF' hM' hh
      | exit i => exact hk (.exit i) S' env' β' a' w' he hb hF' hM' hh
    | ret => exact wp_ret (hk .ret S env β a w (Longer.refl _) (Longer.refl _) hF hM h)
    | _ => exact h.elim

/-- A call, from a tree that holds: what its ends say, of the world that they leave. -/
theorem call_ok (hm : C.P.follows .mixedOrders = true) (hE : Ext C.P C.ext) (hC : ConOk C A) (n : Nat) {f : Nat} {args : List SV} {vs : List Value} {S : St} {env : List Int} {β : List (Nat × Nat)} {w : World}
    (hext : C.ext f = 0) (hf : Facts env S) (hM : MRel W0 Tp env β S.mem w) (ha : All2 (SV.is env β) args vs) (h : (xcall C (xcode C n) f args S .fin).holds A env) :
    Calls C.P f vs.toArray w (fun e w' => ∃ u v S' env' β', e = .returned u ∧ Longer env env' ∧ Longer β β' ∧ v.is env' β' u ∧ MRel W0 Tp env' β' S'.mem w' ∧ A.fin v S' env') := by
  have := xcall_ok hC (code_ok (W0 := W0) (Tp := Tp) hm hE hC n).1 f args S .fin env β w vs
    (fun u w' => ∃ v S' env' β', Longer env env' ∧ Longer β β' ∧ v.is env' β' u ∧ MRel W0 Tp env' β' S'.mem w' ∧ A.fin v S' env') hext hf hM ha h
    (fun v u S' env' β' w' he hb _ _ _ hM' hv hh => ⟨v, S', env', β', he, hb, hv, hM', hh⟩)
  refine this.mono ?_
  rintro e w' ⟨u, rfl, v, S', env', β', h1, h2, h3, h4, h5⟩
  exact ⟨u, v, S', env', β', rfl, h1, h2, h3, h4, h5⟩
end
end Eng
