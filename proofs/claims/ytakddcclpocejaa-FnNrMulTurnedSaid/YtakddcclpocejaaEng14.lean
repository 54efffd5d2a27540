/-
  The walk by reckoning: a tree that holds shows what the code does; a call.
-/
import Derived.Test.YtakddcclpocejaaEng13
namespace Eng
open Go Go.RowKit

/-- What the contracts say is true. -/
def ConOk (C : Cfg) (A : Ask) : Prop :=
  ∀ (f : Nat) (args : List SV) (S : St) (r : CR), C.con f args S = some r → ∀ (env : List Int) (β : List (Nat × Nat)) (vs : List Value) (w W0 : World) (Tp : Nat → Nat → Prop),
    Facts env S → MRel W0 Tp env β S.mem w → All2 (SV.is env β) args vs → A.pre r.id (r.xs.map (·.val env)) →
    Calls C.P f vs.toArray w (fun e w' => ∃ ys β' v, ys.length = r.m ∧ A.post r.id (r.xs.map (·.val env)) ys ∧ e = .returned v ∧ Longer β β' ∧ r.ret.is (env ++ ys) β' v ∧ MRel W0 Tp (env ++ ys) β' r.mem w')

/-- The rounds of a loop, however many. -/
def LoopRuns (P : Program) (c : Code) (Q : Exit → Act → World → Prop) (a : Act) (w : World) : Prop :=
  ∀ R : Act → World → Prop, (∀ a w, c.wp P (Exit.then R Q) a w → R a w) → R a w
theorem LoopRuns.step {P : Program} {c : Code} {Q : Exit → Act → World → Prop} {a : Act} {w : World} (h : c.wp P (Exit.then (LoopRuns P c Q) Q) a w) : LoopRuns P c Q a w := by
  intro R hR
  refine hR a w (Code.wp_mono ?_ h)
  intro e a' w' he
  cases e with
  | normal => exact he R hR
  | _ => exact he
theorem LoopRuns.loop {P : Program} {c : Code} {Q : Exit → Act → World → Prop} {a : Act} {w : World} (h : LoopRuns P c Q a w) : (Code.loop c).wp P Q a w := by
  intro b k cs
  obtain ⟨e, a', w', hq, harr⟩ := h (fun a w => ∃ e a' w', Q e a' w' ∧ Arrives P (lone (b.at a (.code c :: .inLoop c :: k)) cs w) b k cs e a' w') (by
    intro a w h
    obtain ⟨e, a₁, w₁, hq, harr⟩ := h b (.inLoop c :: k) cs
    cases e with
    | normal =>
      obtain ⟨e₂, a₂, w₂, hq₂, harr₂⟩ := hq
      exact ⟨e₂, a₂, w₂, hq₂, .of_steps (Steps.trans harr (.one step_inLoop)) harr₂⟩
    | exit id => exact ⟨_, a₁, w₁, hq, .pass (x := .inLoop c) rfl (fun _ _ => .inl (by simp)) harr⟩
    | goto l => exact ⟨_, a₁, w₁, hq, .pass (x := .inLoop c) rfl (fun _ _ => .inl (by simp)) harr⟩
    | ret => exact ⟨_, a₁, w₁, hq, .pass (x := .inLoop c) rfl (fun _ _ => .inl (by simp)) harr⟩
    | panic ch => exact ⟨_, a₁, w₁, hq, .pass (x := .inLoop c) rfl (fun _ _ => .inl (by simp)) harr⟩
    | outgrown => exact ⟨_, a₁, w₁, hq, .pass (x := .inLoop c) rfl (fun _ _ => .inl (by simp)) harr⟩)
  exact ⟨e, a', w', hq, .of_steps (.one step_loop) harr⟩
/-- What is shown of a piece: of a loop, its rounds. -/
def PieceWp (P : Program) (c : Code) (Q : Exit → Act → World → Prop) (a : Act) (w : World) : Prop :=
  match c with
  | .loop x => LoopRuns P x Q a w
  | c => c.wp P Q a w
theorem PieceWp.wp {P : Program} {c : Code} {Q : Exit → Act → World → Prop} {a : Act} {w : World} (h : PieceWp P c Q a w) : c.wp P Q a w := by
  cases c <;> first | exact h | exact LoopRuns.loop h

/-- What the contracts of pieces say is true. -/
def PcOk (C : Cfg) (A : Ask) : Prop :=
  ∀ (fn key : Nat) (c : Code) (S : St) (l : List PR), InF C.P fn (key, c) → C.pcon fn key S = some l → ∀ (env : List Int) (β : List (Nat × Nat)) (a : Act) (w W0 : World) (Tp : Nat → Nat → Prop) (Q : Exit → Act → World → Prop),
    Calm Q → FRel env β S a → MRel W0 Tp env β S.mem w → (∀ r, r ∈ l → A.pre r.id (r.xs.map (·.val env))) →
    (∀ r, r ∈ l → ∀ (ys : List Int) (β' : List (Nat × Nat)) (a' : Act) (w' : World), ys.length = r.m → A.post r.id (r.xs.map (·.val env)) ys → Longer β β' →
      FRel (env ++ ys) β' { S with tm := r.tm, mem := r.mem, ne := S.ne + r.m } a' → MRel W0 Tp (env ++ ys) β' r.mem w' → Q r.e.ex a' w') → PieceWp C.P c Q a w

theorem Calm.then {Q : Exit → Act → World → Prop} {K : Act → World → Prop} (h : Calm Q) : Calm (Exit.then K Q) :=
  ⟨fun c a w => h.pan c a w, fun ⟨a, w, hq⟩ => h.out ⟨a, w, hq⟩⟩
theorem Calm.inBlock {Q : Exit → Act → World → Prop} {id : Nat} (h : Calm Q) : Calm (Exit.inBlock id Q) :=
  ⟨fun c a w => h.pan c a w, fun ⟨a, w, hq⟩ => h.out ⟨a, w, hq⟩⟩
theorem Calm.noGoto {Q : Exit → Act → World → Prop} (h : Calm Q) : Calm (Exit.noGoto Q) :=
  ⟨fun c a w => h.pan c a w, fun ⟨a, w, hq⟩ => h.out ⟨a, w, hq⟩⟩

theorem tmOf_lk : ∀ (args : List SV) (i d : Nat), lk d (tmOf i args) = if i ≤ d then args[d - i]? else none
  | [], i, d => by simp [tmOf, lk]
  | v :: r, i, d => by
    rw [tmOf]
    by_cases h : i = d
    · subst h; rw [lk_cons_same]; simp
    · rw [lk_cons_ne _ _ h, tmOf_lk r (i + 1) d]
      by_cases h2 : i + 1 ≤ d
      · rw [if_pos h2, if_pos (by omega)]
        rw [show d - i = (d - (i + 1)) + 1 from by omega]
        simp
      · rw [if_neg h2, if_neg (by omega)]

section
variable {C : Cfg} {A : Ask} {W0 : World} {Tp : Nat → Nat → Prop}

/-- What follows a piece of code. -/
def Behind (A : Ask) (W0 : World) (Tp : Nat → Nat → Prop) (env : List Int) (β : List (Nat × Nat)) (k : SX → St → Tree) (Q : Exit → Act → World → Prop) : Prop :=
  ∀ (e : SX) (S' : St) (env' : List Int) (β' : List (Nat × Nat)) (a' : Act) (w' : World), Longer env env' → Longer β β' → FRel env' β' S' a' → MRel W0 Tp env' β' S'.mem w' →
    (k e S').holds A env' → Q e.ex a' w'

theorem Behind.more {env env' : List Int} {β β' : List (Nat × Nat)} {k : SX → St → Tree} {Q : Exit → Act → World → Prop} (h : Behind A W0 Tp env β k Q) (he : Longer env env') (hb : Longer β β') :
    Behind A W0 Tp env' β' k Q :=
  fun e S' e' b' a' w' he' hb' => h e S' e' b' a' w' (he.trans he') (hb.trans hb')

/-- Of all code at this fuel. -/
def CodeOk (C : Cfg) (A : Ask) (W0 : World) (Tp : Nat → Nat → Prop) (n : Nat) : Prop :=
  ∀ (fn blk : Nat) (c : Code) (S : St) (k : SX → St → Tree) (Q : Exit → Act → World → Prop) (env : List Int) (β : List (Nat × Nat)) (a : Act) (w : World), (∀ p, p ∈ pieces blk c → InF C.P fn p) →
    Calm Q → FRel env β S a → MRel W0 Tp env β S.mem w → (xcode C n fn blk c S k).holds A env → Behind A W0 Tp env β k Q → c.wp C.P Q a w
def LoopOk (C : Cfg) (A : Ask) (W0 : World) (Tp : Nat → Nat → Prop) (n : Nat) : Prop :=
  ∀ (fn blk : Nat) (x : Code) (S : St) (k : SX → St → Tree) (Q : Exit → Act → World → Prop) (env : List Int) (β : List (Nat × Nat)) (a : Act) (w : World), (∀ p, p ∈ pieces blk (.loop x) → InF C.P fn p) →
    Calm Q → FRel env β S a → MRel W0 Tp env β S.mem w → (xcode C n fn blk (.loop x) S k).holds A env → Behind A W0 Tp env β k Q → LoopRuns C.P x Q a w

theorem enter_frel {env : List Int} {β : List (Nat × Nat)} {S : St} (hf : Facts env S) {f : Nat} {fn : Func} {args : List SV} {vs : List Value} (ha : All2 (SV.is env β) args vs) :
    FRel env β (enterSt f fn args S) { tmps := vs.toArray ++ Array.replicate (fn.ntmps - vs.toArray.size) undef, defers := [] } := by
  have hl := ha.length
  refine ⟨hf.ne, rfl, by simp [enterSt, hl], fun d sv hd => ?_, hf.fx, hf.bt⟩
  simp only [enterSt] at hd
  rw [tmOf_lk] at hd
  simp only [Nat.zero_le, if_true, Nat.sub_zero] at hd
  obtain ⟨v, hv, hs⟩ := ha.get hd
  refine ⟨v, ?_, hs⟩
  have hlt := (List.getElem?_eq_some_iff.1 hv).1
  rw [Array.getElem?_append_left (by simpa using hlt)]
  simpa using hv

theorem xcall_ok (hC : ConOk C A) {n : Nat} (hn : CodeOk C A W0 Tp n) : XcOk C A W0 Tp (xcall C (fun f => xcode C n f 0)) := by
  intro f args S kk env β w vs R hext hf hM hall h hk
  unfold xcall at h
  split at h
  · rename_i r hr
    obtain ⟨hp, hh⟩ := h
    refine (hC f args S r hr env β vs w W0 Tp hf hM hall hp).mono ?_
    rintro e w' ⟨ys, β', v, hl, hpost, rfl, hb, hv, hM'⟩
    refine ⟨v, rfl, hk r.ret v { S with mem := r.mem, ne := S.ne + r.m } (env ++ ys) β' w' ⟨ys, rfl⟩ hb ⟨?_, ?_, ?_⟩ rfl rfl hM' hv (hh ys hl hpost)⟩
    · simp [hf.ne, hl]
    · intro x t hx; exact get_more (hf.fx x t hx) ys
    · intro x hx
      rcases hf.bt x hx with h1 | h1
      · exact .inl (get_more h1 ys)
      · exact .inr (get_more h1 ys)
  · split at h
    · rename_i fn hfn
      split at h
      · rename_i c hc
        refine calls_of_wp hfn hc ?_
        have hcalm : Calm (bodyPost C.P fn fun e w' => ∃ u, e = Ending.returned u ∧ R u w') :=
          ⟨fun c a w hq => (by obtain ⟨_, u, hu, _⟩ := hq; cases hu), fun ⟨a, w, hq⟩ => (by obtain ⟨u, hu, _⟩ := hq; cases hu)⟩
        refine hn f 0 c _ _ _ env β _ w (fun p hp => ⟨fn, c, hfn, hc, hp⟩) hcalm (enter_frel hf hall) hM h ?_
        intro e S' env' β' a' w' he hb hF' hM' hh
        have fin : (match xres C.P S' fn.results.toList with
            | some v => kk v { S with fx := S'.fx, bt := S'.bt, mem := S'.mem, ne := S'.ne }
            | none => .bad 7 : Tree).holds A env' → a'.defers = [] ∧ ∃ v, (results fn a'.tmps).run C.P w' = .ok v w' ∧ ∃ u, Ending.returned v = Ending.returned u ∧ R u w' := by
          intro hh
          split at hh
          · rename_i v hv
            obtain ⟨u, hu, hrun⟩ := xres_is (C := C) hF' hM' hv
            exact ⟨hF'.nd, u, hrun, u, rfl, hk v u { S with fx := S'.fx, bt := S'.bt, mem := S'.mem, ne := S'.ne } env' β' w' he hb ⟨hF'.ne, hF'.fx, hF'.bt⟩ rfl rfl hM' hu hh⟩
          · exact hh.elim
        cases e with
        | normal => exact fin hh
        | ret => exact fin hh
        | exit id => exact hh.elim
      · exact h.elim
    · exact h.elim

theorem arr_lit (ops : Array Oper) : ops = ops.toList.toArray := by simp

theorem pr_ok (hP : PcOk C A) {fn key : Nat} {c : Code} {S : St} {l : List PR} {k : SX → St → Tree} {Q : Exit → Act → World → Prop} {env : List Int} {β : List (Nat × Nat)} {a : Act} {w : World}
    (hin : InF C.P fn (key, c)) (hl : C.pcon fn key S = some l) (hQ : Calm Q) (hF : FRel env β S a) (hM : MRel W0 Tp env β S.mem w) (h : (allT (l.map (prTree S k))).holds A env) (hk : Behind A W0 Tp env β k Q) :
    PieceWp C.P c Q a w := by
  have hT := fun r hr => allT_holds h (prTree S k r) (List.mem_map.2 ⟨r, hr, rfl⟩)
  exact hP fn key c S l hin hl env β a w W0 Tp Q hQ hF hM (fun r hr => (hT r hr).1) fun r hr ys β' a' w' hyl hpost hb hF' hM' =>
    hk r.e _ (env ++ ys) β' a' w' ⟨ys, rfl⟩ hb hF' hM' ((hT r hr).2 ys hyl hpost)

theorem code_ok (hm : C.P.follows .mixedOrders = true) (hE : Ext C.P C.ext) (hC : ConOk C A) (hP : PcOk C A) : ∀ n, CodeOk C A W0 Tp n ∧ LoopOk C A W0 Tp n
  | 0 => ⟨fun fn blk c S k Q env β a w _ _ _ _ h _ => h.elim, fun fn blk x S k Q env β a w _ _ _ _ h _ => h.elim⟩
  | n + 1 => by
    obtain ⟨ih, il⟩ := code_ok hm hE hC hP n
    have loop : LoopOk C A W0 Tp (n + 1) := by
      intro fn blk x S k Q env β a w hsub hQ hF hM h hk
      simp only [xcode] at h
      split at h
      · rename_i l hl
        exact pr_ok hP (hsub _ (List.mem_cons_self ..)) hl hQ hF hM h hk
      · refine LoopRuns.step (ih fn blk x S _ _ env β a w (fun p hp => hsub p (List.mem_cons_of_mem _ hp)) hQ.then hF hM h ?_)
        intro e S' env' β' a' w' he hb hF' hM' hh
        cases e with
        | normal => exact il fn blk x S' k Q env' β' a' w' hsub hQ hF' hM' hh (hk.more he hb)
        | ret => exact hk .ret S' env' β' a' w' he hb hF' hM' hh
        | exit id => exact hk (.exit id) S' env' β' a' w' he hb hF' hM' hh
    refine ⟨?_, loop⟩
    intro fn blk c S k Q env β a w hsub hQ hF hM h hk
    cases c with
    | skip => exact wp_skip (hk .normal S env β a w (Longer.refl _) (Longer.refl _) hF hM h)
    | label l => exact wp_label (hk .normal S env β a w (Longer.refl _) (Longer.refl _) hF hM h)
    | region id ops draw =>
      have aft : After A W0 Tp env β (k .normal) (Q .normal) := fun S' env' β' a' w' he hb hF' hM' hh => hk .normal S' env' β' a' w' he hb hF' hM' hh
      simp only [xcode] at h
      split at h
      · rename_i l hl
        exact (pr_ok hP (hsub _ (List.mem_cons_self ..)) hl hQ hF hM h hk).wp
      cases draw
      · simp only [cond_false] at h
        have hl := xops_ok hE (xcall_ok hC ih) (Q := Q) ops.toList S env β a w hF hM h aft
        have := region_still (id := id) (l := ops.toList) (tg := tagOf C.ext) (by rw [← arr_lit]; exact hl)
        rwa [← arr_lit] at this
      · simp only [cond_true] at h
        cases hp : planB ops (tagOf C.ext) (masks ops.toList [])
        · simp only [hp, cond_false] at h
          cases hsel : Region.noSelect ops
          · simp only [hsel, cond_false] at h; exact h.elim
          · simp only [hsel, cond_true] at h
            refine wp_region_held hm (xany_ok hE (xcall_ok hC ih) hsel hQ hM.drew ops.size 0 _ S env β a _ ⟨by simp, fun j => by rw [getD_replicate_false']; simp⟩ (Longer.refl _) (Longer.refl _) hF hM.drew (protOf_same _ _) h aft)
        · simp only [hp, cond_true] at h
          have hl := xops_ok hE (xcall_ok hC ih) (Q := Q) ops.toList S env β a { w with drawn := w.drawn + 1 } hF hM.drew h aft
          have := region_draw (id := id) (l := ops.toList) (tg := tagOf C.ext) hm (by rw [← arr_lit]; exact hp) hQ (by rw [← arr_lit]; exact hl)
          rwa [← arr_lit] at this
    | seq x y =>
      refine wp_seq (ih fn blk x S _ _ env β a w (fun p hp => hsub p (List.mem_append_left _ hp)) hQ.then hF hM h ?_)
      intro e S' env' β' a' w' he hb hF' hM' hh
      cases e with
      | normal => exact ih fn blk y S' k Q env' β' a' w' (fun p hp => hsub p (List.mem_append_right _ hp)) hQ hF' hM' hh (hk.more he hb)
      | ret => exact hk .ret S' env' β' a' w' he hb hF' hM' hh
      | exit id => exact hk (.exit id) S' env' β' a' w' he hb hF' hM' hh
    | cond c x y =>
      simp only [xcode] at h
      split at h
      · rename_i e hc
        obtain ⟨t, ht, he⟩ := xev_is hF hc
        have hkn := know_is hF ht
        split at h
        · rename_i t' hk'
          rw [hk'] at hkn
          have hkn : t = t' := hkn
          subst hkn
          cases t
          · exact wp_cond_false he (ih fn blk y S k Q env β a w (fun p hp => hsub p (List.mem_append_right _ hp)) hQ hF hM h hk)
          · exact wp_cond_true he (ih fn blk x S k Q env β a w (fun p hp => hsub p (List.mem_append_left _ hp)) hQ hF hM h hk)
        · rename_i v hk'
          rw [hk'] at hkn
          have hx : env[v]? = some (b01 t) := hkn
          obtain ⟨h1, h2⟩ := h
          have hbit : env[v]? = some 0 ∨ env[v]? = some 1 := by rw [hx]; cases t <;> simp [b01]
          have hg : env.getD v 0 = b01 t := by simp [hx]
          cases t
          · exact wp_cond_false he (ih fn blk y { S with fx := (v, false) :: S.fx } k Q env β a w (fun p hp => hsub p (List.mem_append_right _ hp)) hQ (hF.know hg hbit) hM (h2 (by rw [hg]; rfl)) hk)
          · exact wp_cond_true he (ih fn blk x { S with fx := (v, true) :: S.fx } k Q env β a w (fun p hp => hsub p (List.mem_append_left _ hp)) hQ (hF.know hg hbit) hM (h1 (by rw [hg]; rfl)) hk)
      · exact h.elim
    | block id x =>
      refine wp_block (ih fn id x S _ _ env β a w hsub hQ.inBlock hF hM h ?_)
      intro e S' env' β' a' w' he hb hF' hM' hh
      cases e with
      | normal => exact hk .normal S' env' β' a' w' he hb hF' hM' hh
      | ret => exact hk .ret S' env' β' a' w' he hb hF' hM' hh
      | exit i =>
        cases hi : Nat.beq i id
        · simp only [hi, cond_false] at hh
          have hne : i ≠ id := fun e => by subst e; simp at hi
          show (if i = id then Q .normal a' w' else Q (.exit i) a' w')
          rw [if_neg hne]
          exact hk (.exit i) S' env' β' a' w' he hb hF' hM' hh
        · simp only [hi, cond_true] at hh
          have heq := Nat.eq_of_beq_eq_true hi
          show (if i = id then Q .normal a' w' else Q (.exit i) a' w')
          rw [if_pos heq]
          exact hk .normal S' env' β' a' w' he hb hF' hM' hh
    | loop x => exact LoopRuns.loop (loop fn blk x S k Q env β a w hsub hQ hF hM h hk)
    | exit id => exact wp_exit (hk (.exit id) S env β a w (Longer.refl _) (Longer.refl _) hF hM h)
    | scope x =>
      refine wp_scope_straight (ih fn blk x S _ _ env β a w hsub hQ.noGoto hF hM h ?_)
      intro e S' env' β' a' w' he hb hF' hM' hh
      cases e with
      | normal => exact hk .normal S' env' β' a' w' he hb hF' hM' hh
      | ret => exact hk .ret S' env' β' a' w' he hb hF' hM' hh
      | exit i => exact hk (.exit i) S' env' β' a' w' he hb hF' hM' hh
    | ret => exact wp_ret (hk .ret S env β a w (Longer.refl _) (Longer.refl _) hF hM h)
    | _ => exact h.elim

end
end Eng
