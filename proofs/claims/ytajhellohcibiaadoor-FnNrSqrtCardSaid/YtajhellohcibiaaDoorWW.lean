/-
  The walk by reckoning with contracts that hold only in worlds in which something lies (package-level variables, say), where the caller leaves that as it is.
-/
import Derived.Test.YtajhellohcibiaaDoorEngC
import Derived.Test.YtajhellohcibiaaDoorWG
namespace Eng
open Go Go.RowKit
def ConAt (C : Cfg) (A : Ask) (W0 : World) (Tp : Nat → Nat → Prop) : Prop :=
  ∀ (f : Nat) (args : List SV) (S : St) (r : CR), C.con f args S = some r → ∀ (env : List Int) (β : List (Nat × Nat)) (vs : List Value) (w : World),
    Facts env S → MRel W0 Tp env β S.mem w → All2 (SV.is env β) args vs → A.pre r.id (r.xs.map (·.val env)) →
    Calls C.P f vs.toArray w (fun e w' => ∃ ys β' v, ys.length = r.m ∧ A.post r.id (r.xs.map (·.val env)) ys ∧ e = .returned v ∧ Longer β β' ∧ r.ret.is (env ++ ys) β' v ∧ MRel W0 Tp (env ++ ys) β' r.mem w')
section
variable {C : Cfg} {A : Ask} {W0 : World} {Tp : Nat → Nat → Prop}
theorem xcallW_ok (hC : ConAt C A W0 Tp) {n : Nat} (hn : CodeOk C A W0 Tp n) : XcOk C A W0 Tp (xcall C (fun f => xcode C n f 0)) := by
  intro f args S kk env β w vs R hext hf hM hall h hk
  unfold xcall at h
  split at h
  · rename_i r hr
    obtain ⟨hp, hh⟩ := h
    refine (hC f args S r hr env β vs w hf hM hall hp).mono ?_
    rintro e w' ⟨ys, β', v, hl, hpost, rfl, hb, hv, hM'⟩
    refine ⟨v, rfl, hk r.ret v { S with mem := r.mem, ne := S.ne + r.m } (env ++ ys) β' w' ⟨ys, rfl⟩ hb ⟨?_, ?_, ?_⟩ rfl rfl hM' hv (hh ys hl hpost)⟩
    · simp [hf.ne, hl]
    · intro x t hx; exact get_more (hf.fx x t hx) ys
    · intro x hx
      rcases hf.bt x hx with h1 | h1
      · exact .inl (get_more h1 ys)
      · exact .inr (get_more h1 ys)
  · split at h
    · rename_i fn hfn
      split at h
      · rename_i c hc
        refine calls_of_wp hfn hc ?_
        have hcalm : Calm (bodyPost C.P fn fun e w' => ∃ u, e = Ending.returned u ∧ R u w') :=
          ⟨fun c a w hq => (by obtain ⟨_, u, hu, _⟩ := hq; cases hu), fun ⟨a, w, hq⟩ => (by obtain ⟨u, hu, _⟩ := hq; cases hu)⟩
        refine hn f 0 c _ _ _ env β _ w (fun p hp => ⟨fn, c, hfn, hc, hp⟩) hcalm (enter_frel hf hall) hM h ?_
        intro e S' env' β' a' w' he hb hF' hM' hh
        have fin : (match xres C.P S' fn.results.toList with
            | some v => kk v { S with fx := S'.fx, bt := S'.bt, mem := S'.mem, ne := S'.ne }
            | none => .bad 7 : Tree).holds A env' → a'.defers = [] ∧ ∃ v, (results fn a'.tmps).run C.P w' = .ok v w' ∧ ∃ u, Ending.returned v = Ending.returned u ∧ R u w' := by
          intro hh
          split at hh
          · rename_i v hv
            obtain ⟨u, hu, hrun⟩ := xres_is (C := C) hF' hM' hv
            exact ⟨hF'.nd, u, hrun, u, rfl, hk v u { S with fx := S'.fx, bt := S'.bt, mem := S'.mem, ne := S'.ne } env' β' w' he hb ⟨hF'.ne, hF'.fx, hF'.bt⟩ rfl rfl hM' hu hh⟩
          · exact hh.elim
        cases e with
        | normal => exact fin hh
        | ret => exact fin hh
        | exit id => exact hh.elim
      · exact h.elim
    · exact h.elim

theorem codeW_ok (hm : C.P.follows .mixedOrders = true) (hE : Ext C.P C.ext) (hC : ConAt C A W0 Tp) (hP : PcOk C A) : ∀ n, CodeOk C A W0 Tp n ∧ LoopOk C A W0 Tp n
  | 0 => ⟨fun fn blk c S k Q env β a w _ _ _ _ h _ => h.elim, fun fn blk x S k Q env β a w _ _ _ _ h _ => h.elim⟩
  | n + 1 => by
    obtain ⟨ih, il⟩ := codeW_ok hm hE hC hP n
    have loop : LoopOk C A W0 Tp (n + 1) := by
      intro fn blk x S k Q env β a w hsub hQ hF hM h hk
      simp only [xcode] at h
      split at h
      · rename_i l hl
        exact pr_ok hP (hsub _ (List.mem_cons_self ..)) hl hQ hF hM h hk
      · refine LoopRuns.step (ih fn blk x S _ _ env β a w (fun p hp => hsub p (List.mem_cons_of_mem _ hp)) hQ.then hF hM h ?_)
        intro e S' env' β' a' w' he hb hF' hM' hh
        cases e with
        | normal => exact il fn blk x S' k Q env' β' a' w' hsub hQ hF' hM' hh (hk.more he hb)
        | ret => exact hk .ret S' env' β' a' w' he hb hF' hM' hh
        | exit id => exact hk (.exit id) S' env' β' a' w' he hb hF' hM' hh
    refine ⟨?_, loop⟩
    intro fn blk c S k Q env β a w hsub hQ hF hM h hk
    cases c with
    | skip => exact wp_skip (hk .normal S env β a w (Longer.refl _) (Longer.refl _) hF hM h)
    | label l => exact wp_label (hk .normal S env β a w (Longer.refl _) (Longer.refl _) hF hM h)
    | region id ops draw =>
      have aft : After A W0 Tp env β (k .normal) (Q .normal) := fun S' env' β' a' w' he hb hF' hM' hh => hk .normal S' env' β' a' w' he hb hF' hM' hh
      simp only [xcode] at h
      split at h
      · rename_i l hl
        exact (pr_ok hP (hsub _ (List.mem_cons_self ..)) hl hQ hF hM h hk).wp
      cases draw
      · simp only [cond_false] at h
        have hl := xops_ok hE (xcallW_ok hC ih) (Q := Q) ops.toList S env β a w hF hM h aft
        have := region_still (id := id) (l := ops.toList) (tg := tagOf C.ext) (by rw [← arr_lit]; exact hl)
        rwa [← arr_lit] at this
      · simp only [cond_true] at h
        cases hp : planB ops (tagOf C.ext) (masks ops.toList [])
        · simp only [hp, cond_false] at h
          cases hsel : Region.noSelect ops
          · simp only [hsel, cond_false] at h; exact h.elim
          · simp only [hsel, cond_true] at h
            refine wp_region_held hm (xany_ok hE (xcallW_ok hC ih) hsel hQ hM.drew ops.size 0 _ S env β a _ ⟨by simp, fun j => by rw [getD_replicate_false']; simp⟩ (Longer.refl _) (Longer.refl _) hF hM.drew (protOf_same _ _) h aft)
        · simp only [hp, cond_true] at h
          have hl := xops_ok hE (xcallW_ok hC ih) (Q := Q) ops.toList S env β a { w with drawn := w.drawn + 1 } hF hM.drew h aft
          have := region_draw (id := id) (l := ops.toList) (tg := tagOf C.ext) hm (by rw [← arr_lit]; exact hp) hQ (by rw [← arr_lit]; exact hl)
          rwa [← arr_lit] at this
    | seq x y =>
      refine wp_seq (ih fn blk x S _ _ env β a w (fun p hp => hsub p (List.mem_append_left _ hp)) hQ.then hF hM h ?_)
      intro e S' env' β' a' w' he hb hF' hM' hh
      cases e with
      | normal => exact ih fn blk y S' k Q env' β' a' w' (fun p hp => hsub p (List.mem_append_right _ hp)) hQ hF' hM' hh (hk.more he hb)
      | ret => exact hk .ret S' env' β' a' w' he hb hF' hM' hh
      | exit id => exact hk (.exit id) S' env' β' a' w' he hb hF' hM' hh
    | cond c x y =>
      simp only [xcode] at h
      split at h
      · rename_i e hc
        obtain ⟨t, ht, he⟩ := xev_is hF hc
        have hkn := know_is hF ht
        split at h
        · rename_i t' hk'
          rw [hk'] at hkn
          have hkn : t = t' := hkn
          subst hkn
          cases t
          · exact wp_cond_false he (ih fn blk y S k Q env β a w (fun p hp => hsub p (List.mem_append_right _ hp)) hQ hF hM h hk)
          · exact wp_cond_true he (ih fn blk x S k Q env β a w (fun p hp => hsub p (List.mem_append_left _ hp)) hQ hF hM h hk)
        · rename_i v hk'
          rw [hk'] at hkn
          have hx : env[v]? = some (b01 t) := hkn
          obtain ⟨h1, h2⟩ := h
          have hbit : env[v]? = some 0 ∨ env[v]? = some 1 := by rw [hx]; cases t <;> simp [b01]
          have hg : env.getD v 0 = b01 t := by simp [hx]
          cases t
          · exact wp_cond_false he (ih fn blk y { S with fx := (v, false) :: S.fx } k Q env β a w (fun p hp => hsub p (List.mem_append_right _ hp)) hQ (hF.know hg hbit) hM (h2 (by rw [hg]; rfl)) hk)
          · exact wp_cond_true he (ih fn blk x { S with fx := (v, true) :: S.fx } k Q env β a w (fun p hp => hsub p (List.mem_append_left _ hp)) hQ (hF.know hg hbit) hM (h1 (by rw [hg]; rfl)) hk)
      · exact h.elim
    | block id x =>
      refine wp_block (ih fn id x S _ _ env β a w hsub hQ.inBlock hF hM h ?_)
      intro e S' env' β' a' w' he hb hF' hM' hh
      cases e with
      | normal => exact hk .normal S' env' β' a' w' he hb hF' hM' hh
      | ret => exact hk .ret S' env' β' a' w' he hb hF' hM' hh
      | exit i =>
        cases hi : Nat.beq i id
        · simp only [hi, cond_false] at hh
          have hne : i ≠ id := fun e => by subst e; simp at hi
          show (if i = id then Q .normal a' w' else Q (.exit i) a' w')
          rw [if_neg hne]
          exact hk (.exit i) S' env' β' a' w' he hb hF' hM' hh
        · simp only [hi, cond_true] at hh
          have heq := Nat.eq_of_beq_eq_true hi
          show (if i = id then Q .normal a' w' else Q (.exit i) a' w')
          rw [if_pos heq]
          exact hk .normal S' env' β' a' w' he hb hF' hM' hh
    | loop x => exact LoopRuns.loop (loop fn blk x S k Q env β a w hsub hQ hF hM h hk)
    | exit id => exact wp_exit (hk (.exit id) S env β a w (Longer.refl _) (Longer.refl _) hF hM h)
    | scope x =>
      refine wp_scope_straight (ih fn blk x S _ _ env β a w hsub hQ.noGoto hF hM h ?_)
      intro e S' env' β' a' w' he hb hF' hM' hh
      cases e with
      | normal => exact hk .normal S' env' β' a' w' he hb hF' hM' hh
      | ret => exact hk .ret S' env' β' a' w' he hb hF' hM' hh
      | exit i => exact hk (.exit i) S' env' β' a' w' he hb hF' hM' hh
    | ret => exact wp_ret (hk .ret S env β a w (Longer.refl _) (Longer.refl _) hF hM h)
    | _ => exact h.elim

end
/-- A contract that holds in the worlds that I tells. -/
def KIn (I : World → Prop) (P : Program) (A : Ask) (κ : K) : Prop :=
  ∀ (env : List Int) (β : List (Nat × Nat)) (vs : List Value) (w : World), I w → env.length = κ.m → MRel w (TpOf β κ.mem) env β κ.mem w → All2 (SV.is env β) κ.args vs → A.pre κ.id env →
    Calls P κ.f vs.toArray w (fun e w' => ∃ ys β' v, ys.length = κ.mout ∧ A.post κ.id env ys ∧ e = .returned v ∧ Longer β β' ∧ κ.ret.is (env ++ ys) β' v ∧
      MRel w (TpOf β κ.mem) (env ++ ys) β' κ.mem1 w' ∧ (∀ i x, κ.mem.length ≤ i → β'[i]? = some x → w.heap.size ≤ x.1))
theorem KOk.kin {I : World → Prop} {P : Program} {A : Ask} {κ : K} (h : KOk P A κ) : KIn I P A κ := fun env β vs w _ => h env β vs w
theorem useW_ok {I : World → Prop} {P : Program} {A : Ask} {κ : K} (hk : KIn I P A κ) {args : List SV} {S : St} {r : CR} (h : κ.use args S = some r)
    {env : List Int} {β : List (Nat × Nat)} {vs : List Value} {w W0 : World} {Tp : Nat → Nat → Prop} (hf : Facts env S) (hM : MRel W0 Tp env β S.mem w) (ha : All2 (SV.is env β) args vs)
    (hi : I w) (hp : A.pre r.id (r.xs.map (·.val env))) :
    Calls P κ.f vs.toArray w (fun e w' => ∃ ys β' v, ys.length = r.m ∧ A.post r.id (r.xs.map (·.val env)) ys ∧ e = .returned v ∧ Longer β β' ∧ r.ret.is (env ++ ys) β' v ∧ MRel W0 Tp (env ++ ys) β' r.mem w') := by
  obtain ⟨σ, ρ, hn⟩ := names_of_use h
  have hc := use_core hn h hf hM ha
  rw [hc.xs, hc.id] at hp ⊢
  rw [hc.m]
  refine (hk _ _ vs w hi hc.len hc.mem hc.args hp).mono ?_
  rintro e w' ⟨ys, β1, v, hyl, hpost, rfl, hb, hv, hM1, hfresh⟩
  obtain ⟨β', h1, h2, h3⟩ := hc.post ys β1 v w' hyl hb hv hM1 hfresh
  exact ⟨ys, β', v, hyl, hpost, rfl, h1, h2, h3⟩

theorem conW_ok {I : World → Prop} {P : Program} {ext : Nat → Nat} {A : Ask} {W0 : World} {Tp : Nat → Nat → Prop} (hI : ∀ w, Kept W0 Tp w → I w) : ∀ {pc : Nat → Nat → St → Option (List PR)} {L : List K}, (∀ κ, κ ∈ L → KIn I P A κ) → ConAt ⟨P, ext, conOf L, pc⟩ A W0 Tp
  | pc, [], _ => fun f args S r h => by simp [conOf] at h
  | pc, κ :: L, hL => fun f args S r h env β vs w hf hM ha hp => by
    simp only [conOf] at h
    cases hb : Nat.beq κ.f f with
    | false =>
      rw [hb, cond_false] at h
      exact conW_ok hI (ext := ext) (pc := pc) (fun κ' hk => hL κ' (List.mem_cons_of_mem _ hk)) f args S r h env β vs w hf hM ha hp
    | true =>
      have hff := Nat.eq_of_beq_eq_true hb
      rw [hb, cond_true] at h
      split at h
      · rename_i c hc
        injection h with h
        subst h
        subst hff
        exact useW_ok (hL κ (List.mem_cons_self ..)) hc hf hM ha (hI w hM.kept) hp
      · exact conW_ok hI (ext := ext) (pc := pc) (fun κ' hk => hL κ' (List.mem_cons_of_mem _ hk)) f args S r h env β vs w hf hM ha hp
theorem kin_of {I : World → Prop} {C : Cfg} {A : Ask} (hm : C.P.follows .mixedOrders = true) (hE : Ext C.P C.ext) (hC : ∀ (W0 : World) (Tp : Nat → Nat → Prop), (∀ w, Kept W0 Tp w → I w) → ConAt C A W0 Tp) (hP : PcOk C A) (n : Nat) {κ : K} (hx : C.ext κ.f = 0) (hS : ∀ (β : List (Nat × Nat)) (W0 w : World), I W0 → Kept W0 (TpOf β κ.mem) w → I w)
    (h : ∀ env : List Int, env.length = κ.m → Rng env (rngA κ.args ++ rngM κ.mem) → A.pre κ.id env → (xcall C (fun f => xcode C n f 0) κ.f κ.args κ.st κ.end).holds (A.to κ) env) : KIn I C.P A κ := by
  intro env β vs w hi hl hM ha hp
  have hh := h env hl (Rng.append (rngA_ok ha) (rngM_ok hM)) hp
  have hC' : ConAt C (A.to κ) w (TpOf β κ.mem) := hC w _ fun w' hk => hS β w w' hi hk
  have hP' : PcOk C (A.to κ) := hP
  have hf : Facts env κ.st := ⟨hl, fun x t ht => by simp [K.st, lk] at ht, fun x hx => by simp [K.st] at hx⟩
  refine (xcallW_ok hC' (codeW_ok (W0 := w) (Tp := TpOf β κ.mem) hm hE hC' hP' n).1 κ.f κ.args κ.st κ.end env β w vs
    (fun u w' => ∃ ys β' v, ys.length = κ.mout ∧ A.post κ.id env ys ∧ u = v ∧ Longer β β' ∧ κ.ret.is (env ++ ys) β' v ∧
      MRel w (TpOf β κ.mem) (env ++ ys) β' κ.mem1 w' ∧ (∀ i x, κ.mem.length ≤ i → β'[i]? = some x → w.heap.size ≤ x.1)) hx hf hM ha hh ?_).mono ?_
  · rintro v u S env' β' w' ⟨ee, he⟩ ⟨δ, hδ⟩ _ _ _ hM' hv hend
    unfold K.end at hend
    split at hend
    · rename_i x hd
      obtain ⟨τ, ρk⟩ := x
      have hpost : A.post κ.id env (τ.map (·.val env')) := by
        have h1 : A.post κ.id (env'.take κ.m) ((dec (enc τ)).map (·.val env')) := hend
        rw [dec_enc, he, List.take_append_of_le_length (by omega), List.take_of_length_le (by omega), ← he] at h1
        exact h1
      obtain ⟨h1, βc, h2, h3, h4, h5⟩ := done_core hd hl he hδ hM.nb hM' hv
      exact ⟨_, βc, u, h1, hpost, rfl, h2, h3, h4, h5⟩
    · exact hend.elim
  · rintro e w' ⟨u, rfl, ys, β', v, h1, h2, rfl, h3, h4, h5, h6⟩
    exact ⟨ys, β', u, h1, h2, rfl, h3, h4, h5, h6⟩
theorem lawW_calls {I : World → Prop} {P : Program} {A : Ask} {κ : K} (hk : KIn I P A κ) (hmem : κ.mem = []) (hret : κ.ret = bo κ.m) (hpost : ∀ xs ys, A.post κ.id xs ys → ys = [1]) {env : List Int} (hl : env.length = κ.m) {vs : List Value}
    (ha : All2 (SV.is env []) κ.args vs) (hp : A.pre κ.id env) (w : World) (hi : I w) : Calls P κ.f vs.toArray w (fun e w' => e = .returned (.bool true) ∧ Below w.heap.size w w') := by
  refine (hk env [] vs w hi hl ⟨by rw [hmem]; rfl, fun r cs wr h => by rw [hmem] at h; simp at h, fun r s x y cs ds wr ws _ h => by simp at h, Kept.refl _ _⟩ ha hp).mono ?_
  rintro e w' ⟨ys, β', v, hyl, hpo, rfl, hb, hv, hM, _⟩
  have hpo := hpost _ _ hpo
  subst hpo
  rw [hret] at hv
  obtain ⟨t, ht, rfl⟩ := hv
  have ht : (env ++ [(1 : Int)])[κ.m]? = some (b01 t) := ht
  rw [← hl, List.getElem?_append_right (Nat.le_refl _), Nat.sub_self] at ht
  cases t with
  | false => simp [b01] at ht
  | true =>
    refine ⟨rfl, Kept.below ?_⟩
    have hk := hM.kept
    have : TpOf [] κ.mem = fun _ _ => False := by
      funext b o
      simp [TpOf, hmem]
    rw [this] at hk
    exact hk

end Eng
