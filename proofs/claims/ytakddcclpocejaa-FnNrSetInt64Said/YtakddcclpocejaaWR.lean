/-
  Rows over arrays of words: how they are opened and shut; a law's contract as a call.
-/
import Derived.Test.YtakddcclpocejaaEng21
import Derived.Test.YtakddcclpocejaaPM
import Derived.ProofKit
import Derived.OpenShut
namespace Eng
open Go Go.RowKit
open Go.ChangeShapes Go.WideShapes Go.ChangeAt

def u (x : Nat) : SC := .ii .u64 (.var x)
def us (i n : Nat) : List SC := (List.range n).map fun j => u (i + j)
def sl (r n : Nat) : SV := .ww (.cc (.ss r 0 n n))
def pt (r : Nat) : SV := .ww (.cc (.pp r 0))
def ar (i n : Nat) : SV := .ww (.aa (us i n))
def bo (x : Nat) : SV := .ww (.cc (.bb (.var x)))

theorem wd_of {x : Int} (h : fits .u64 x) : Wd x := by
  have := (fits_iff _ _).1 h
  simp [kMin, kMax] at this
  exact ⟨by omega, by omega⟩
theorem fits_of {x : Int} (h : Wd x) : fits .u64 x := (fits_iff _ _).2 ⟨by simp [kMin]; exact h.1, by have := h.2; simp [kMax]; omega⟩
/-- The numbers 0 to n - 1 of the list stand among the typed ones. -/
def allB (n : Nat) (l : List (IntKind × Nat)) : Bool := (List.range n).all fun i => l.any fun p => Nat.beq p.2 i && (match p.1 with | .u64 => true | _ => false)
theorem Rng.get {env : List Int} : ∀ {l : List (IntKind × Nat)} {p : IntKind × Nat}, Rng env l → p ∈ l → fits p.1 (env.getD p.2 0)
  | [], _, _, h => by cases h
  | (k, x) :: l, p, h, hp => by
    rcases List.mem_cons.1 hp with rfl | hp
    · exact h.1
    · exact Rng.get h.2 hp
theorem wds_of {env : List Int} {n : Nat} {l : List (IntKind × Nat)} (hl : env.length = n) (h : Rng env l) (hb : allB n l = true) : Wds env := by
  intro x hx
  obtain ⟨i, hi, rfl⟩ := List.mem_iff_getElem.1 hx
  have := List.all_eq_true.1 hb i (List.mem_range.2 (by omega))
  obtain ⟨p, hp, hq⟩ := List.any_eq_true.1 this
  simp only [Bool.and_eq_true] at hq
  have he := Nat.eq_of_beq_eq_true hq.1
  have hf := h.get hp
  rw [he] at hf
  have hk : p.1 = .u64 := by
    obtain ⟨k, y⟩ := p
    cases k <;> simp at hq ⊢
  rw [hk, List.getD_eq_getElem?_getD, List.getElem?_eq_getElem hi] at hf
  exact wd_of hf

/-- The end of a walk, as the contract's own words say it. -/
theorem fin_of {A : Ask} {κ : K} {env e : List Int} {os : List SI} (hl : env.length = κ.m) (h : A.post κ.id env (os.map (·.val (env ++ e)))) : (A.to κ).fin (enc os) st0 (env ++ e) := by
  show A.post κ.id ((env ++ e).take κ.m) ((dec (enc os)).map (·.val (env ++ e)))
  rw [dec_enc, List.take_left' hl]
  exact h

/-- Words, as a list of cells. -/
theorem us_is {env : List Int} {β : List (Nat × Nat)} {i n : Nat} (h : i + n ≤ env.length) (hw : Wds env) : All2 (SC.is env β) (us i n) (((env.drop i).take n).map (Value.int .u64)) := by
  have h1 : (us i n).length = n := by simp [us]
  have key := All2.of_get (l := us i n) (R := SC.is env β) (f := fun j => Value.int .u64 (env.getD (i + j) 0)) (fun j x hj => by
    have hlt := (List.getElem?_eq_some_iff.1 hj).1
    rw [h1] at hlt
    simp only [us, List.getElem?_map, List.getElem?_range hlt, Option.map_some] at hj
    injection hj with hj
    subst hj
    refine ⟨env.getD (i + j) 0, ?_, fits_of (hw.get _), rfl⟩
    show env[i + j]? = some _
    rw [List.getD_eq_getElem?_getD, List.getElem?_eq_getElem (by omega)]
    rfl)
  rw [h1] at key
  have e : (List.range n).map (fun j => Value.int .u64 (env.getD (i + j) 0)) = ((env.drop i).take n).map (Value.int .u64) := by
    apply List.ext_getElem?
    intro j
    rcases Nat.lt_or_ge j n with hj | hj
    · rw [List.getElem?_map, List.getElem?_map, List.getElem?_range hj, List.getElem?_take_of_lt hj, List.getElem?_drop, Option.map_some, List.getD_eq_getElem?_getD, List.getElem?_eq_getElem (by omega)]
      rfl
    · rw [List.getElem?_eq_none (by simp; omega), List.getElem?_eq_none (by simp; omega)]
  rw [e] at key
  exact key

/-- A law that is shown, as a call. -/
theorem law_calls {P : Program} {A : Ask} {κ : K} (hk : KOk P A κ) (hmem : κ.mem = []) (hret : κ.ret = bo κ.m) (hpost : ∀ xs ys, A.post κ.id xs ys → ys = [1]) {env : List Int} (hl : env.length = κ.m) {vs : List Value}
    (ha : All2 (SV.is env []) κ.args vs) (hp : A.pre κ.id env) (w : World) : Calls P κ.f vs.toArray w (fun e w' => e = .returned (.bool true) ∧ Below w.heap.size w w') := by
  refine (hk env [] vs w hl ⟨by rw [hmem]; rfl, fun r cs wr h => by rw [hmem] at h; simp at h, fun r s x y cs ds wr ws _ h => by simp at h, Kept.refl _ _⟩ ha hp).mono ?_
  rintro e w' ⟨ys, β', v, hyl, hpo, rfl, hb, hv, hM, _⟩
  have hpo := hpost _ _ hpo
  subst hpo
  rw [hret] at hv
  obtain ⟨t, ht, rfl⟩ := hv
  have ht : (env ++ [(1 : Int)])[κ.m]? = some (b01 t) := ht
  rw [← hl, List.getElem?_append_right (Nat.le_refl _), Nat.sub_self] at ht
  cases t with
  | false => simp [b01] at ht
  | true =>
    refine ⟨rfl, Kept.below ?_⟩
    have hk := hM.kept
    have : TpOf [] κ.mem = fun _ _ => False := by
      funext b o
      simp [TpOf, hmem]
    rw [this] at hk
    exact hk

section
variable {H : Type} {enc : TypeId × Value → H} {P : Program}
theorem post_of_below {f : Func} {s : ChangeSpec} {apart fresh handsOn again : Bool} {W W' : World} {args : Array Value} {v : Value} {ds gs : List (DataW H)} {before pa pv : List MemPlace}
    (hW : DataW.Whole enc P f.params.toList s.vars apart W args.toList ds gs before)
    (hres : ∀ (b : Nat) (sp : Nat → Bool) (hd : Bool), DataW.TrodAll enc P W' b sp hd f.resultTypes.toList (v.resultList f.resultTypes.size) (s.fn H (ds ++ gs)).results [])
    (hargs : ∀ sp : Nat → Bool, (∀ p ∈ before, sp p.block = true) → DataW.TrodAll enc P W' 0 sp true f.params.toList args.toList (s.fn H (ds ++ gs)).args pa)
    (hvars : ∀ sp : Nat → Bool, (∀ p ∈ before, sp p.block = true) → DataW.TrodVars enc P W' sp s.vars (s.fn H (ds ++ gs)).vars pv)
    (hps : before = pa ++ pv) (hb : Below W.heap.size W W')
    (hok : ∀ (j : Nat) (t : TypeId) (r : Value), f.resultTypes[j]? = some t → (v.resultList f.resultTypes.size)[j]? = some r → Value.okWide P W' .any 0 t r) :
    s.post enc P f apart fresh handsOn again W args v W' := by
  have hlt : ∀ p ∈ before, p.block < W.heap.size := fun p hp => hW.lt p hp
  have hold : ∀ p ∈ before, (fun b => decide (b < W.heap.size)) p.block = true := fun p hp => by simpa using hlt p hp
  refine ⟨ds, gs, before, [], pa, pv, hW, hres _ _ _, hargs _ hold, hvars _ hold, World.keptBut_mono (fun p hp => ⟨hp, ?_⟩) (hb.frame (· ∈ before)), fun _ => ?_⟩
  · rw [hps, List.mem_append] at hp
    exact Or.inr hp
  · obtain ⟨_, _, _, _, _, hz, hn⟩ := hW
    refine ⟨hok, _, _, ([] ++ pa) ++ pv, ⟨[] ++ pa, pv, trodAll_append (hargs _ (fun _ _ => rfl)) (hres _ _ _), hvars _ (fun _ _ => rfl), rfl, ?_, ?_⟩, ?_⟩
    · intro b off hp
      have hin : MemPlace.cell b off ∈ before := by rw [hps]; simpa using hp
      rw [hb.frozen (hlt _ hin)]
      exact hz b off hin
    · intro ha
      have := hn ha
      rw [hps] at this
      simpa using this
    · intro p hp _
      rw [hps]
      simpa using hp
end

section
variable {H : Type} {enc : TypeId × Value → H} {P : Program} {w : World} {base : Nat} {spare : Nat → Bool} {held : Bool}
theorem words_of {e : TypeId} (he : P.underlying e = some (.int .u64)) {m : Nat} : ∀ (cs : List Value) (xs : List (DataW H × List MemPlace)), xs.length = cs.length →
    (∀ i, i < cs.length → DataW.trod enc P w base spare held m e ((cs.drop i).take 1) = xs[i]?) →
    ∃ zs : List Int, cs = zs.map (Value.int .u64) ∧ xs = zs.map (fun z => (.lit (.int .u64 z), [])) ∧ ∀ z ∈ zs, (Lit.int .u64 z).wf = true
  | [], [], _, _ => ⟨[], rfl, rfl, fun z hz => by cases hz⟩
  | [], _ :: _, hl, _ => by simp at hl
  | _ :: _, [], hl, _ => by simp at hl
  | c :: cs, x :: xs, hl, h => by
    obtain ⟨z, h1, h2, h3⟩ := DataW.trod_int he (h 0 (by simp))
    obtain ⟨zs, h4, h5, h6⟩ := words_of he cs xs (by simpa using hl) (fun i hi => by simpa using h (i + 1) (by simpa using hi))
    simp at h1 h2
    refine ⟨z :: zs, by simp [h1, h4], by simp [h2, h5], fun y hy => ?_⟩
    rcases List.mem_cons.1 hy with rfl | hy
    · exact h3
    · exact h6 y hy
theorem open_words {n : Nat} {t e : TypeId} (ht : P.underlying t = some (.array n e)) (he : P.underlying e = some (.int .u64)) (hc : P.cellsOf t = n) (hce : P.cellsOf e = 1) {r : Reach} {b0 : Nat} {v : Value} {d : DataW H} {p : List MemPlace}
    (hval : Value.okWide P w r b0 t v) (h : DataW.Trod enc P w base spare held t v d p) :
    ∃ zs : List Int, zs.length = n ∧ v = .agg (zs.map (Value.int .u64)).toArray ∧ d = .agg (zs.map fun z => .lit (.int .u64 z)) ∧ p = [] ∧ ∀ z ∈ zs, (Lit.int .u64 z).wf = true := by
  obtain ⟨cs, rfl, hsz, _⟩ : ∃ cs, v = .agg cs ∧ cs.size = P.cellsOf t ∧ Row.okWide P w r b0 t cs := by
    simpa [Value.okWide, ht] using hval
  obtain ⟨fuel, hf⟩ := h
  obtain ⟨xs, m, _, hx, hl, hxl, hi⟩ := DataW.trod_array ht hf
  have hcl : cs.toList.length = n := by simpa [hc] using hsz
  obtain ⟨zs, h1, h2, h3⟩ := words_of he cs.toList xs (by rw [hxl, hcl]) (fun i hl => by
    have := hi i (by rw [← hcl]; exact hl)
    simpa [hce, Value.cells] using this)
  simp only [Prod.mk.injEq] at hx
  refine ⟨zs, ?_, ?_, ?_, ?_, h3⟩
  · rw [← hcl, h1]; simp
  · rw [← h1]
  · rw [hx.1, h2]; simp
  · rw [hx.2, h2]
    simp
theorem wd_wf {z : Int} (h : (Lit.int .u64 z).wf = true) : Wd z := by
  have := bounds_u64 h
  exact ⟨by omega, by omega⟩
end
end Eng
