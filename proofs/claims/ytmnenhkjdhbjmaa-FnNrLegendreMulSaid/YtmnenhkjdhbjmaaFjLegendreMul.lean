/-
  For every input the law FnNrLegendreMul returns true, and the arguments read afterwards as they read before. No conditions.
   The way: the walk by reckoning gives for each function a tree of facts, checked by the kernel; the loops by invariants; the symbol by Gauss and the law of reciprocity.
-/
import Derived.Test.YtmnenhkjdhbjmaaFjL
import Derived.Test.YtmnenhkjdhbjmaaRows
namespace Go.Proofs.Ytmnenhkjdhbjmaa
open Go Eng Go.RowKit
open Go.ChangeShapes Go.WideShapes Go.ChangeAt
set_option maxRecDepth 100000
def kLaw : K := { f := 5, args := [ar 0 4, ar 4 4], mem := [], m := 8, id := 13, mout := 1, ret := bo 8, mem1 := [] }
def lawT : Tree :=
  .hav 0 (vr 0 4 ++ ls prime) 1 (.br 8 (.hav 0 (vr 4 4 ++ ls prime) 1 (.br (8 + 1)
    (.hav 31 (vr 0 4 ++ vr 4 4) 4 (.hav 80 (vr (8 + 2) 4) 1 (.hav 80 (vr 0 4) 1 (.hav 80 (vr 4 4) 1 (.dfn (.bin .mul .i64) [.var (12 + 3), .var (12 + 4)] (.dfn (.cmp .eql) [.var (12 + 2), .var (12 + 5)] (.br (12 + 6)
      (.hav 80 (ls one) 1 (.dfn (.cmp .eql) [.var (12 + 7), .lit 1] (.fin (enc [.var (12 + 8)]) st0))) (.fin (enc [.lit 0]) st0)))))))) (.fin (enc [.lit 1]) st0))) (.fin (enc [.lit 1]) st0))
theorem lawT_ok {env : List Int} (hl : env.length = 8) (hw : Wds env) : lawT.holds (AA.to kLaw) env := by
  have lP : prime.length = 4 := rfl
  have tk : ∀ l : List Int, (env ++ l).take kLaw.m = env := fun l => List.take_left' hl
  have lx : (env.take 4).length = 4 := by simp; omega
  have ly : (env.drop 4).length = 4 := by simp; omega
  have x0 : ∀ l : List Int, (vr 0 4).map (·.val (env ++ l)) = env.take 4 := fun l => by rw [vals_more (vr_bd (by omega)), vr_vals (by omega), List.drop_zero]
  have y0 : ∀ l : List Int, (vr 4 4).map (·.val (env ++ l)) = env.drop 4 := fun l => by rw [vals_more (vr_bd (by omega)), vr_vals (by omega), List.take_of_length_le (by omega)]
  have start : env = env ++ [] := by simp
  unfold lawT
  rw [start]
  refine hold_hav (v := env.take 4 ++ prime) (by rw [List.map_append, x0, ls_vals]) ⟨fun _ => (hw.take _).append wq.wd, trivial⟩ fun b0 _ h => ?_
  have h : b0 = [b01 (decide (vw ((env.take 4 ++ prime).take 4) < vw ((env.take 4 ++ prime).drop 4)))] := h
  rw [take_app lx, drop_app lx] at h
  subst h
  generalize hc0 : b01 (decide (vw (env.take 4) < vw prime)) = c0
  have g0 : (env ++ ([] ++ [c0])).getD 8 0 = c0 := getD_at (l := [] ++ [c0]) hl.symm 0
  refine ⟨fun h1 => ?_, fun _ => fin_take (tk _) rfl⟩
  refine hold_hav (v := env.drop 4 ++ prime) (by rw [List.map_append, y0, ls_vals]) ⟨fun _ => (hw.drop _).append wq.wd, trivial⟩ fun b1 _ h => ?_
  have h : b1 = [b01 (decide (vw ((env.drop 4 ++ prime).take 4) < vw ((env.drop 4 ++ prime).drop 4)))] := h
  rw [take_app ly, drop_app ly] at h
  subst h
  generalize hc1 : b01 (decide (vw (env.drop 4) < vw prime)) = c1
  have g1 : (env ++ ([] ++ [c0] ++ [c1])).getD (8 + 1) 0 = c1 := getD_at (l := [] ++ [c0] ++ [c1]) hl.symm 1
  refine ⟨fun h1 => ?_, fun _ => fin_take (tk _) rfl⟩
  rw [g1, ← hc1] at h1
  have hy : vw (env.drop 4) < vw prime := of_decide_eq_true ((b01_one _).1 h1)
  refine hold_hav (v := env) (by rw [List.map_append, x0, y0, List.take_append_drop]) ⟨fun _ => hw, hy⟩ fun z lz h => ?_
  have h : MulM 4 prime (env.take 4) (env.drop 4) z := h
  have hp := J_prod q_odd h
  have wz := h.2.1
  have z0 : ∀ l : List Int, (vr (8 + 2) 4).map (·.val (env ++ ([] ++ [c0] ++ [c1] ++ z ++ l))) = z := fun l => by
    rw [vr_at hl.symm 2 4 (by simp [lz])]
    show (z ++ l).take 4 = z
    exact take_app lz
  refine hold_hav (v := z) (by have := z0 []; rwa [List.append_nil] at this) ⟨hi (by decide), wz⟩ fun s0 _ h => ?_
  obtain rfl : s0 = [Jac.J (vw z) (vw prime)] := h
  refine hold_hav (v := env.take 4) (x0 _) ⟨hi (by decide), hw.take _⟩ fun s1 _ h => ?_
  obtain rfl : s1 = [Jac.J (vw (env.take 4)) (vw prime)] := h
  refine hold_hav (v := env.drop 4) (y0 _) ⟨hi (by decide), hw.drop _⟩ fun s2 _ h => ?_
  obtain rfl : s2 = [Jac.J (vw (env.drop 4)) (vw prime)] := h
  have gs : ∀ (i k : Nat) (l E : List Int), E = env ++ [c0, c1] ++ z ++ l → i = 12 + 2 + k → (SI.var i).val E = l.getD k 0 := by
    rintro _ k l _ rfl rfl
    exact getD_at (ne := 12 + 2) (by simp [hl, lz]) k
  generalize hjz : Jac.J (vw z) (vw prime) = jz at hp
  refine hold_dfn (v := jz) ?_ ?_
  · refine (congr (congrArg (binEv .mul .i64) (gs _ 1 [jz, Jac.J (vw (env.take 4)) (vw prime), Jac.J (vw (env.drop 4)) (vw prime)] _ (by simp) rfl)) (gs _ 2 [jz, Jac.J (vw (env.take 4)) (vw prime), Jac.J (vw (env.drop 4)) (vw prime)] _ (by simp) rfl)).trans ?_
    rw [hp]
    exact mul_small
  generalize Jac.J (vw (env.take 4)) (vw prime) = jx
  generalize Jac.J (vw (env.drop 4)) (vw prime) = jy
  refine hold_dfn (v := 1) ?_ ?_
  · refine (congr (congrArg (fun a b => b01 (cmpEv .eql a b)) (gs _ 0 [jz, jx, jy, jz] _ (by simp) rfl)) (gs _ 3 [jz, jx, jy, jz] _ (by simp) rfl)).trans ?_
    show b01 (jz == jz) = 1
    rw [BEq.rfl]; rfl
  refine ⟨fun _ => ?_, fun h1 => ?_⟩
  · refine hold_hav (v := one) (ls_vals) ⟨hi (by decide), one_wd⟩ fun s3 _ h => ?_
    obtain rfl : s3 = [Jac.J (vw one) (vw prime)] := h
    rw [J_one q_odd one_is]
    refine hold_dfn (v := 1) ?_ ?_
    · exact congrArg (fun a => b01 (cmpEv .eql a 1)) (gs _ 5 [jz, jx, jy, jz, 1, 1] _ (by simp) rfl)
    · refine fin_take (tk _) ?_
      exact congrArg (fun a => [a]) (gs _ 6 [jz, jx, jy, jz, 1, 1, 1] _ (by simp) rfl)
  · have h3 : (SI.var (12 + 6)).val _ = 0 := h1
    exact absurd ((gs _ 4 [jz, jx, jy, jz, 1] _ (by simp) rfl).symm.trans h3) (show ¬ (1 : Int) = 0 by decide)
theorem lLaw : ∀ κ ∈ [kLess, kLegA, kMulA], KOk Try.prog AA κ := by
  intro κ h
  simp only [List.mem_cons, List.not_mem_nil, or_false] at h
  rcases h with rfl | rfl | rfl
  · exact less_ok
  · exact legA_ok
  · exact mulA_ok'
theorem law_ok : KOk Try.prog AA kLaw := k_of (L := [kLess, kLegA, kMulA]) lLaw (by kernel_rfl) (by kernel_rfl) (T := lawT) (by kernel_rfl) fun env hl hw _ => lawT_ok hl hw
theorem cellsA : Try.prog.cellsOf 23 = 4 := by kernel_rfl
theorem cellsW : Try.prog.cellsOf 22 = 1 := by kernel_rfl
theorem shutA {H : Type} (enc : TypeId × Value → H) {x0 x1 x2 x3 : Int} (h0 : (Lit.int .u64 x0).wf = true) (h1 : (Lit.int .u64 x1).wf = true) (h2 : (Lit.int .u64 x2).wf = true) (h3 : (Lit.int .u64 x3).wf = true) (W : World) (n : Nat) (sp : Nat → Bool) (hd : Bool) :
    DataW.Trod enc Try.prog W n sp hd 23 (.agg #[.int .u64 x0, .int .u64 x1, .int .u64 x2, .int .u64 x3]) (.agg [.lit (.int .u64 x0), .lit (.int .u64 x1), .lit (.int .u64 x2), .lit (.int .u64 x3)]) [] :=
  ⟨2, by simp [DataW.trod, Value.cells, Try.underlying23, Try.underlying22, cellsA, cellsW, h0, h1, h2, h3, show List.range 4 = [0, 1, 2, 3] from rfl]⟩
theorem lenA {l : List Int} (h : l.length = 4) : ∃ x0 x1 x2 x3, l = [x0, x1, x2, x3] := by
  match l, h with
  | [x0, x1, x2, x3], _ => exact ⟨_, _, _, _, rfl⟩
theorem Try.own : ownKnob Try.prog.godebug = none := by kernel_rfl
theorem law_lifted (os : Os) (started : os.Started) (H : Type) (enc : TypeId × Value → H) :
    ReturnsInHanded {} Try.checked os 5 .any (Rows.fnNrLegendreMulSpec.pre6 enc Try.prog Try.f5 Rows.fnNrLegendreMulRow.domain false) (Rows.fnNrLegendreMulSpec.post enc Try.prog Try.f5 false true false false) := by
  refine returnsInHanded_of_change (C := Try.checked) Try.own started (by kernel_rfl) Try.func5
    (ChangeSpec.witness6 (enc := enc) (C := Try.checked) false ⟨#[], #[.agg #[.int .u64 0, .int .u64 0, .int .u64 0, .int .u64 0], .agg #[.int .u64 0, .int .u64 0, .int .u64 0, .int .u64 0]], []⟩ 8 (by kernel_rfl) (by kernel_rfl) (by kernel_rfl) (by kernel_rfl)) ?_
  intro W base args ds gs before hval0 hW hcnd _
  have hval : ∀ (j : Nat) t v, Try.f5.params[j]? = some t → args[j]? = some v → Value.okWide Try.prog W .any base t v := hval0
  have hW' := hW
  obtain ⟨p, q, hA0, hV, rfl, hfz, hnd⟩ := hW
  have hA : DataW.TrodAll enc Try.prog W 0 (fun _ => true) true Try.f5.params.toList args.toList ds p := hA0
  rw [Try.params5] at hA hval
  obtain ⟨v0, v1, d0, d1, p0, p1, rfl, rfl, rfl, h0, h1⟩ := trodAll_two hA
  obtain ⟨rfl, rfl⟩ := trodVars_none hV
  obtain ⟨xs, lx, rfl, rfl, rfl, wx⟩ := open_words Try.underlying23 Try.underlying22 cellsA cellsW (hval 0 23 v0 rfl rfl) h0
  obtain ⟨ys, ly, rfl, rfl, rfl, wy⟩ := open_words Try.underlying23 Try.underlying22 cellsA cellsW (hval 1 23 v1 rfl rfl) h1
  obtain ⟨x0, x1, x2, x3, rfl⟩ := lenA lx
  obtain ⟨y0, y1, y2, y3, rfl⟩ := lenA ly
  clear hA0 hval0
  simp only [List.append_nil] at hW'
  have a1 : ∀ W' sp, DataW.Trod enc Try.prog W' 0 sp true 23 _ _ [] := fun W' sp => shutA enc (wx x0 (by simp)) (wx x1 (by simp)) (wx x2 (by simp)) (wx x3 (by simp)) W' 0 sp true
  have a2 : ∀ W' sp, DataW.Trod enc Try.prog W' 0 sp true 23 _ _ [] := fun W' sp => shutA enc (wy y0 (by simp)) (wy y1 (by simp)) (wy y2 (by simp)) (wy y3 (by simp)) W' 0 sp true
  have hw : Wds [x0, x1, x2, x3, y0, y1, y2, y3] := by
    intro z hz
    have : z ∈ [x0, x1, x2, x3] ∨ z ∈ [y0, y1, y2, y3] := by simpa [or_assoc] using hz
    rcases this with h | h
    · exact wd_wf (wx z h)
    · exact wd_wf (wy z h)
  have walk := law_calls law_ok rfl rfl (fun _ _ h => h) (env := [x0, x1, x2, x3, y0, y1, y2, y3]) rfl (vs := [.agg #[.int .u64 x0, .int .u64 x1, .int .u64 x2, .int .u64 x3], .agg #[.int .u64 y0, .int .u64 y1, .int .u64 y2, .int .u64 y3]]) ⟨⟨_, rfl, us_is (i := 0) (n := 4) (by simp) hw⟩, ⟨_, rfl, us_is (i := 4) (n := 4) (by simp) hw⟩, trivial⟩ ⟨fun _ => hw, trivial⟩ W
  refine walk.mono fun e W' ⟨he, hb⟩ => ?_
  subst he
  exact ⟨_, rfl, post_of_below (pa := []) (pv := []) hW' (fun _ _ _ => trodAll_mk1 (shut_bool Try.underlying4 true)) (fun sp _ => trodAll_mk2 (a1 W' sp) (a2 W' sp)) (fun _ _ => rfl) rfl
    hb (ok_one (by kernel_rfl) rfl (okWide_bool_mk Try.underlying4 true))⟩

theorem law_holds : Rows.FnNrLegendreMulSaid :=
  OpenClaim.holds_of_wide 5 Try.f5 rfl rfl rfl rfl rfl rfl rfl ⟨rfl, rfl, rfl, rfl, rfl⟩ rfl rfl rfl rfl rfl (by kernel_rfl) Try.func5 (by kernel_rfl)
    (of_decide_eq_true (by kernel_rfl)) (by unfold Func.isWrapper; first | (rw [if_pos (by decide +kernel)]; kernel_rfl) | (rw [if_neg (by decide +kernel)]; exact ⟨rfl, rfl⟩))
    (fun os started H enc _ => law_lifted os started H enc)
#print axioms law_holds
end Go.Proofs.Ytmnenhkjdhbjmaa
