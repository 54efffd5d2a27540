/-
  For every input the law FnNrInverse returns true, and the argument reads afterwards as it read before. No conditions.
   The way: the walk by reckoning gives for each function a tree of facts, checked by the kernel; loops by invariants; the numbers by Fermat.
-/
import Derived.Test.YtmnenhkjdhbjmaaFiG
import Derived.Test.YtmnenhkjdhbjmaaFiD
import Derived.Test.YtmnenhkjdhbjmaaRows
namespace Go.Proofs.Ytmnenhkjdhbjmaa
open Go Eng Go.RowKit
open Go.ChangeShapes Go.WideShapes Go.ChangeAt
set_option maxRecDepth 100000
def kLaw : K := { f := 3, args := [ar 0 4], mem := [], m := 4, id := 13, mout := 1, ret := bo 4, mem1 := [] }
theorem zeW_ok : KOk Try.prog AA kZeW := k_of' (L := []) (by simp) (by kernel_rfl) (T := zwT (vr 0 4) 4) (by kernel_rfl) fun env hl hp => by
  have hl' : env.length = 4 := hl
  have hv : (vr 0 4).map (·.val env) = env := one_vr hl'
  refine zwT_ok (A := AA.to kZeW) _ _ env hl'.symm (vr_bd (by decide)) (by rw [hv]; exact hp) fun e o ho => fin_of hl ?_
  rw [hv] at ho
  exact congrArg (fun x => [x]) ho
def uno : List Int := 1 :: List.replicate (4 - 1) 0
theorem uno_wd : Wds uno := wds_cons ⟨by decide, by decide⟩ (wds_zeros _)
def lawT : Tree :=
  .hav 0 (vr 0 4 ++ ls prime) 1 (.br 4 (.hav 61 (vr 0 4) 4 (.hav 64 (vr 0 4) 1 (.br (8 + 1) (.hav 64 (vr (4 + 1) 4) 1 (.fin (enc [.var (8 + 2)]) st0))
    (.hav 62 (ls uno ++ ls prime) 4 (.hav 62 (vr (8 + 2) 4 ++ ls prime) 4 (.hav 0 (vr (4 + 1) 4 ++ ls prime) 1 (.br (16 + 2)
      (.hav 63 (vr 0 4 ++ vr (4 + 1) 4 ++ ls prime) 4 (.hav 1 (vr (16 + 3) 4 ++ vr (12 + 2) 4) 1 (.fin (enc [.var (20 + 3)]) st0))) (.fin (enc [.lit 0]) st0)))))))) (.fin (enc [.lit 1]) st0))
theorem prod_same {x y q R : Int} (h : q ∣ x * y - R * R) : x * y % q = 1 * R % q * R % q := by
  rw [Int.one_mul, Int.mul_emod (R % q), Int.emod_emod, ← Int.mul_emod]
  exact Int.emod_eq_emod_iff_emod_sub_eq_zero.mpr (Int.emod_eq_zero_of_dvd h)
theorem lawT_ok {env : List Int} (hl : env.length = 4) (hw : Wds env) : lawT.holds (AA.to kLaw) env := by
  have wP : Wds prime := wq.wd
  have lP : prime.length = 4 := rfl
  have pm : ∀ {l : List Int}, l.length = 4 → (l ++ prime).take 4 = l ∧ (l ++ prime).drop 4 = prime := fun h => ⟨take_app h, drop_app h⟩
  have tk : ∀ l : List Int, (env ++ l).take kLaw.m = env := fun l => List.take_left' hl
  have k0 : (vr 0 4).map (·.val env) = env := one_vr hl
  have v0 : (vr 0 4 ++ ls prime).map (·.val env) = env ++ prime := by rw [List.map_append, k0, ls_map]
  refine ⟨by rw [v0]; exact ⟨fun _ => hw.append wP, trivial⟩, fun b0 lb0 h => ?_⟩
  rw [v0] at h
  have h : b0 = [b01 (decide (vw ((env ++ prime).take 4) < vw ((env ++ prime).drop 4)))] := h
  rw [(pm hl).1, (pm hl).2] at h
  subst h
  generalize hb0 : b01 (decide (vw env < vw prime)) = c0
  have l1 : (env ++ [c0]).length = 4 + 1 := by simp [hl]
  have g1 : (env ++ [c0]).getD 4 0 = c0 := var_new hl.symm
  refine ⟨fun h1 => ?_, fun _ => fin_take (tk _) rfl⟩
  rw [g1, ← hb0] at h1
  have hb : vw env < vw prime := of_decide_eq_true ((b01_one _).1 h1)
  have k1 := keep (ys := [c0]) (by omega) k0
  refine ⟨by rw [k1]; exact ⟨hi (by decide), hw, hb⟩, fun o lo h => ?_⟩
  rw [k1] at h
  obtain ⟨lo', wo, bo', ho0, ho1⟩ := (h : InvP 4 prime env o)
  have l2 : (env ++ [c0] ++ o).length = 8 + 1 := by simp [hl, lo']
  have k2 := keep (ys := o) (by omega) k1
  have o2 : (vr (4 + 1) 4).map (·.val (env ++ [c0] ++ o)) = o := vals_new l1.symm lo'.symm
  refine ⟨by rw [k2]; exact ⟨hi (by decide), hw⟩, fun b1 lb1 h => ?_⟩
  rw [k2] at h
  have h : b1 = [b01 (decide (vw env = 0))] := h
  subst h
  generalize hb1 : b01 (decide (vw env = 0)) = c1
  have l3 : (env ++ [c0] ++ o ++ [c1]).length = 8 + 2 := by simp [hl, lo']
  have k3 := keep (ys := [c1]) (by omega) k2
  have o3 := keep (ys := [c1]) (by omega) o2
  have g3 : (env ++ [c0] ++ o ++ [c1]).getD (8 + 1) 0 = c1 := var_new l2.symm
  refine ⟨fun h1 => ?_, fun h1 => ?_⟩
  · rw [g3, ← hb1] at h1
    have h0 : vw env = 0 := of_decide_eq_true ((b01_one _).1 h1)
    refine ⟨by rw [o3]; exact ⟨hi (by decide), wo⟩, fun b2 lb2 h => ?_⟩
    rw [o3] at h
    have h : b2 = [b01 (decide (vw o = 0))] := h
    rw [decide_eq_true (ho0 h0)] at h
    subst h
    refine fin_take (env := env) (by simp only [List.append_assoc]; exact tk _) ?_
    show [(SI.var (8 + 2)).val _] = [1]
    rw [show (SI.var (8 + 2)).val (env ++ [c0] ++ o ++ [c1] ++ [b01 true]) = b01 true from var_new l3.symm]
    rfl
  · rw [g3, ← hb1] at h1
    have h0 : ¬ vw env = 0 := of_decide_eq_false ((b01_zero _).1 h1)
    have hd := ho1 h0
    have v3 : (ls uno ++ ls prime).map (·.val (env ++ [c0] ++ o ++ [c1])) = uno ++ prime := by rw [List.map_append, ls_map, ls_map]
    refine ⟨by rw [v3]; exact ⟨hi (by decide), uno_wd.append wP, by decide⟩, fun s ls1 h => ?_⟩
    rw [v3] at h
    obtain ⟨ls', ws, es⟩ := (h : ShfP 4 ((uno ++ prime).take 4) ((uno ++ prime).drop 4) s)
    rw [(pm (l := uno) rfl).1, (pm (l := uno) rfl).2, show vw uno = 1 by decide] at es
    have l4 : (env ++ [c0] ++ o ++ [c1] ++ s).length = 12 + 2 := by simp [hl, lo', ls']
    have k4 := keep (ys := s) (by omega) k3
    have o4 := keep (ys := s) (by omega) o3
    have s4 : (vr (8 + 2) 4).map (·.val (env ++ [c0] ++ o ++ [c1] ++ s)) = s := vals_new l3.symm ls'.symm
    have v4 : (vr (8 + 2) 4 ++ ls prime).map (·.val (env ++ [c0] ++ o ++ [c1] ++ s)) = s ++ prime := by rw [List.map_append, s4, ls_map]
    refine ⟨by
      rw [v4]
      refine ⟨hi (by decide), ws.append wP, ?_⟩
      rw [(pm ls').1, (pm ls').2, es]
      exact Int.emod_lt_of_pos _ q_pos, fun t lt1 h => ?_⟩
    rw [v4] at h
    obtain ⟨lt', wt, et⟩ := (h : ShfP 4 ((s ++ prime).take 4) ((s ++ prime).drop 4) t)
    rw [(pm ls').1, (pm ls').2, es] at et
    have l5 : (env ++ [c0] ++ o ++ [c1] ++ s ++ t).length = 16 + 2 := by simp [hl, lo', ls', lt']
    have k5 := keep (ys := t) (by omega) k4
    have o5 := keep (ys := t) (by omega) o4
    have t5 : (vr (12 + 2) 4).map (·.val (env ++ [c0] ++ o ++ [c1] ++ s ++ t)) = t := vals_new l4.symm lt'.symm
    have v5 : (vr (4 + 1) 4 ++ ls prime).map (·.val (env ++ [c0] ++ o ++ [c1] ++ s ++ t)) = o ++ prime := by rw [List.map_append, o5, ls_map]
    refine ⟨by rw [v5]; exact ⟨fun _ => wo.append wP, trivial⟩, fun b2 lb2 h => ?_⟩
    rw [v5] at h
    have h : b2 = [b01 (decide (vw ((o ++ prime).take 4) < vw ((o ++ prime).drop 4)))] := h
    rw [(pm lo').1, (pm lo').2, decide_eq_true bo'] at h
    subst h
    have l6 : (env ++ [c0] ++ o ++ [c1] ++ s ++ t ++ [b01 true]).length = 16 + 3 := by simp [hl, lo', ls', lt']
    have k6 := keep (ys := [b01 true]) (by omega) k5
    have o6 := keep (ys := [b01 true]) (by omega) o5
    have t6 := keep (ys := [b01 true]) (by omega) t5
    have g6 : (env ++ [c0] ++ o ++ [c1] ++ s ++ t ++ [b01 true]).getD (16 + 2) 0 = b01 true := var_new l5.symm
    refine ⟨fun _ => ?_, fun h => by rw [g6] at h; exact absurd h (by decide)⟩
    have v6 : (vr 0 4 ++ vr (4 + 1) 4 ++ ls prime).map (·.val (env ++ [c0] ++ o ++ [c1] ++ s ++ t ++ [b01 true])) = env ++ o ++ prime := by rw [List.map_append, List.map_append, k6, o6, ls_map]
    obtain ⟨x1, x2⟩ := three_of (y := prime) hl lo'
    refine ⟨by
      rw [v6]
      refine ⟨hi (by decide), (hw.append wo).append wP, ?_⟩
      rw [x2, List.append_assoc, take_app hl]
      exact hb, fun p lp h => ?_⟩
    rw [v6] at h
    obtain ⟨lp', wp, ep⟩ := (h : PrdP 4 ((env ++ o ++ prime).take 4) (((env ++ o ++ prime).drop 4).take 4) ((env ++ o ++ prime).drop 8) p)
    rw [x1, x2, List.append_assoc, take_app hl] at ep
    have l7 : (env ++ [c0] ++ o ++ [c1] ++ s ++ t ++ [b01 true] ++ p).length = 20 + 3 := by simp [hl, lo', ls', lt', lp']
    have t7 := keep (ys := p) (by omega) t6
    have p7 : (vr (16 + 3) 4).map (·.val (env ++ [c0] ++ o ++ [c1] ++ s ++ t ++ [b01 true] ++ p)) = p := vals_new l6.symm lp'.symm
    have v7 : (vr (16 + 3) 4 ++ vr (12 + 2) 4).map (·.val (env ++ [c0] ++ o ++ [c1] ++ s ++ t ++ [b01 true] ++ p)) = p ++ t := by rw [List.map_append, p7, t7]
    refine ⟨by rw [v7]; exact ⟨fun _ => wp.append wt, trivial⟩, fun b3 lb3 h => ?_⟩
    rw [v7] at h
    have h : b3 = [b01 (decide ((p ++ t).take 4 = (p ++ t).drop 4))] := h
    rw [take_app lp', drop_app lp', decide_eq_true (vw_inj (lp'.trans lt'.symm) wp wt (by
      rw [ep, et]
      rw [bw_pow2] at hd
      exact prod_same hd))] at h
    subst h
    refine fin_take (env := env) (by simp only [List.append_assoc]; exact tk _) ?_
    show [(SI.var (20 + 3)).val _] = [1]
    rw [show (SI.var (20 + 3)).val (env ++ [c0] ++ o ++ [c1] ++ s ++ t ++ [b01 true] ++ p ++ [b01 true]) = b01 true from var_new l7.symm]
    rfl
theorem lLaw : ∀ κ ∈ [kLess, kInvA, kZeW, kShf, kPrd, kSame], KOk Try.prog AA κ := by
  intro κ h
  simp only [List.mem_cons, List.not_mem_nil, or_false] at h
  rcases h with rfl | rfl | rfl | rfl | rfl | rfl
  · exact less_ok
  · exact invA_ok
  · exact zeW_ok
  · exact shf_ok
  · exact prd_ok
  · exact same_ok
theorem law_ok : KOk Try.prog AA kLaw := k_of (L := [kLess, kInvA, kZeW, kShf, kPrd, kSame]) lLaw (by kernel_rfl) (by kernel_rfl) (T := lawT) (by kernel_rfl) fun env hl hw _ => lawT_ok hl hw
theorem cellsA : Try.prog.cellsOf 23 = 4 := by kernel_rfl
theorem cellsW : Try.prog.cellsOf 22 = 1 := by kernel_rfl
theorem shutA {H : Type} (enc : TypeId × Value → H) {x0 x1 x2 x3 : Int} (h0 : (Lit.int .u64 x0).wf = true) (h1 : (Lit.int .u64 x1).wf = true) (h2 : (Lit.int .u64 x2).wf = true) (h3 : (Lit.int .u64 x3).wf = true) (W : World) (n : Nat) (sp : Nat → Bool) (hd : Bool) :
    DataW.Trod enc Try.prog W n sp hd 23 (.agg #[.int .u64 x0, .int .u64 x1, .int .u64 x2, .int .u64 x3]) (.agg [.lit (.int .u64 x0), .lit (.int .u64 x1), .lit (.int .u64 x2), .lit (.int .u64 x3)]) [] :=
  ⟨2, by simp [DataW.trod, Value.cells, Try.underlying23, Try.underlying22, cellsA, cellsW, h0, h1, h2, h3, show List.range 4 = [0, 1, 2, 3] from rfl]⟩
theorem lenA {l : List Int} (h : l.length = 4) : ∃ x0 x1 x2 x3, l = [x0, x1, x2, x3] := by
  match l, h with
  | [x0, x1, x2, x3], _ => exact ⟨_, _, _, _, rfl⟩
theorem Try.own : ownKnob Try.prog.godebug = none := by kernel_rfl
theorem law_lifted (os : Os) (started : os.Started) (H : Type) (enc : TypeId × Value → H) :
    ReturnsInHanded {} Try.checked os 3 .any (Rows.fnNrInverseSpec.pre6 enc Try.prog Try.f3 Rows.fnNrInverseRow.domain false) (Rows.fnNrInverseSpec.post enc Try.prog Try.f3 false true false false) := by
  refine returnsInHanded_of_change (C := Try.checked) Try.own started (by kernel_rfl) Try.func3
    (ChangeSpec.witness6 (enc := enc) (C := Try.checked) false ⟨#[], #[.agg #[.int .u64 0, .int .u64 0, .int .u64 0, .int .u64 0]], []⟩ 8 (by kernel_rfl) (by kernel_rfl) (by kernel_rfl) (by kernel_rfl)) ?_
  intro W base args ds gs before hval0 hW hcnd _
  have hval : ∀ (j : Nat) t v, Try.f3.params[j]? = some t → args[j]? = some v → Value.okWide Try.prog W .any base t v := hval0
  have hW' := hW
  obtain ⟨p, q, hA0, hV, rfl, hfz, hnd⟩ := hW
  have hA : DataW.TrodAll enc Try.prog W 0 (fun _ => true) true Try.f3.params.toList args.toList ds p := hA0
  rw [Try.params3] at hA hval
  obtain ⟨v0, d0, rfl, rfl, h0⟩ := trodAll_one hA
  obtain ⟨rfl, rfl⟩ := trodVars_none hV
  obtain ⟨xs, lx, rfl, rfl, rfl, wx⟩ := open_words Try.underlying23 Try.underlying22 cellsA cellsW (hval 0 23 v0 rfl rfl) h0
  obtain ⟨x0, x1, x2, x3, rfl⟩ := lenA lx
  clear hA0 hval0
  simp only [List.append_nil] at hW'
  have a1 : ∀ W' sp, DataW.Trod enc Try.prog W' 0 sp true 23 _ _ [] := fun W' sp => shutA enc (wx x0 (by simp)) (wx x1 (by simp)) (wx x2 (by simp)) (wx x3 (by simp)) W' 0 sp true
  have hw : Wds [x0, x1, x2, x3] := by
    intro z hz
    have hz : z ∈ [x0, x1, x2, x3] := hz
    exact wd_wf (wx z hz)
  have walk := law_calls law_ok rfl rfl (fun _ _ h => h) (env := [x0, x1, x2, x3]) rfl (vs := [.agg #[.int .u64 x0, .int .u64 x1, .int .u64 x2, .int .u64 x3]]) ⟨⟨_, rfl, us_is (i := 0) (n := 4) (by simp) hw⟩, trivial⟩ ⟨fun _ => hw, trivial⟩ W
  refine walk.mono fun e W' ⟨he, hb⟩ => ?_
  subst he
  exact ⟨_, rfl, post_of_below (pa := []) (pv := []) hW' (fun _ _ _ => trodAll_mk1 (shut_bool Try.underlying4 true)) (fun sp _ => trodAll_mk1 (a1 W' sp)) (fun _ _ => rfl) rfl
    hb (ok_one (by kernel_rfl) rfl (okWide_bool_mk Try.underlying4 true))⟩

theorem law_holds : Rows.FnNrInverseSaid :=
  OpenClaim.holds_of_wide 3 Try.f3 rfl rfl rfl rfl rfl rfl rfl ⟨rfl, rfl, rfl, rfl, rfl⟩ rfl rfl rfl rfl rfl (by kernel_rfl) Try.func3 (by kernel_rfl)
    (of_decide_eq_true (by kernel_rfl)) (by unfold Func.isWrapper; first | (rw [if_pos (by decide +kernel)]; kernel_rfl) | (rw [if_neg (by decide +kernel)]; exact ⟨rfl, rfl⟩))
    (fun os started H enc _ => law_lifted os started H enc)
#print axioms law_holds
end Go.Proofs.Ytmnenhkjdhbjmaa
