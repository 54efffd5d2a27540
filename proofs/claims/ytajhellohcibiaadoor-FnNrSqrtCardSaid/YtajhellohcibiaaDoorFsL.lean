/-
  The law on roots as a tree of facts. No conditions.
-/
import Derived.Test.YtajhellohcibiaaDoorFsK
namespace Go.Proofs.YtajhellohcibiaaDoor
open Go Eng Go.RowKit
set_option maxRecDepth 100000
def lawT : Tree := .hav 0 (vr 0 4 ++ ls prime) 1 (.br 4 (.hav 82 (vr 0 4) 5 (.hav 28 (vr 0 4 ++ ls prime) 4 (.hav 85 (vr (8 + 2) 4) 1 (.dfn (.cmp .geq) [.var (12 + 2), .lit 0] (.dfn (.cmp .neq) [.var 9, .var (12 + 3)] (.br (12 + 4) (.fin (enc [.lit 0]) st0)
  (.br 9 (.hav 0 (vr 5 4 ++ ls prime) 1 (.br (12 + 5) (.hav 63 (vr 5 4 ++ vr 5 4 ++ ls prime) 4 (.hav 62 (vr 0 4 ++ ls prime) 4 (.hav 1 (vr (12 + 6) 4 ++ vr (16 + 6) 4) 1 (.fin (enc [.var (20 + 6)]) st0)))) (.fin (enc [.lit 0]) st0))) (.fin (enc [.lit 1]) st0)))))))) (.fin (enc [.lit 1]) st0))
theorem ls_bd2 {q : List Int} {m : Nat} : ∀ z ∈ ls q, Bd m z := ls_bd
theorem law_fin {env : List Int} (hl : env.length = 4) {e : List Int} {o : SI} (ho : o.val (env ++ e) = 1) : (AA.to kLaw).fin (enc [o]) st0 (env ++ e) := fin_of hl (congrArg (fun x => [x]) ho)
theorem lawT_ok {env : List Int} (hl : env.length = 4) (hw : Wds env) : lawT.holds (AA.to kLaw) env := by
  have h1 : (vr 0 4).map (·.val env) = env := one_vr hl
  have hv : (vr 0 4 ++ ls prime).map (·.val env) = env ++ prime := by rw [List.map_append, h1, ls_vals]
  refine ⟨by rw [hv]; exact ⟨fun _ => hw.append wq.wd, trivial⟩, fun t lt h => ?_⟩
  rw [hv] at h
  have h : t = [b01 (decide (vw ((env ++ prime).take 4) < vw ((env ++ prime).drop 4)))] := h
  rw [take_app hl, drop_app hl] at h
  subst h
  have l1 : (env ++ [b01 (decide (vw env < vw prime))]).length = 5 := by simp [hl]
  have g1 : (env ++ [b01 (decide (vw env < vw prime))]).getD 4 0 = b01 (decide (vw env < vw prime)) := at_end hl.symm
  refine ⟨fun h => ?_, fun _ => law_fin hl rfl⟩
  rw [g1] at h
  have hx := of_decide_eq_true ((b01_one _).1 h)
  generalize b01 (decide (vw env < vw prime)) = c0 at *
  have k1 : (vr 0 4).map (·.val (env ++ [c0])) = env := by rw [vals_more (vr_bd (by omega)), h1]
  refine ⟨by rw [k1]; exact ⟨hi (by decide), hw, hx⟩, fun ys ly h => ?_⟩
  rw [k1] at h
  obtain ⟨r, ok, rfl, lr, wr, hok, hroot⟩ := (h : RootP env ys)
  have l2 : (env ++ [c0] ++ (r ++ [b01 ok])).length = 8 + 2 := by simp [hl, lr]
  have k2 : (vr 0 4).map (·.val (env ++ [c0] ++ (r ++ [b01 ok]))) = env := by rw [vals_more (vr_bd (by omega)), k1]
  have kr : (vr 5 4).map (·.val (env ++ [c0] ++ (r ++ [b01 ok]))) = r := by
    rw [← List.append_assoc]
    exact vals_mid l1.symm lr.symm
  have g2 : (env ++ [c0] ++ (r ++ [b01 ok])).getD 9 0 = b01 ok := by
    rw [← List.append_assoc]
    exact at_end (by simp [hl, lr])
  have hv2 : (vr 0 4 ++ ls prime).map (·.val (env ++ [c0] ++ (r ++ [b01 ok]))) = env ++ prime := by rw [List.map_append, k2, ls_vals]
  generalize hE : env ++ [c0] ++ (r ++ [b01 ok]) = E at *
  have pE : ∀ e : List Int, E ++ e = env ++ ([c0] ++ (r ++ [b01 ok]) ++ e) := fun e => by rw [← hE]; simp
  refine ⟨by rw [hv2]; exact ⟨fun _ => hw.append wq.wd, trivial⟩, fun xs lx h => ?_⟩
  rw [hv2] at h
  have h : RegI ((env ++ prime).drop 4) ((env ++ prime).take 4) (64 * 4) xs := h
  rw [take_app hl, drop_app hl] at h
  obtain ⟨_, wx, hreg⟩ := h
  obtain ⟨bx, hreg⟩ := hreg q_odd hx
  rw [← bw_two] at hreg
  have kx : (vr (8 + 2) 4).map (·.val (E ++ xs)) = xs := vals_new l2.symm lx.symm
  refine ⟨by rw [kx]; exact ⟨hi (by decide), wx, bx⟩, fun cs lc h => ?_⟩
  rw [kx] at h
  have h : cs = [chi (vw xs)] := h
  subst h
  have hiff : ok = true ↔ 0 ≤ chi (vw xs) := hok _ (vw_bounds wx).1 bx hreg
  have l3 : (E ++ xs ++ [chi (vw xs)]).length = 12 + 3 := by simp [l2]; omega
  have g3 : (E ++ xs ++ [chi (vw xs)]).getD (12 + 2) 0 = chi (vw xs) := at_end (by simp [l2]; omega)
  refine hold_dfn0 (v := b01 ok) ?_ ?_
  · show b01 (cmpEv .geq ((SI.var (12 + 2)).val _) 0) = _
    rw [show (SI.var (12 + 2)).val (E ++ xs ++ [chi (vw xs)]) = chi (vw xs) from g3]
    show b01 (decide (chi (vw xs) ≥ 0)) = b01 ok
    congr 1
    cases ok
    · exact decide_eq_false fun h => by have := hiff.2 h; cases this
    · exact decide_eq_true (hiff.1 rfl)
  refine hold_dfn (v := b01 false) ?_ ?_
  · show b01 (cmpEv .neq ((SI.var 9).val _) ((SI.var (12 + 3)).val _)) = _
    have e1 : (SI.var 9).val (E ++ xs ++ [chi (vw xs)] ++ [b01 ok]) = b01 ok := by
      show (E ++ xs ++ [chi (vw xs)] ++ [b01 ok]).getD _ 0 = _
      rw [at_old (by omega), List.append_assoc, at_old (by omega)]
      exact g2
    have e2 : (SI.var (12 + 3)).val (E ++ xs ++ [chi (vw xs)] ++ [b01 ok]) = b01 ok := at_end l3.symm
    rw [e1, e2]
    show b01 (b01 ok != b01 ok) = _
    simp
  have g4 : (E ++ xs ++ [chi (vw xs)] ++ ([b01 ok] ++ [b01 false])).getD (12 + 4) 0 = b01 false := by
    rw [← List.append_assoc]
    exact at_end (by simp [l2]; omega)
  have g5 : (E ++ xs ++ [chi (vw xs)] ++ ([b01 ok] ++ [b01 false])).getD 9 0 = b01 ok := by
    rw [at_old (by omega), List.append_assoc, at_old (by omega)]
    exact g2
  have kr5 : (vr 5 4).map (·.val (E ++ xs ++ [chi (vw xs)] ++ ([b01 ok] ++ [b01 false]))) = r := by
    rw [List.append_assoc, List.append_assoc, vals_more (vr_bd (by omega)), kr]
  have k5 : (vr 0 4).map (·.val (E ++ xs ++ [chi (vw xs)] ++ ([b01 ok] ++ [b01 false]))) = env := by
    rw [List.append_assoc, List.append_assoc, vals_more (vr_bd (by omega)), k2]
  have l5 : (E ++ xs ++ [chi (vw xs)] ++ ([b01 ok] ++ [b01 false])).length = 12 + 5 := by simp [l2]; omega
  have p5 : ∃ d, E ++ xs ++ [chi (vw xs)] ++ ([b01 ok] ++ [b01 false]) = env ++ d := ⟨_, by rw [List.append_assoc, List.append_assoc, pE]⟩
  generalize E ++ xs ++ [chi (vw xs)] ++ ([b01 ok] ++ [b01 false]) = H at *
  obtain ⟨d5, rfl⟩ := p5
  refine ⟨fun h => ?_, fun _ => ⟨fun h => ?_, fun _ => law_fin hl rfl⟩⟩
  · rw [g4] at h
    cases (b01_one _).1 h
  rw [g5] at h
  obtain ⟨br, hrr⟩ := hroot ((b01_one _).1 h)
  have hv6 : (vr 5 4 ++ ls prime).map (·.val (env ++ d5)) = r ++ prime := by rw [List.map_append, kr5, ls_vals]
  refine ⟨by rw [hv6]; exact ⟨fun _ => wr.append wq.wd, trivial⟩, fun t lt h => ?_⟩
  rw [hv6] at h
  have h : t = [b01 (decide (vw ((r ++ prime).take 4) < vw ((r ++ prime).drop 4)))] := h
  rw [take_app lr, drop_app lr, decide_eq_true br] at h
  subst h
  have g6 : (env ++ d5 ++ [b01 true]).getD (12 + 5) 0 = b01 true := at_end l5.symm
  refine ⟨fun _ => ?_, fun h => by rw [g6] at h; cases h⟩
  have l6 : (env ++ d5 ++ [b01 true]).length = 12 + 6 := by simp only [List.length_append] at l5 ⊢; simp; omega
  have kr6 : (vr 5 4 ++ vr 5 4 ++ ls prime).map (·.val (env ++ d5 ++ [b01 true])) = r ++ r ++ prime := by
    rw [List.map_append, List.map_append, vals_more (vr_bd (by omega)), kr5, ls_vals]
  refine ⟨by rw [kr6]; exact ⟨hi (by decide), (wr.append wr).append wq.wd, by
    show vw ((r ++ r ++ prime).take 4) < vw ((r ++ r ++ prime).drop 8)
    rw [app_drop2 lr lr, List.append_assoc, take_app lr]; exact br⟩, fun ps lp h => ?_⟩
  rw [kr6] at h
  have h : PrdP 4 ((r ++ r ++ prime).take 4) (((r ++ r ++ prime).drop 4).take 4) ((r ++ r ++ prime).drop 8) ps := h
  rw [app_drop2 lr lr, app_mid lr lr, List.append_assoc, take_app lr] at h
  obtain ⟨_, wp, vp⟩ := h
  have k7 : (vr 0 4 ++ ls prime).map (·.val (env ++ d5 ++ [b01 true] ++ ps)) = env ++ prime := by
    rw [List.map_append, ls_vals, List.append_assoc, vals_more (vr_bd (by omega)), k5]
  refine ⟨by rw [k7]; exact ⟨hi (by decide), hw.append wq.wd, by
    show vw ((env ++ prime).take 4) < vw ((env ++ prime).drop 4)
    rw [take_app hl, drop_app hl]; exact hx⟩, fun ss lsn h => ?_⟩
  rw [k7] at h
  have h : ShfP 4 ((env ++ prime).take 4) ((env ++ prime).drop 4) ss := h
  rw [take_app hl, drop_app hl] at h
  obtain ⟨_, ws, vs⟩ := h
  have same : ps = ss := by
    refine vw_inj (lp.trans lsn.symm) wp ws ?_
    rw [vp, vs, ← bw_two]
    exact Int.emod_eq_emod_iff_emod_sub_eq_zero.2 (Int.emod_eq_zero_of_dvd hrr)
  have l7 : (env ++ d5 ++ [b01 true] ++ ps).length = 16 + 6 := by rw [List.length_append, l6, lp]
  have kp : (vr (12 + 6) 4).map (·.val (env ++ d5 ++ [b01 true] ++ ps ++ ss)) = ps := vals_mid l6.symm lp.symm
  have ks : (vr (16 + 6) 4).map (·.val (env ++ d5 ++ [b01 true] ++ ps ++ ss)) = ss := vals_new l7.symm lsn.symm
  have k8 : (vr (12 + 6) 4 ++ vr (16 + 6) 4).map (·.val (env ++ d5 ++ [b01 true] ++ ps ++ ss)) = ps ++ ss := by rw [List.map_append, kp, ks]
  refine ⟨by rw [k8]; exact ⟨fun _ => wp.append ws, trivial⟩, fun t lt h => ?_⟩
  rw [k8] at h
  have h : t = [b01 (decide ((ps ++ ss).take 4 = (ps ++ ss).drop 4))] := h
  rw [take_app lp, drop_app lp, decide_eq_true same] at h
  subst h
  have g8 : (SI.var (20 + 6)).val (env ++ d5 ++ [b01 true] ++ ps ++ ss ++ [b01 true]) = 1 := at_end (by rw [List.length_append, l7, lsn])
  rw [show env ++ d5 ++ [b01 true] ++ ps ++ ss ++ [b01 true] = env ++ (d5 ++ [b01 true] ++ ps ++ ss ++ [b01 true]) by simp] at g8 ⊢
  exact law_fin hl g8
theorem lLaw : ∀ κ ∈ [kLess, kSqrt, kReg, kChar, kPrd, kShf, kSame], KIn GOk Tryd.prog AA κ := by
  intro κ h
  simp only [List.mem_cons, List.not_mem_nil, or_false] at h
  rcases h with rfl | rfl | rfl | rfl | rfl | rfl | rfl
  · exact less_ok.kin
  · exact sqrt_in
  · exact reg_ok.kin
  · exact char_ok.kin
  · exact prd_ok.kin
  · exact shf_ok.kin
  · exact same_ok.kin
theorem law_in : KIn GOk Tryd.prog AA kLaw := k_in (L := [kLess, kSqrt, kReg, kChar, kPrd, kShf, kSame]) lLaw rfl (by kernel_rfl) (by kernel_rfl) (T := lawT) (by kernel_rfl) fun env hl hw _ => lawT_ok hl hw
end Go.Proofs.YtajhellohcibiaaDoor
