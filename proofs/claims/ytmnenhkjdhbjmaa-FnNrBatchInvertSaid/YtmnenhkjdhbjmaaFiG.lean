/-
  The inverse of an element: by the loops, the check behind them, and the power where the check fails. No conditions.
-/
import Derived.Test.YtmnenhkjdhbjmaaFiF
import Derived.Test.YtmnenhkjdhbjmaaIL
import Derived.Test.YtmnenhkjdhbjmaaPrimenr
namespace Go.Proofs.Ytmnenhkjdhbjmaa
open Go Eng Go.RowKit
set_option maxRecDepth 100000
def kExp : K := { f := 36, args := [pt 0, ar 4 4], mem := [(us 0 4, true)], m := 8, id := 59, mout := 4, ret := pt 0, mem1 := [(us 8 4, true)] }
theorem wds_zeros (k : Nat) : Wds (List.replicate k 0) := fun x hx => by rw [List.eq_of_mem_replicate hx]; exact ⟨by decide, by decide⟩
theorem ls_map (q env : List Int) : (ls q).map (·.val env) = q := ls_vals
noncomputable def CE : Cfg := CP [] [((36, 0), pExp)]
theorem exp_ok : KOk Try.prog AA kExp :=
  kok_of (C := CE) mixed ext0 (conOf_ok (by simp)) (pcOf_ok (by
    intro q hq
    simp only [List.mem_cons, List.not_mem_nil, or_false] at hq
    subst hq
    exact ⟨by decide, expLoop_ok⟩)) 60 (by kernel_rfl) fun env hl _ hp => by
    have ht : xcall CE (fun f => xcode CE 60 f 0) kExp.f kExp.args kExp.st kExp.end = .hav 73 (vr 4 4 ++ vr 4 4) 4 (.fin (enc (vr 8 4)) st0) := by kernel_rfl
    rw [ht]
    have hl' : env.length = 8 := hl
    obtain ⟨hw, hb⟩ := (hp.2 : Wds env ∧ vw (env.drop 4) < vw prime)
    have hx : (vr 4 4).map (·.val env) = env.drop 4 := by rw [vr_vals (by omega), List.take_of_length_le (by simp; omega)]
    have lx : (env.drop 4).length = 4 := by simp; omega
    have hv : (vr 4 4 ++ vr 4 4).map (·.val env) = env.drop 4 ++ env.drop 4 := by rw [List.map_append, hx]
    have wx := hw.drop 4
    refine ⟨by rw [hv]; exact ⟨hi (by decide), wx.append wx, by rw [take_app lx, drop_app lx], by rw [drop_app lx]; exact hb⟩, fun ys hy h => ?_⟩
    rw [hv] at h
    have h : PowM 4 prime ((env.drop 4 ++ env.drop 4).drop 4) (vw prime - 2).toNat ys := h
    rw [drop_app lx] at h
    refine fin_take (List.take_left' hl) ?_
    rw [vals_new hl'.symm (show 4 = ys.length from hy.symm)]
    exact h

/-! ### the inverse -/
def corr : List Int := [13488105295233737379, 17373395488625725466, 6831692495576925776, 3282329835997625403]
def psq : List Int := 4611686018427387904 :: List.replicate (4 - 1) 0
theorem corr_wd : Wds corr := by
  intro x hx
  simp only [corr, List.mem_cons, List.not_mem_nil, or_false] at hx
  rcases hx with h | h | h | h <;> subst h <;> exact ⟨by decide, by decide⟩
theorem corr_lt : vw corr < vw prime := by decide
theorem psq_wd : Wds psq := wds_cons ⟨by decide, by decide⟩ (wds_zeros _)
theorem psq_lt : vw psq < vw prime := by decide
def rest0 : List Int := 1 :: List.replicate (4 - 1 + 8 + 7) 0
theorem rest0_wd : Wds rest0 := wds_cons ⟨by decide, by decide⟩ (wds_zeros _)
theorem three_of {z x y : List Int} (lz : z.length = 4) (lx : x.length = 4) : ((z ++ x ++ y).drop 4).take 4 = x ∧ (z ++ x ++ y).drop 8 = y := by
  refine ⟨by rw [List.append_assoc, drop_app lz, take_app lx], List.drop_left' (by simp [lz, lx])⟩
theorem lV : ∀ κ ∈ [kMulE, kOne, kZero, kExp], KOk Try.prog AA κ := by
  intro κ h
  simp only [List.mem_cons, List.not_mem_nil, or_false] at h
  rcases h with rfl | rfl | rfl | rfl
  · exact mulE_ok
  · exact one_ok
  · exact zero_ok
  · exact exp_ok
def kInv : K := { f := 18, args := [pt 0, pt 1], mem := [(us 0 4, true), (us 4 4, false)], m := 8, id := 60, mout := 4, ret := pt 0, mem1 := [(us 8 4, true), (us 4 4, false)] }
noncomputable def CV : Cfg := CP [kMulE, kOne, kZero, kExp] [((18, 0), pOut), ((18, 8), pShr)]
def invT : Tree :=
  .hav 71 (vr 0 4 ++ vr 4 4 ++ vr 4 4 ++ ls prime ++ ls rest0) (20 + 1)
  (.hav 72 (vr 0 4 ++ vr 4 4 ++ ls psq ++ vr 16 4 ++ vr 20 4 ++ [.var 28]) 4
  (.hav 30 (vr 0 4 ++ vr (28 + 1) 4 ++ ls corr) 4
  (.hav 30 (vr (28 + 1) 4 ++ vr 4 4 ++ vr (32 + 1) 4) 4
  (.hav 66 (vr (36 + 1) 4) 1 (.br (40 + 1) (.fin (enc (vr (32 + 1) 4)) st0)
    (.hav 65 (vr 4 4) 1 (.br (40 + 2) (.fin (enc (vr (32 + 1) 4)) st0)
      (.hav 59 (vr (32 + 1) 4 ++ vr 4 4) 4 (.fin (enc (vr (40 + 3) 4)) st0)))))))))
theorem invT_ok {env : List Int} (hl : env.length = 8) (hw : Wds env) (hb : vw (env.drop 4) < vw prime) : invT.holds (AA.to kInv) env := by
  have kz : (vr 0 4).map (·.val env) = env.take 4 := by rw [vr_vals (by omega), List.drop_zero]
  have kx : (vr 4 4).map (·.val env) = env.drop 4 := by rw [vr_vals (by omega), List.take_of_length_le (by simp; omega)]
  have lz : (env.take 4).length = 4 := by simp; omega
  have lx : (env.drop 4).length = 4 := by simp; omega
  have wz := hw.take 4
  have wx := hw.drop 4
  have lP : prime.length = 4 := rfl
  generalize hz : env.take 4 = z at *
  generalize hx : env.drop 4 = x at *
  -- the outer loop
  have v1 : (vr 0 4 ++ vr 4 4 ++ vr 4 4 ++ ls prime ++ ls rest0).map (·.val env) = z ++ x ++ x ++ prime ++ rest0 := by simp only [List.map_append, kz, kx, ls_map]
  have hbk : bk (24 + 7) (z ++ x ++ x ++ prime ++ rest0) = x ++ x ++ prime ++ rest0 := by
    rw [show z ++ x ++ x ++ prime ++ rest0 = z ++ (x ++ x ++ prime ++ rest0) by simp]
    exact bk_end (by simp [lx, lP, rest0])
  have d1 : (x ++ x ++ prime ++ rest0).take 4 = x := by rw [List.append_assoc, List.append_assoc, take_app lx]
  have d2 : ((x ++ x ++ prime ++ rest0).drop 4).take 4 = x := by rw [List.append_assoc, List.append_assoc, drop_app lx, take_app lx]
  have d3 : ((x ++ x ++ prime ++ rest0).drop (2 * 4)).take 4 = prime := by rw [List.append_assoc, List.drop_left' (by simp [lx]), take_app lP]
  have d5 : ((x ++ x ++ prime ++ rest0).drop (4 * 4)).take 4 = List.replicate 4 0 := by
    rw [show 4 * 4 = (x ++ x ++ prime).length + 4 by simp [lx, lP], ← List.drop_drop, List.drop_left]
    rfl
  have d6 : (x ++ x ++ prime ++ rest0).getD (6 * 4 + 6) 0 = 0 := by
    rw [List.getD_eq_getElem?_getD, List.getElem?_append_right (by simp [lx, lP])]
    simp [lx, lP]
    rfl
  refine ⟨by
    rw [v1]
    refine ⟨hi (by decide), ?_⟩
    show OutI 4 _
    unfold OutI
    rw [hbk, d1, d2, d3, d5, d6]
    exact ⟨q_odd, fun h => ⟨h, rfl, vw_zeros _⟩⟩, fun ys hy h => ?_⟩
  rw [v1] at h
  obtain ⟨wy, hv0⟩ := (h : OutP 4 (z ++ x ++ x ++ prime ++ rest0) ys)
  rw [hbk, d1] at hv0
  clear d1 d2 d3 d5 d6 v1 hbk
  have l1 : (env ++ ys).length = 28 + 1 := by simp [hl, hy]
  have kz1 := keep (ys := ys) (by omega) kz
  have kx1 := keep (ys := ys) (by omega) kx
  have cut : ∀ k, k + 4 ≤ 20 + 1 → (vr (8 + k) 4).map (·.val (env ++ ys)) = (ys.drop k).take 4 := fun k hk => by
    rw [vr_vals (by simp; omega), ← List.drop_drop, List.drop_left' hl]
  have ku : (vr 16 4).map (·.val (env ++ ys)) = (ys.drop 8).take 4 := cut 8 (by decide)
  have kv : (vr 20 4).map (·.val (env ++ ys)) = (ys.drop 12).take 4 := cut 12 (by decide)
  have ki : Wd ((SI.var 28).val (env ++ ys)) := by
    rw [show (SI.var 28).val (env ++ ys) = ys.getD 20 0 from getD_at (ne := 8) hl.symm 20]
    exact wy.get _
  have wu := (wy.drop 8).take 4
  have wv := (wy.drop 12).take 4
  have lu : ((ys.drop 8).take 4).length = 4 := by simp; omega
  have lv : ((ys.drop 12).take 4).length = 4 := by simp; omega
  generalize (ys.drop 8).take 4 = u at *
  generalize (ys.drop 12).take 4 = v at *
  generalize hi1 : (SI.var 28).val (env ++ ys) = i1 at *
  -- the products that were missed
  have lp : psq.length = 4 := rfl
  have v2 : (vr 0 4 ++ vr 4 4 ++ ls psq ++ vr 16 4 ++ vr 20 4 ++ [SI.var 28]).map (·.val (env ++ ys)) = z ++ x ++ psq ++ u ++ v ++ [i1] := by
    simp only [List.map_append, List.map_cons, List.map_nil, kz1, kx1, ku, kv, hi1, ls_map]
  have d2 : (bk 13 (z ++ x ++ psq ++ u ++ v ++ [i1])).take 4 = psq := by
    rw [show z ++ x ++ psq ++ u ++ v ++ [i1] = (z ++ x) ++ (psq ++ (u ++ v ++ [i1])) by simp, bk_end (by simp [lp, lu, lv]), take_app lp]
  have d4 : (bk 5 (z ++ x ++ psq ++ u ++ v ++ [i1])).take 4 = v := by
    rw [show z ++ x ++ psq ++ u ++ v ++ [i1] = (z ++ x ++ psq ++ u) ++ (v ++ [i1]) by simp, bk_end (by simp [lv]), take_app lv]
  refine ⟨by
    rw [v2]
    exact ⟨hi (by decide), ((((wz.append wx).append psq_wd).append wu).append wv).append (wds_cons ki wds_nil), by rw [d2]; exact psq_lt⟩, fun w hlw h => ?_⟩
  rw [v2] at h
  obtain ⟨lw, ww, hw0⟩ := (h : ShrP 4 (z ++ x ++ psq ++ u ++ v ++ [i1]) w)
  rw [d4] at hw0
  have hz0 : vw x = 0 → vw w = 0 := fun h => hw0 (hv0 h)
  clear d2 d4 v2 hw0 hv0 hlw ku kv cut hi1 ki
  have l2 : (env ++ ys ++ w).length = 32 + 1 := by simp [hl, hy, lw]
  have kz2 := keep (ys := w) (by omega) kz1
  have kx2 := keep (ys := w) (by omega) kx1
  have kw2 : (vr (28 + 1) 4).map (·.val (env ++ ys ++ w)) = w := vals_new l1.symm lw.symm
  -- z = v * corr
  have v3 : (vr 0 4 ++ vr (28 + 1) 4 ++ ls corr).map (·.val (env ++ ys ++ w)) = z ++ w ++ corr := by rw [List.map_append, List.map_append, kz2, kw2, ls_map]
  obtain ⟨t1, t2⟩ := three_of (y := corr) lz lw
  refine ⟨by
    rw [v3]
    exact ⟨fun _ => (wz.append ww).append corr_wd, by show vw ((z ++ w ++ corr).drop 8) < _; rw [t2]; exact corr_lt⟩, fun r lr h => ?_⟩
  rw [v3] at h
  have hr : MulM 4 prime (((z ++ w ++ corr).drop 4).take 4) ((z ++ w ++ corr).drop 8) r := h
  rw [t1, t2] at hr
  have hr0 : vw x = 0 → vw r = 0 := fun h => mul_zero_of (hz0 h) hr
  obtain ⟨lr', wr, br, _⟩ := hr
  clear h v3 t1 t2 hz0
  have l3 : (env ++ ys ++ w ++ r).length = 36 + 1 := by simp [hl, hy, lw, lr']
  have kx3 := keep (ys := r) (by omega) kx2
  have kw3 := keep (ys := r) (by omega) kw2
  have kr3 : (vr (32 + 1) 4).map (·.val (env ++ ys ++ w ++ r)) = r := vals_new l2.symm lr'.symm
  -- v = u * z
  have v4 : (vr (28 + 1) 4 ++ vr 4 4 ++ vr (32 + 1) 4).map (·.val (env ++ ys ++ w ++ r)) = w ++ x ++ r := by rw [List.map_append, List.map_append, kw3, kx3, kr3]
  obtain ⟨t1, t2⟩ := three_of (y := r) lw lx
  refine ⟨by
    rw [v4]
    exact ⟨fun _ => (ww.append wx).append wr, by show vw ((w ++ x ++ r).drop 8) < _; rw [t2]; exact br⟩, fun s ls' h => ?_⟩
  rw [v4] at h
  have hs : MulM 4 prime (((w ++ x ++ r).drop 4).take 4) ((w ++ x ++ r).drop 8) s := h
  rw [t1, t2] at hs
  obtain ⟨ls2, ws, bs, ds⟩ := hs
  clear h v4 t1 t2
  have l4 : (env ++ ys ++ w ++ r ++ s).length = 40 + 1 := by simp [hl, hy, lw, lr', ls2]
  have kx4 := keep (ys := s) (by omega) kx3
  have kr4 := keep (ys := s) (by omega) kr3
  have ks4 : (vr (36 + 1) 4).map (·.val (env ++ ys ++ w ++ r ++ s)) = s := vals_new l3.symm ls2.symm
  -- the check
  refine ⟨by rw [ks4]; exact ⟨hi (by decide), ws⟩, fun b1 lb1 h => ?_⟩
  rw [ks4] at h
  have h : b1 = [b01 (decide (s = one))] := h
  subst h
  have kx5 := keep (ys := [b01 (decide (s = one))]) (by omega) kx4
  have kr5 := keep (ys := [b01 (decide (s = one))]) (by omega) kr4
  have g5 : (env ++ ys ++ w ++ r ++ s ++ [b01 (decide (s = one))]).getD (40 + 1) 0 = b01 (decide (s = one)) := var_new l4.symm
  have tk : ∀ l : List Int, (env ++ ys ++ w ++ r ++ s ++ l).take kInv.m = env := fun l => by simp only [List.append_assoc]; exact List.take_left' hl
  refine ⟨fun h1 => ?_, fun _ => ?_⟩
  · rw [g5] at h1
    have hone : s = one := of_decide_eq_true ((b01_one _).1 h1)
    refine fin_take (tk _) ?_
    rw [kr5]
    show InvP 4 prime (env.drop 4) r
    rw [hx]
    refine ⟨lr', wr, br, hr0, fun _ => ?_⟩
    rw [hone] at ds
    obtain ⟨c, hc⟩ := ds
    obtain ⟨d, hd⟩ := one_is
    refine ⟨BW ^ 4 * d - c, ?_⟩
    rw [Int.mul_sub, ← hc, Int.mul_left_comm, ← hd, Int.mul_sub, Int.mul_comm (BW ^ 4) (vw one)]
    omega
  · refine ⟨by rw [kx5]; exact ⟨hi (by decide), wx⟩, fun b2 lb2 h => ?_⟩
    rw [kx5] at h
    have h : b2 = [b01 (decide (vw x = 0))] := h
    subst h
    have l5 : (env ++ ys ++ w ++ r ++ s ++ [b01 (decide (s = one))]).length = 40 + 2 := by simp [hl, hy, lw, lr', ls2]
    have l6 : (env ++ ys ++ w ++ r ++ s ++ [b01 (decide (s = one))] ++ [b01 (decide (vw x = 0))]).length = 40 + 3 := by simp [hl, hy, lw, lr', ls2]
    have kx6 := keep (ys := [b01 (decide (vw x = 0))]) (by omega) kx5
    have kr6 := keep (ys := [b01 (decide (vw x = 0))]) (by omega) kr5
    have g6 : (env ++ ys ++ w ++ r ++ s ++ [b01 (decide (s = one))] ++ [b01 (decide (vw x = 0))]).getD (40 + 2) 0 = b01 (decide (vw x = 0)) := var_new l5.symm
    refine ⟨fun h2 => ?_, fun h2 => ?_⟩
    · rw [g6] at h2
      have h0 : vw x = 0 := of_decide_eq_true ((b01_one _).1 h2)
      refine fin_take (env := env) (by rw [List.append_assoc]; exact tk _) ?_
      rw [kr6]
      show InvP 4 prime (env.drop 4) r
      rw [hx]
      exact ⟨lr', wr, br, hr0, fun h => absurd h0 h⟩
    · rw [g6] at h2
      have h0 : ¬ vw x = 0 := of_decide_eq_false ((b01_zero _).1 h2)
      have v7 : (vr (32 + 1) 4 ++ vr 4 4).map (·.val (env ++ ys ++ w ++ r ++ s ++ [b01 (decide (s = one))] ++ [b01 (decide (vw x = 0))])) = r ++ x := by rw [List.map_append, kr6, kx6]
      refine ⟨by
        rw [v7]
        exact ⟨hi (by decide), wr.append wx, by rw [drop_app lr']; exact hb⟩, fun t lt h => ?_⟩
      rw [v7] at h
      have ht : PowM 4 prime ((r ++ x).drop 4) (vw prime - 2).toNat t := h
      rw [drop_app lr'] at ht
      refine fin_take (env := env) (by rw [List.append_assoc, List.append_assoc]; exact tk _) ?_
      rw [vals_new l6.symm (show 4 = t.length from ht.1.symm)]
      show InvP 4 prime (env.drop 4) t
      rw [hx]
      exact ⟨ht.1, ht.2.1, ht.2.2.1, fun h => absurd h h0, fun _ => inv_pow NT.pr_nr (by decide +kernel) (by decide +kernel) wx hb h0 ht⟩
theorem inv_ok : KOk Try.prog AA kInv :=
  kok_of (C := CV) mixed ext0 (conOf_ok lV) (pcOf_ok (by
    intro q hq
    simp only [List.mem_cons, List.not_mem_nil, or_false] at hq
    rcases hq with rfl | rfl
    · exact ⟨by decide, outLoop_ok⟩
    · exact ⟨by decide, shrLoop_ok⟩)) 60 (by kernel_rfl) fun env hl _ hp => by
    have ht : xcall CV (fun f => xcode CV 60 f 0) kInv.f kInv.args kInv.st kInv.end = invT := by kernel_rfl
    rw [ht]
    obtain ⟨hw, hb⟩ := (hp.2 : Wds env ∧ vw (env.drop 4) < vw prime)
    exact invT_ok hl hw hb
def kInvA : K := { f := 8, args := [ar 0 4], mem := [], m := 4, id := 61, mout := 4, ret := ar 4 4, mem1 := [] }
theorem lInv : ∀ κ ∈ [kInv], KOk Try.prog AA κ := by
  intro κ h
  simp only [List.mem_cons, List.not_mem_nil, or_false] at h
  rcases h with rfl
  · exact inv_ok
theorem invA_ok : KOk Try.prog AA kInvA := k_of' (L := [kInv]) lInv (by kernel_rfl) (T := .hav 60 (List.replicate 4 (.lit 0) ++ vr 0 4) 4 (.fin (enc (vr 4 4)) st0)) (by kernel_rfl) fun env hl hp => by
  obtain ⟨hw, hb⟩ := (hp : Wds env ∧ vw env < vw prime)
  have hl' : env.length = 4 := hl
  have hv : (List.replicate 4 (SI.lit 0) ++ vr 0 4).map (·.val env) = List.replicate 4 0 ++ env := by rw [List.map_append, one_vr hl', List.map_replicate]; rfl
  refine ⟨by rw [hv]; exact ⟨hi (by decide), (wds_zeros _).append hw, by rw [drop_app (by simp)]; exact hb⟩, fun ys hy h => ?_⟩
  rw [hv] at h
  have h : InvP 4 prime ((List.replicate 4 0 ++ env).drop 4) ys := h
  rw [drop_app (by simp)] at h
  refine fin_take (List.take_left' hl) ?_
  rw [vals_new hl'.symm (show 4 = ys.length from hy.symm)]
  exact h
end Go.Proofs.Ytmnenhkjdhbjmaa
