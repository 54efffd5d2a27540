/-
  The symbol: its inner and its outer loop, itself. No conditions.
-/
import Derived.Test.YtmnenhkjdhbjmaaFjC
namespace Go.Proofs.Ytmnenhkjdhbjmaa
open Go Eng Go.RowKit
set_option maxRecDepth 100000
def cI (x : Nat) : SW := .cc (.ii .i64 (.var x))
def cU (x : Nat) : SW := .cc (.ii .u64 (.var x))
def cP (x : Nat) : SW := .cc (.pp x 0)
def kAppL : K := { f := 40, args := [pt 0, i1 4], mem := [(us 0 4, false)], m := 5, id := 49, mout := 1, ret := w1 5, mem1 := [(us 0 4, false)] }
theorem appL_ok : KOk Try.prog AA kAppL := k_of' (L := []) (by simp) (by kernel_rfl) (T := apprT 32 (vr 0 4) (.var 4) 5) (by kernel_rfl) fun env hl hp => by
  obtain ⟨x, M, rfl, lx, wx, hM, hv⟩ := hp
  have hl' : (x ++ [(M : Int)]).length = 5 := hl
  have v1 : (vr 0 4).map (·.val (x ++ [(M : Int)])) = x := by rw [vr_vals (by omega), List.drop_zero, take_app lx]
  refine apprT_ok (A := AA.to kAppL) (by decide) (by decide) (n := 4) (by decide) (by decide) hl'.symm vr_length (vr_bd (by decide)) (show 4 < 5 by decide) v1 wx (get_end lx _ _) hM hv fun e o ho => fin_of hl ?_
  show ApprP 32 ((x ++ [(M : Int)]).take 4) ((x ++ [(M : Int)]).getD 4 0) _
  rw [get_end lx, take_app lx]
  exact ho
/-! ### the inner loop -/
def lR3 : List (List SC × Bool) := [(us 0 4, false), (us 4 4, false), (us 8 4, false)]
def lP3 : List SW := [cP 0, cP 1, cP 2]
noncomputable def pLn : PC := { nt := Try.f24.ntmps, sl := [5, 6, 10, 11, 8, 33] ++ [3, 4, 7], args := [cI 12, cI (12 + 1), cU (12 + 2), cU (12 + 3), cI (12 + 4), .cc (.ii .i64 (.lit 0))] ++ lP3, mem := lR3, m := 12 + 5, ex := [{ e := .exit 2, out := [5, 6, 11, 8] ++ [3, 4, 7], id := 77, mout := 4, ret := [cI (12 + 5), cI (12 + 6), cU (12 + 7), cI (12 + 8)] ++ lP3, mem1 := lR3 }] }
noncomputable def hLn : Nat → HS
  | 0 => pLn.h0
  | i + 1 => { mout := 5, ret := [cI (12 + 5), cI (12 + 6), cU (12 + 7), cU (12 + 8), cI (12 + 9), .cc (.ii .i64 (.lit ((i + 1 : Nat) : Int)))] ++ lP3, mem1 := lR3 }
def exLn : Nat → Tree
  | 0 => lgT (.var (12 + 0)) (.var (12 + 1)) (.var (12 + 2)) (.var (12 + 3)) (.var (12 + 4)) (12 + 5)
  | i + 1 => bif Nat.beq i 29 then .fin (enc [.var (12 + 5), .var (12 + 6), .var (12 + 8), .var (12 + 9)]) { st0 with fn := 1 } else lgT (.var (12 + 5)) (.var (12 + 6)) (.var (12 + 7)) (.var (12 + 8)) (.var (12 + 9)) (12 + 10)
noncomputable def rdLn (i : Nat) : Tree := xcode (CC []) 60 24 2 (bodyOf Try.prog 24 4) (headSt pLn (hLn i)) (kend pLn (hLn (i + 1)))
theorem rdLn_eq {i : Nat} (hi : i < 31) : rdLn i = exLn i :=
  all_trees (f := rdLn) (g := exLn) (n := 31) (by kernel_rfl) hi
def LnPre (env : List Int) : Prop := ∃ l X Y v, env = l ++ [1, 4294967296, X, Y, v] ∧ Wd X ∧ Wd Y ∧ Y % 2 = 1 ∧ (v = 1 ∨ v = -1)
def invLn (i : Nat) (env ys : List Int) : Prop := i ≤ 30 ∧ InL (2 ^ i) (env.getD (12 + 2) 0) (env.getD (12 + 3) 0) (env.getD (12 + 4) 0) (match i with | 0 => env.drop 12 | _ + 1 => ys)
theorem len5 {l : List Int} (h : l.length = 5) : ∃ a b c d e, l = [a, b, c, d, e] := by
  match l, h with
  | [a, b, c, d, e], _ => exact ⟨a, b, c, d, e, rfl⟩
theorem ln_round (i : Nat) (env ys : List Int) (hl : env.length = 12 + 5) (hy : ys.length = (hLn i).mout) (hi : invLn i env ys) : (rdLn i).holds (AA.rnd pLn i (hLn i) invLn (fun i _ _ => 31 - i)) (env ++ ys) := by
  obtain ⟨hi, hr⟩ := hi
  rw [rdLn_eq (show i < 31 by omega)]
  have htake : ∀ e, (env ++ ys ++ e).take pLn.m = env := fun e => by rw [List.append_assoc]; exact List.take_left' hl
  have go : ∀ (c0 c1 a b l : SI) (ne : Nat), i ≤ 29 → ne = (env ++ ys).length → Bd ne c0 → Bd ne c1 → Bd ne a → Bd ne b → Bd ne l → InL (2 ^ i) (env.getD (12 + 2) 0) (env.getD (12 + 3) 0) (env.getD (12 + 4) 0) [c0.val (env ++ ys), c1.val (env ++ ys), a.val (env ++ ys), b.val (env ++ ys), l.val (env ++ ys)] →
      (lgT c0 c1 a b l ne).holds (AA.rnd pLn i (hLn i) invLn (fun i _ _ => 31 - i)) (env ++ ys) := by
    intro c0 c1 a b l ne h29 hne b0 b1 ba bb bl hs
    refine lgT_ok h29 hne b0 b1 ba bb bl hs fun e os h => ?_
    show invLn (i + 1) ((env ++ ys ++ e).take pLn.m) ((dec (enc os)).map (·.val (env ++ ys ++ e))) ∧ _
    rw [dec_enc, htake]
    exact ⟨⟨by omega, h⟩, by show 31 - (i + 1) < 31 - i; omega⟩
  match i, hy, hi, hr, go with
  | 0, hy, hi, hr, go =>
    have hy : ys = [] := List.eq_nil_of_length_eq_zero hy
    subst hy
    refine go _ _ _ _ _ _ (by decide) (by simp [hl]) (by decide : 12 + 0 < 12 + 5) (by decide : 12 + 1 < 12 + 5) (by decide : 12 + 2 < 12 + 5) (by decide : 12 + 3 < 12 + 5) (by decide : 12 + 4 < 12 + 5) ?_
    obtain ⟨a, b, c, d, e, h5⟩ := len5 (show (env.drop 12).length = 5 by simp; omega)
    have g : ∀ k, (SI.var (12 + k)).val (env ++ []) = [a, b, c, d, e].getD k 0 := fun k => by
      show (env ++ []).getD _ 0 = _
      rw [List.append_nil, ← h5, List.getD_eq_getElem?_getD, List.getD_eq_getElem?_getD, List.getElem?_drop]
    have e : [(SI.var (12 + 0)).val (env ++ []), (SI.var (12 + 1)).val (env ++ []), (SI.var (12 + 2)).val (env ++ []), (SI.var (12 + 3)).val (env ++ []), (SI.var (12 + 4)).val (env ++ [])] = env.drop 12 := by
      rw [h5, g 0, g 1, g 2, g 3, g 4]
      rfl
    rw [e]
    exact hr
  | j + 1, hy, hi, hr, go =>
    have hy : ys.length = 5 := hy
    have hr : InL (2 ^ (j + 1)) (env.getD (12 + 2) 0) (env.getD (12 + 3) 0) (env.getD (12 + 4) 0) ys := hr
    obtain ⟨a, b, c, d, l, rfl⟩ := len5 hy
    have g : ∀ k, (SI.var (12 + 5 + k)).val (env ++ [a, b, c, d, l]) = [a, b, c, d, l].getD k 0 := fun k => var_at hl.symm k
    have e0 : (SI.var (12 + 5)).val (env ++ [a, b, c, d, l]) = a := g 0
    have e1 : (SI.var (12 + 6)).val (env ++ [a, b, c, d, l]) = b := g 1
    have e2 : (SI.var (12 + 7)).val (env ++ [a, b, c, d, l]) = c := g 2
    have e3 : (SI.var (12 + 8)).val (env ++ [a, b, c, d, l]) = d := g 3
    have e4 : (SI.var (12 + 9)).val (env ++ [a, b, c, d, l]) = l := g 4
    show (bif Nat.beq j 29 then _ else _ : Tree).holds _ _
    cases hb : Nat.beq j 29
    · rw [cond_false]
      have hj : j ≠ 29 := fun e => by subst e; simp at hb
      refine go _ _ _ _ _ _ (by omega) (by simp [hl]) (by decide : 12 + 5 < 12 + 10) (by decide : 12 + 6 < 12 + 10) (by decide : 12 + 7 < 12 + 10) (by decide : 12 + 8 < 12 + 10) (by decide : 12 + 9 < 12 + 10) ?_
      rw [e0, e1, e2, e3, e4]
      exact hr
    · rw [cond_true]
      have hj := Nat.eq_of_beq_eq_true hb
      subst hj
      have := htake []
      rw [List.append_nil] at this
      show LgnP ((env ++ [a, b, c, d, l]).take pLn.m) ((dec (enc [SI.var (12 + 5), SI.var (12 + 6), SI.var (12 + 8), SI.var (12 + 9)])).map (·.val (env ++ [a, b, c, d, l])))
      rw [dec_enc, this, List.map_cons, List.map_cons, List.map_cons, List.map_cons, List.map_nil, e0, e1, e3, e4]
      obtain ⟨U, V, f0, g0, f1, g1, v, hv, _, wV, hG, hs, hall⟩ := hr
      simp only [List.cons.injEq, and_true] at hv
      obtain ⟨rfl, rfl, rfl, rfl, rfl⟩ := hv
      unfold LgnP
      rw [bk_drop (j := 12 + 2) hl, drop_getD, drop_getD, drop_getD]
      exact ⟨_, _, f0, g0, f1, g1, _, rfl, wV, hG, hs, hall⟩
theorem lnLoop_ok : ∀ c, InF Try.prog 24 (2 * 2, c) → PcKOk Try.prog AA pLn c :=
  loop_piece (C := CC []) mixed ext0 (conOf_ok (by simp)) (fun _ _ _ _ _ _ h => by cases h) 60 (by kernel_rfl) (by kernel_rfl) hLn invLn (fun i _ _ => 31 - i) rfl
    (fun env hl _ hp => by
      obtain ⟨_, l, X, Y, v, rfl, wX, wY, ho, hv⟩ := (hp _ (List.mem_cons_self ..) : (77 < 46 → Wds env) ∧ LnPre env)
      have hl : (l ++ [1, 4294967296, X, Y, v]).length = 12 + 5 := hl
      have h5 : l.length = 12 := by simp at hl; omega
      have g : ∀ k, (l ++ [1, 4294967296, X, Y, v]).getD (12 + k) 0 = [1, 4294967296, X, Y, v].getD k 0 := fun k => getD_at h5.symm k
      refine ⟨by omega, ?_⟩
      show InL (2 ^ 0) ((l ++ [1, 4294967296, X, Y, v]).getD (12 + 2) 0) ((l ++ [1, 4294967296, X, Y, v]).getD (12 + 3) 0) ((l ++ [1, 4294967296, X, Y, v]).getD (12 + 4) 0) ((l ++ [1, 4294967296, X, Y, v]).drop 12)
      rw [List.drop_left' h5, g 2, g 3, g 4]
      exact InL.zero wX wY ho hv) fun i env ys hl hy _ hi => ln_round i env ys hl hy hi

/-! ### the outer loop -/
def lMem (a : Nat) : List (List SC × Bool) := [(us a 4, true), (us (a + 4) 4, true), (us (a + 8) 4, true)]
def lArg (c : Nat) : List SW := [cP 0, cP 1, cI c, cI (c + 1), cP 2, cI (c + 2)]
noncomputable def pLo : PC := { nt := Try.f24.ntmps, sl := [3, 4, 5, 6, 7, 8], args := lArg 12, mem := lMem 0, m := 12 + 3, ex := [{ e := .exit 0, out := [3, 4, 7, 8], id := 78, mout := 12 + 1, ret := [cP 0, cP 1, cP 2, cI (12 + 3 + 12)], mem1 := lMem (12 + 3) }] }
noncomputable def hLo : Nat → HS
  | 0 => pLo.h0
  | _ + 1 => { mout := 12 + 3, ret := lArg (12 + 3 + 12), mem1 := lMem (12 + 3) }
def exLo (a c ne : Nat) : Tree := roundL 4 (vr a 4) (vr (a + 4) 4) (vr (a + 8) 4) (.var (c + 2)) ne
noncomputable def rdLo (i : Nat) : Tree := xcode (CP [kBits, kAppL, kLinD, kLinY, kNeg, kZero, kDec] [((24, 4), pLn)]) 60 24 0 (bodyOf Try.prog 24 0) (headSt pLo (hLo i)) (kend pLo (hLo (i + 1)))
theorem rdLo_eq0 : rdLo 0 = exLo 0 12 (12 + 3) := Tree.beq_eq (by kernel_rfl)
theorem rdLo_eq1 : rdLo 1 = exLo (12 + 3) (12 + 3 + 12) (12 + 3 + 12 + 3) := Tree.beq_eq (by kernel_rfl)
theorem lLo : ∀ κ ∈ [kBits, kAppL, kLinD, kLinY, kNeg, kZero, kDec], KOk Try.prog AA κ := by
  intro κ h
  simp only [List.mem_cons, List.not_mem_nil, or_false] at h
  rcases h with rfl | rfl | rfl | rfl | rfl | rfl | rfl
  · exact bits_ok
  · exact appL_ok
  · exact linD_ok
  · exact linY_ok
  · exact neg_ok
  · exact zero_ok
  · exact dec_ok
def aL (i : Nat) (env ys : List Int) : List Int := match i with | 0 => env.take 4 | _ + 1 => ys.take 4
def bL (i : Nat) (env ys : List Int) : List Int := match i with | 0 => (env.drop 4).take 4 | _ + 1 => (ys.drop 4).take 4
def vL (i : Nat) (env ys : List Int) : Int := match i with | 0 => env.getD (12 + 2) 0 | _ + 1 => ys.getD (12 + 2) 0
def invLo (i : Nat) (env ys : List Int) : Prop := vw (bL i env ys) % 2 = 1 ∧ (vL i env ys = 1 ∨ vL i env ys = -1) ∧
  Jac.J (vw (aL i env ys)) (vw (bL i env ys)) * vL i env ys = Jac.J (vw (env.take 4)) (vw ((env.drop 4).take 4)) * env.getD (12 + 2) 0
def muLo (i : Nat) (env ys : List Int) : Nat := (vw (aL i env ys) + vw (bL i env ys)).toNat
theorem lo_head (i : Nat) (env ys : List Int) (hl : env.length = 12 + 3) (hy : ys.length = (hLo i).mout) (hr : Rng (env ++ ys) (rngA ((hLo i).ret.map .ww) ++ rngM (hLo i).mem1)) :
    ∃ a c ne, rdLo i = exLo a c ne ∧ ne = (env ++ ys).length ∧ a + 12 ≤ ne ∧ c + 3 ≤ ne ∧ Rng (env ++ ys) (rngA ((lArg c).map .ww) ++ rngM (lMem a)) ∧
      (vr a 4).map (·.val (env ++ ys)) = aL i env ys ∧ (vr (a + 4) 4).map (·.val (env ++ ys)) = bL i env ys ∧ (SI.var (c + 2)).val (env ++ ys) = vL i env ys := by
  match i, hy, hr with
  | 0, hy, hr =>
    have hy : ys = [] := List.eq_nil_of_length_eq_zero hy
    subst hy
    rw [List.append_nil] at hr ⊢
    exact ⟨0, 12, 12 + 3, rdLo_eq0, hl.symm, by decide, by decide, hr, vr_vals (by omega), vr_vals (by omega), rfl⟩
  | i + 1, hy, hr =>
    have hy : ys.length = 12 + 3 := hy
    have cut : ∀ k, k + 4 ≤ 12 + 3 → (vr (12 + 3 + k) 4).map (·.val (env ++ ys)) = (ys.drop k).take 4 := fun k hk => by
      rw [vr_vals (by simp; omega), ← List.drop_drop, List.drop_left' hl]
    refine ⟨12 + 3, 12 + 3 + 12, 12 + 3 + 12 + 3, (show rdLo (i + 1) = rdLo 1 from rfl).trans rdLo_eq1, by simp [hl, hy], by decide, by decide, hr, ?_, cut 4 (by decide), ?_⟩
    · have := cut 0 (by decide)
      rw [List.drop_zero] at this
      exact this
    · exact getD_at (ne := 12 + 3) hl.symm (12 + 2)
theorem lo_round (i : Nat) (env ys : List Int) (hl : env.length = 12 + 3) (hy : ys.length = (hLo i).mout) (hr : Rng (env ++ ys) (rngA ((hLo i).ret.map .ww) ++ rngM (hLo i).mem1)) (hi : invLo i env ys) : (rdLo i).holds (AA.rnd pLo i (hLo i) invLo muLo) (env ++ ys) := by
  obtain ⟨hodd, hv, hJ⟩ := hi
  obtain ⟨a, c, ne, hT, hne, ha, hc, hR, va, vb, vl⟩ := lo_head i env ys hl hy hr
  rw [hT]
  have htake : ∀ e, (env ++ ys ++ e).take pLo.m = env := fun e => by rw [List.append_assoc]; exact List.take_left' hl
  have wr : ∀ k, (us (a + k) 4, true) ∈ lMem a → Wds ((vr (a + k) 4).map (·.val (env ++ ys))) := fun k hk => wds_region hR hk
  have wa : Wds (aL i env ys) := by rw [← va]; exact wr 0 (by simp [lMem])
  have wb : Wds (bL i env ys) := by rw [← vb]; exact wr 4 (by simp [lMem])
  have la : (aL i env ys).length = 4 := by rw [← va]; simp [vr_length]
  have lb : (bL i env ys).length = 4 := by rw [← vb]; simp [vr_length]
  have bd : ∀ k, k + 4 ≤ ne → ∀ z ∈ vr k 4, Bd ne z := fun k hk => vr_bd hk
  refine roundL_ok (A := AA.rnd pLo i (hLo i) invLo muLo) (lask rfl rfl) hne (bd _ (by omega)) (bd _ (by omega)) (bd _ (by omega)) (show c + 2 < ne by omega) va vb vl la lb wa wb hodd hv ?_ ?_
  · intro h0 e
    have hu : ∀ {l : List SI} {v : List Int}, (∀ z ∈ l, Bd ne z) → l.map (·.val (env ++ ys)) = v → l.map (·.val (env ++ ys ++ e)) = v := fun hb hv => olds hne hb hv e
    show LgoP 4 ((env ++ ys ++ e).take pLo.m) ((dec (enc _)).map (·.val (env ++ ys ++ e)))
    rw [dec_enc, htake]
    simp only [List.map_append, List.map_cons, List.map_nil]
    rw [hu (bd _ (by omega)) va, hu (bd _ (by omega)) vb, hu (bd _ (by omega)) rfl, val_more (by rw [← hne]; show c + 2 < ne; omega), vl]
    exact ⟨_, _, _, _, rfl, la, lb, by simp [vr_length], wb, hodd, hv, by have h := hJ; rw [h0] at h; exact h⟩
  · intro h0 e os hN
    obtain ⟨a', b', r, v', hos, la', lb', lr, wa', wb', hodd', hv', hlt, hJ'⟩ := hN
    show invLo (i + 1) ((env ++ ys ++ e).take pLo.m) ((dec (enc os)).map (·.val (env ++ ys ++ e))) ∧ muLo (i + 1) ((env ++ ys ++ e).take pLo.m) ((dec (enc os)).map (·.val (env ++ ys ++ e))) < muLo i ((env ++ ys ++ e).take pLo.m) (((env ++ ys ++ e).drop pLo.m).take (hLo i).mout)
    have hdrop : ((env ++ ys ++ e).drop pLo.m).take (hLo i).mout = ys := by
      rw [List.append_assoc, show (env ++ (ys ++ e)).drop pLo.m = ys ++ e from List.drop_left' hl, List.take_left' hy]
    rw [dec_enc, htake, hos, hdrop]
    have e1 : aL (i + 1) env (a' ++ b' ++ r ++ [v']) = a' := by
      show (a' ++ b' ++ r ++ [_]).take 4 = a'
      rw [List.append_assoc, List.append_assoc, take_app la']
    have e2 : bL (i + 1) env (a' ++ b' ++ r ++ [v']) = b' := by
      show ((a' ++ b' ++ r ++ [_]).drop 4).take 4 = b'
      rw [List.append_assoc, List.append_assoc, drop_app la', take_app lb']
    have e3 : vL (i + 1) env (a' ++ b' ++ r ++ [v']) = v' := at_end (by simp [la', lb', lr])
    have pa := (vw_bounds wa).1
    have pb := (vw_bounds wb).1
    have pa' := (vw_bounds wa').1
    have pb' := (vw_bounds wb').1
    refine ⟨⟨by rw [e2]; exact hodd', by rw [e3]; exact hv', by rw [e1, e2, e3, hJ']; exact hJ⟩, ?_⟩
    unfold muLo
    rw [e1, e2]
    omega
theorem loLoop_ok : ∀ c, InF Try.prog 24 (2 * 0, c) → PcKOk Try.prog AA pLo c :=
  loop_piece (C := CP [kBits, kAppL, kLinD, kLinY, kNeg, kZero, kDec] [((24, 4), pLn)]) mixed ext0 (conOf_ok lLo) (pcOf_ok (by
    intro q hq
    simp only [List.mem_cons, List.not_mem_nil, or_false] at hq
    subst hq
    exact ⟨by decide, lnLoop_ok⟩)) 60 (by kernel_rfl) (by kernel_rfl) hLo invLo muLo rfl
    (fun env hl _ hp => by
      obtain ⟨_, h1, h2⟩ := (hp _ (List.mem_cons_self ..) : (78 < 46 → Wds env) ∧ vw ((env.drop 4).take 4) % 2 = 1 ∧ (env.getD (12 + 2) 0 = 1 ∨ env.getD (12 + 2) 0 = -1))
      exact ⟨h1, h2, rfl⟩) fun i env ys hl hy hr hi => lo_round i env ys hl hy hr hi

/-! ### the symbol -/
def kLeg : K := { f := 24, args := [pt 0], mem := [(us 0 4, false)], m := 4, id := 79, mout := 1, ret := i1 4, mem1 := [(us 0 4, false)] }
noncomputable def CL : Cfg := CP [] [((24, 0), pLo)]
theorem leg_ok : KOk Try.prog AA kLeg :=
  kok_of (C := CL) mixed ext0 (conOf_ok (by simp)) (pcOf_ok (by
    intro q hq
    simp only [List.mem_cons, List.not_mem_nil, or_false] at hq
    subst hq
    exact ⟨by decide, loLoop_ok⟩)) 60 (by kernel_rfl) fun env hl _ hp => by
    have ht : xcall CL (fun f => xcode CL 60 f 0) kLeg.f kLeg.args kLeg.st kLeg.end = legT 4 prime := by kernel_rfl
    rw [ht]
    have hl' : env.length = 4 := hl
    refine legT_ok (A := AA.to kLeg) (by decide) rfl hl' ⟨hi (by decide), ?_⟩ (fun ys h => h) fun e o ho => fin_of hl ?_
    · have x2 : ((env ++ prime ++ List.replicate 4 0 ++ [0, 0, 1] : List Int).drop 4).take 4 = prime := by rw [List.append_assoc, List.append_assoc, drop_app hl', take_app (show prime.length = 4 from rfl)]
      have x3 : (env ++ prime ++ List.replicate 4 0 ++ [0, 0, 1] : List Int).getD (12 + 2) 0 = 1 := by
        have := getD_at (env := env ++ prime ++ List.replicate 4 0) (l := [0, 0, 1]) (ne := 12) (by simp [hl', prime]) 2
        rw [this]; rfl
      show vw (((env ++ prime ++ List.replicate 4 0 ++ [0, 0, 1] : List Int).drop 4).take 4) % 2 = 1 ∧ ((env ++ prime ++ List.replicate 4 0 ++ [0, 0, 1] : List Int).getD (12 + 2) 0 = 1 ∨ (env ++ prime ++ List.replicate 4 0 ++ [0, 0, 1] : List Int).getD (12 + 2) 0 = -1)
      rw [x2, x3]
      exact ⟨q_odd, .inl rfl⟩
    · exact congrArg (fun x => [x]) ho
def kLegA : K := { f := 16, args := [ar 0 4], mem := [], m := 4, id := 80, mout := 1, ret := i1 4, mem1 := [] }
theorem lLeg : ∀ κ ∈ [kLeg], KOk Try.prog AA κ := by
  intro κ h
  simp only [List.mem_cons, List.not_mem_nil, or_false] at h
  rcases h with rfl
  · exact leg_ok
theorem legA_ok : KOk Try.prog AA kLegA := k_of' (L := [kLeg]) lLeg (by kernel_rfl) (T := .hav 79 (vr 0 4) 1 (.fin (enc [.var 4]) st0)) (by kernel_rfl) fun env hl hp => by
  have hl' : env.length = 4 := hl
  have hv : (vr 0 4).map (·.val env) = env := one_vr hl'
  refine ⟨by rw [hv]; exact ⟨hi (by decide), hp⟩, fun ys hy h => ?_⟩
  rw [hv] at h
  have h : ys = [Jac.J (vw env) (vw prime)] := h
  subst h
  refine fin_take (List.take_left' hl) ?_
  exact congrArg (fun x => [x]) (val_end hl'.symm)
def kMulA : K := { f := 17, args := [ar 0 4, ar 4 4], mem := [], m := 8, id := 31, mout := 4, ret := ar 8 4, mem1 := [] }
theorem lMulE : ∀ κ ∈ [kMulE], KOk Try.prog AA κ := by
  intro κ h
  simp only [List.mem_cons, List.not_mem_nil, or_false] at h
  rcases h with rfl
  · exact mulE_ok
def mulAT : Tree := .hav 30 (zeros 4 ++ vr 0 4 ++ vr 4 4) 4 (.fin (enc (vr 8 4)) st0)
theorem mulAT_ok {env : List Int} (hl : env.length = 8) (hw : Wds env) (hb : vw (env.drop 4) < vw prime) : mulAT.holds (AA.to kMulA) env := by
  have v0 : (zeros 4 ++ vr 0 4 ++ vr 4 4).map (·.val env) = List.replicate 4 0 ++ env.take 4 ++ env.drop 4 := by
    rw [List.map_append, List.map_append, zeros_val, vr_vals (by omega), vr_vals (by omega), List.drop_zero, List.take_of_length_le (l := env.drop 4) (by simp; omega)]
  have d1 : ((List.replicate 4 0 ++ env.take 4 ++ env.drop 4 : List Int).drop 4).take 4 = env.take 4 := by rw [List.append_assoc, drop_app (by simp), take_app (by simp; omega)]
  have d2 : (List.replicate 4 0 ++ env.take 4 ++ env.drop 4 : List Int).drop 8 = env.drop 4 := List.drop_left' (by simp; omega)
  refine ⟨by rw [v0]; exact ⟨fun _ => ((wds_zeros _).append (hw.take _)).append (hw.drop _), by
    show vw ((List.replicate 4 0 ++ env.take 4 ++ env.drop 4 : List Int).drop 8) < vw prime
    rw [d2]; exact hb⟩, fun ys hy h => ?_⟩
  rw [v0] at h
  have h : MulM 4 prime (((List.replicate 4 0 ++ env.take 4 ++ env.drop 4 : List Int).drop 4).take 4) ((List.replicate 4 0 ++ env.take 4 ++ env.drop 4 : List Int).drop 8) ys := h
  rw [d1, d2] at h
  refine fin_take (List.take_left' hl) ?_
  rw [vals_new hl.symm (show 4 = ys.length from hy.symm)]
  exact h
theorem mulA_ok' : KOk Try.prog AA kMulA := k_of (L := [kMulE]) lMulE (by kernel_rfl) (by kernel_rfl) (T := .both mulAT mulAT) (by kernel_rfl) fun env hl hw hb => ⟨mulAT_ok hl hw hb, mulAT_ok hl hw hb⟩
end Go.Proofs.Ytmnenhkjdhbjmaa
