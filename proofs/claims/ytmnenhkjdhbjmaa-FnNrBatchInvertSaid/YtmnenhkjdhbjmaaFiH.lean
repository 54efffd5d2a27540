/-
  The inverse where it is written over its argument: the loops and itself, as for two places. No conditions.
-/
import Derived.Test.YtmnenhkjdhbjmaaFiG
namespace Go.Proofs.Ytmnenhkjdhbjmaa
open Go Eng Go.RowKit
set_option maxRecDepth 100000
namespace AZ
def kInv : K := { f := 18, args := [pt 0, pt 0], mem := [(us 0 4, true)], m := 4, id := 76, mout := 4, ret := pt 0, mem1 := [(us 4 4, true)] }
/-! ### the products that were missed, all -/
def memM : List (List SC × Bool) := [(us 0 4, false), (us 4 4, false), (us 8 4, false)]
noncomputable def pShr : PC := { nt := Try.f18.ntmps, sl := [0, 1, 5, 7, 14, 15], args := [cP 0, cP 0, cP 1, cP 2, cU 16, cP 3], mem := memM ++ [(us 12 4, true)], m := 17, ex := [{ e := .exit 4, out := [0, 1, 7, 15], id := 72, mout := 4, ret := [cP 0, cP 0, cP 2, cP 3], mem1 := memM ++ [(us 17 4, true)] }] }
noncomputable def hShr : Nat → HS
  | 0 => pShr.h0
  | _ + 1 => { mout := 5, ret := [cP 0, cP 0, cP 1, cP 2, cU (17 + 4), cP 3], mem1 := memM ++ [(us 17 4, true)] }
def exShr : Nat → Tree
  | 0 => shrT 4 18 (vr 12 4) (vr 4 4) (.var 16) 17
  | _ + 1 => shrT 4 18 (vr 17 4) (vr 4 4) (.var (17 + 4)) (17 + 5)
noncomputable def rdShr (i : Nat) : Tree := xcode (CC [kMulZ]) 60 18 4 (bodyOf Try.prog 18 8) (headSt pShr (hShr i)) (kend pShr (hShr (i + 1)))
theorem rdShr_eq {i : Nat} (hi : i < 2) : rdShr i = exShr i :=
  all_trees (f := rdShr) (g := exShr) (n := 2) (by kernel_rfl) hi
def VI (v0 v : List Int) (iv : Int) : Prop := v.length = 4 ∧ Wds v ∧ Wd iv ∧ (vw v0 = 0 → vw v = 0)
def stShr (i : Nat) (env ys : List Int) : List Int × Int := match i with | 0 => ((env.drop 12).take 4, env.getD 16 0) | _ + 1 => (ys.take 4, ys.getD 4 0)
def invShr (i : Nat) (env ys : List Int) : Prop := Wds env ∧ vw ((env.drop 4).take 4) < vw prime ∧ VI ((env.drop 12).take 4) (stShr i env ys).1 (stShr i env ys).2
def muShr (i : Nat) (env ys : List Int) : Nat := (18 - (stShr i env ys).2).toNat
theorem shr_round (i : Nat) (env ys : List Int) (hl : env.length = 17) (hy : ys.length = (hShr i).mout) (hi : invShr i env ys) : (rdShr i).holds (AA.rnd pShr i (hShr i) invShr muShr) (env ++ ys) := by
  obtain ⟨hw, hb, hr⟩ := hi
  have hc : ∃ (v : List SI) (iv : SI) (ne : Nat), rdShr i = shrT 4 18 v (vr 4 4) iv ne ∧ v.map (·.val (env ++ ys)) = (stShr i env ys).1 ∧ iv.val (env ++ ys) = (stShr i env ys).2 ∧ ne = (env ++ ys).length ∧ 17 ≤ ne ∧ (∀ z ∈ v, Bd ne z) ∧ Bd ne iv := by
    match i, hy with
    | 0, hy =>
      have hy : ys = [] := List.eq_nil_of_length_eq_zero hy
      subst hy
      rw [List.append_nil]
      exact ⟨_, _, _, rdShr_eq (i := 0) (by decide), vr_vals (by omega), rfl, hl.symm, by omega, vr_bd (by decide), (by decide : 16 < 17)⟩
    | i + 1, hy =>
      have hy : ys.length = 5 := hy
      refine ⟨_, _, _, (show rdShr (i + 1) = rdShr 1 from rfl).trans (rdShr_eq (i := 1) (by decide)), ?_, ?_, by simp [hl, hy], by omega, vr_bd (by decide), (by decide : 17 + 4 < 17 + 5)⟩
      · rw [vr_vals (by simp; omega), List.drop_left' hl]
        rfl
      · exact getD_at (ne := 17) hl.symm 4
  obtain ⟨v, iv, ne, hT, kv, ki, hne, hle, bv, bi⟩ := hc
  rw [hT]
  have htake : ∀ e, (env ++ ys ++ e).take pShr.m = env := fun e => by rw [List.append_assoc]; exact List.take_left' hl
  have ha : (vr 4 4).map (·.val (env ++ ys)) = (env.drop 4).take 4 := by rw [vals_more (vr_bd (by omega)), vr_vals (by omega)]
  obtain ⟨lV, wV, wi, hz⟩ := hr
  refine shrT_ok (A := AA.rnd pShr i (hShr i) invShr muShr) rfl rfl hne bv (vr_bd (by omega)) bi kv ha lV wV ((hw.drop _).take _) (by rw [ki]; exact wi) hb ?_ ?_
  · intro e
    show ShrP 4 ((env ++ ys ++ e).take pShr.m) ((dec (enc v)).map (·.val (env ++ ys ++ e)))
    rw [dec_enc, htake, vals_more (by rw [← hne]; exact bv), kv]
    exact ⟨lV, wV, by rw [bk_drop (j := 12) hl]; exact hz⟩
  · rw [ki]
    intro hlt e os ⟨z, hos, lz, wz, hz'⟩
    show invShr (i + 1) ((env ++ ys ++ e).take pShr.m) ((dec (enc os)).map (·.val (env ++ ys ++ e))) ∧ muShr (i + 1) ((env ++ ys ++ e).take pShr.m) ((dec (enc os)).map (·.val (env ++ ys ++ e))) < muShr i ((env ++ ys ++ e).take pShr.m) (((env ++ ys ++ e).drop pShr.m).take (hShr i).mout)
    have hdrop : ((env ++ ys ++ e).drop pShr.m).take (hShr i).mout = ys := by
      rw [List.append_assoc, show (env ++ (ys ++ e)).drop pShr.m = ys ++ e from List.drop_left' hl, List.take_left' hy]
    rw [dec_enc, htake, hos, hdrop]
    have e1 : (stShr (i + 1) env (z ++ [(stShr i env ys).2 + 2])).1 = z := take_app lz
    have e2 : (stShr (i + 1) env (z ++ [(stShr i env ys).2 + 2])).2 = (stShr i env ys).2 + 2 := at_end lz.symm
    refine ⟨⟨hw, hb, ?_⟩, ?_⟩
    · rw [e1, e2]
      obtain ⟨g1, g2⟩ := wi
      exact ⟨lz, wz, ⟨by omega, by omega⟩, fun h => hz' (hz h)⟩
    · unfold muShr
      rw [e2]
      omega
theorem shrLoop_ok : ∀ c, InF Try.prog 18 (2 * 4, c) → PcKOk Try.prog AA pShr c :=
  loop_piece (C := CC [kMulZ]) mixed ext0 (conOf_ok (by
    intro κ h
    simp only [List.mem_cons, List.not_mem_nil, or_false] at h
    subst h
    exact mulZ_ok)) (fun _ _ _ _ _ _ h => by cases h) 60 (by kernel_rfl) (by kernel_rfl) hShr invShr muShr rfl
    (fun env hl _ hp => by
      obtain ⟨_, hw, hb⟩ := (hp _ (List.mem_cons_self ..) : (72 < 46 → Wds env) ∧ Wds env ∧ _)
      have hl : env.length = 17 := hl
      rw [bk_drop (j := 4) hl] at hb
      exact ⟨hw, hb, by show ((env.drop 12).take 4).length = 4; simp; omega, (hw.drop _).take _, hw.get _, fun h => h⟩) fun i env ys hl hy _ hi => shr_round i env ys hl hy hi
def r7 : List (List SC × Bool) := [(us 0 4, false), (us 4 4, false), (us 8 4, false), (us 12 4, false), (us 16 4, false), (us 20 4, false)]
def pass : List SW := [cP 0, cP 0, cP 1, cP 2, cP 3, cI 24, cI (24 + 1), cI (24 + 2), cI (24 + 3), cU (24 + 4), cP 4, cP 5]
def passS : List Nat := [0, 1, 5, 6, 7, 10, 11, 12, 13, 14, 15, 16]
noncomputable def pIn : PC := { nt := Try.f18.ntmps, sl := [8, 9, 18, 19, 47] ++ passS, args := [cI (24 + 5), cI (24 + 6), cU (24 + 7), cU (24 + 8), .cc (.ii .i64 (.lit 0))] ++ pass, mem := r7, m := 24 + 9, ex := [{ e := .exit 2, out := [8, 9] ++ passS, id := 70, mout := 2, ret := [cI (24 + 9), cI (24 + 10)] ++ pass, mem1 := r7 }] }
noncomputable def hIn : Nat → HS
  | 0 => pIn.h0
  | i + 1 => { mout := 4, ret := [cI (24 + 9), cI (24 + 10), cU (24 + 11), cU (24 + 12), .cc (.ii .i64 (.lit ((i + 1 : Nat) : Int)))] ++ pass, mem1 := r7 }
def exIn : Nat → Tree
  | 0 => inT (.var (24 + 5)) (.var (24 + 6)) (.var (24 + 7)) (.var (24 + 8)) (24 + 9)
  | i + 1 => bif Nat.beq i 30 then .fin (enc [.var (24 + 9), .var (24 + 10)]) { st0 with fn := 1 } else inT (.var (24 + 9)) (.var (24 + 10)) (.var (24 + 11)) (.var (24 + 12)) (24 + 13)
noncomputable def rdIn (i : Nat) : Tree := xcode (CC []) 60 18 2 (bodyOf Try.prog 18 4) (headSt pIn (hIn i)) (kend pIn (hIn (i + 1)))
theorem rdIn_eq {i : Nat} (hi : i < 32) : rdIn i = exIn i :=
  all_trees (f := rdIn) (g := exIn) (n := 32) (by kernel_rfl) hi
def InPre (env : List Int) : Prop := ∃ l X Y, env = l ++ [1, 4294967296, X, Y] ∧ Wd X ∧ Wd Y ∧ Y % 2 = 1
def invIn (i : Nat) (env ys : List Int) : Prop := i ≤ 31 ∧ InS (2 ^ i) (env.getD (24 + 7) 0) (env.getD (24 + 8) 0) (match i with | 0 => env.drop (24 + 5) | _ + 1 => ys)
theorem len4 {l : List Int} (h : l.length = 4) : ∃ a b c d, l = [a, b, c, d] := by
  match l, h with
  | [a, b, c, d], _ => exact ⟨a, b, c, d, rfl⟩
theorem in_round (i : Nat) (env ys : List Int) (hl : env.length = 24 + 9) (hy : ys.length = (hIn i).mout) (hi : invIn i env ys) : (rdIn i).holds (AA.rnd pIn i (hIn i) invIn (fun i _ _ => 32 - i)) (env ++ ys) := by
  obtain ⟨hi, hr⟩ := hi
  rw [rdIn_eq (show i < 32 by omega)]
  have htake : ∀ e, (env ++ ys ++ e).take pIn.m = env := fun e => by rw [List.append_assoc]; exact List.take_left' hl
  have go : ∀ (c0 c1 a b : SI) (ne : Nat), i < 31 → ne = (env ++ ys).length → Bd ne c0 → Bd ne c1 → Bd ne a → Bd ne b → InS (2 ^ i) (env.getD (24 + 7) 0) (env.getD (24 + 8) 0) [c0.val (env ++ ys), c1.val (env ++ ys), a.val (env ++ ys), b.val (env ++ ys)] →
      (inT c0 c1 a b ne).holds (AA.rnd pIn i (hIn i) invIn (fun i _ _ => 32 - i)) (env ++ ys) := by
    intro c0 c1 a b ne h31 hne b0 b1 ba bb hs
    refine inT_ok hne b0 b1 ba bb hs fun e os h => ?_
    show invIn (i + 1) ((env ++ ys ++ e).take pIn.m) ((dec (enc os)).map (·.val (env ++ ys ++ e))) ∧ _
    rw [dec_enc, htake]
    refine ⟨⟨by omega, ?_⟩, by show 32 - (i + 1) < 32 - i; omega⟩
    rw [show (2 : Int) ^ (i + 1) = 2 * 2 ^ i by rw [Int.pow_succ, Int.mul_comm]]
    exact h
  match i, hy, hi, hr, go with
  | 0, hy, hi, hr, go =>
    have hy : ys = [] := List.eq_nil_of_length_eq_zero hy
    subst hy
    refine go _ _ _ _ _ (by decide) (by simp [hl]) (by decide : 24 + 5 < 24 + 9) (by decide : 24 + 6 < 24 + 9) (by decide : 24 + 7 < 24 + 9) (by decide : 24 + 8 < 24 + 9) ?_
    obtain ⟨a, b, c, d, h4⟩ := len4 (show (env.drop (24 + 5)).length = 4 by simp; omega)
    have g : ∀ k, (SI.var (24 + 5 + k)).val (env ++ []) = [a, b, c, d].getD k 0 := fun k => by
      show (env ++ []).getD _ 0 = _
      rw [List.append_nil, ← h4, List.getD_eq_getElem?_getD, List.getD_eq_getElem?_getD, List.getElem?_drop]
    have e : [(SI.var (24 + 5)).val (env ++ []), (SI.var (24 + 6)).val (env ++ []), (SI.var (24 + 7)).val (env ++ []), (SI.var (24 + 8)).val (env ++ [])] = env.drop (24 + 5) := by
      rw [h4, show (SI.var (24 + 5)).val (env ++ []) = a from g 0, show (SI.var (24 + 6)).val (env ++ []) = b from g 1, show (SI.var (24 + 7)).val (env ++ []) = c from g 2, show (SI.var (24 + 8)).val (env ++ []) = d from g 3]
    rw [e]
    exact hr
  | j + 1, hy, hi, hr, go =>
    have hy : ys.length = 4 := hy
    have hr : InS (2 ^ (j + 1)) (env.getD (24 + 7) 0) (env.getD (24 + 8) 0) ys := hr
    obtain ⟨a, b, c, d, rfl⟩ := len4 hy
    have g : ∀ k, (SI.var (24 + 9 + k)).val (env ++ [a, b, c, d]) = [a, b, c, d].getD k 0 := fun k => var_at hl.symm k
    have e0 : (SI.var (24 + 9)).val (env ++ [a, b, c, d]) = a := g 0
    have e1 : (SI.var (24 + 10)).val (env ++ [a, b, c, d]) = b := g 1
    have e2 : (SI.var (24 + 11)).val (env ++ [a, b, c, d]) = c := g 2
    have e3 : (SI.var (24 + 12)).val (env ++ [a, b, c, d]) = d := g 3
    show (bif Nat.beq j 30 then _ else _ : Tree).holds _ _
    cases hb : Nat.beq j 30
    · rw [cond_false]
      have hj : j ≠ 30 := fun e => by subst e; simp at hb
      refine go _ _ _ _ _ (by omega) (by simp [hl]) (by decide : 24 + 9 < 24 + 13) (by decide : 24 + 10 < 24 + 13) (by decide : 24 + 11 < 24 + 13) (by decide : 24 + 12 < 24 + 13) ?_
      rw [e0, e1, e2, e3]
      exact hr
    · rw [cond_true]
      have hj := Nat.eq_of_beq_eq_true hb
      subst hj
      have := htake []
      rw [List.append_nil] at this
      show InnP ((env ++ [a, b, c, d]).take pIn.m) ((dec (enc [SI.var (24 + 9), SI.var (24 + 10)])).map (·.val (env ++ [a, b, c, d])))
      rw [dec_enc, this, List.map_cons, List.map_cons, List.map_nil, e0, e1]
      obtain ⟨U, V, f0, g0, f1, g1, hv, _, _, hG⟩ := hr
      simp only [List.cons.injEq, and_true] at hv
      refine ⟨U, V, f0, g0, f1, g1, by rw [hv.1, hv.2.1], ?_⟩
      rw [bk_drop (j := 24 + 7) hl, drop_getD, drop_getD]
      exact hG
theorem inLoop_ok : ∀ c, InF Try.prog 18 (2 * 2, c) → PcKOk Try.prog AA pIn c :=
  loop_piece (C := CC []) mixed ext0 (conOf_ok (by simp)) (fun _ _ _ _ _ _ h => by cases h) 60 (by kernel_rfl) (by kernel_rfl) hIn invIn (fun i _ _ => 32 - i) rfl
    (fun env hl _ hp => by
      obtain ⟨_, l, X, Y, rfl, wX, wY, ho⟩ := (hp _ (List.mem_cons_self ..) : (70 < 46 → Wds env) ∧ InPre env)
      have hl : (l ++ [1, 4294967296, X, Y]).length = 24 + 9 := hl
      have h5 : l.length = 24 + 5 := by simp at hl; omega
      have g : ∀ k, (l ++ [1, 4294967296, X, Y]).getD (24 + 5 + k) 0 = [1, 4294967296, X, Y].getD k 0 := fun k => getD_at h5.symm k
      refine ⟨by omega, ?_⟩
      show InS (2 ^ 0) ((l ++ [1, 4294967296, X, Y]).getD (24 + 7) 0) ((l ++ [1, 4294967296, X, Y]).getD (24 + 8) 0) ((l ++ [1, 4294967296, X, Y]).drop (24 + 5))
      rw [show (l ++ [1, 4294967296, X, Y]).drop (24 + 5) = [1, 4294967296, X, Y] from List.drop_left' h5, show (l ++ [1, 4294967296, X, Y]).getD (24 + 7) 0 = X from g 2, show (l ++ [1, 4294967296, X, Y]).getD (24 + 8) 0 = Y from g 3]
      exact ⟨X, Y, 1, 0, 0, 1, rfl, wX, wY, GI.zero wX.1 wY.1 ho⟩) fun i env ys hl hy _ hi => in_round i env ys hl hy hi

/-! ### the outer loop -/
def memO (a : Nat) : List (List SC × Bool) := [(us 0 4, false), (us a 4, true), (us (a + 4) 4, true), (us (a + 8) 4, true), (us (a + 12) 4, true), (us (a + 16) 4, true)]
def argO (c : Nat) : List SW := [cP 0, cP 0, cP 1, cP 2, cP 3, cI c, cI (c + 1), cI (c + 2), cI (c + 3), cI (c + 4), cI (c + 5), cU (c + 6), cP 4, cP 5]
noncomputable def pOut : PC := { nt := Try.f18.ntmps, sl := [0, 1, 5, 6, 7, 8, 9, 10, 11, 12, 13, 14, 15, 16], args := argO 24, mem := memO 4, m := 24 + 7, ex := [{ e := .exit 0, out := [0, 1, 5, 6, 7, 14, 15, 16], id := 71, mout := 20 + 1, ret := [cP 0, cP 0, cP 1, cP 2, cP 3, cU (24 + 7 + 20), cP 4, cP 5], mem1 := memO (24 + 7) }] }
noncomputable def hOut : Nat → HS
  | 0 => pOut.h0
  | _ + 1 => { mout := 20 + 7, ret := argO (24 + 7 + 20), mem1 := memO (24 + 7) }
def exO (a c ne : Nat) : Tree := roundO 4 [] (vr 0 4) (vr a 4) (vr (a + 4) 4) (vr (a + 8) 4) (vr (a + 12) 4) (vr (a + 16) 4) (.var (c + 2)) (.var (c + 3)) (.var (c + 4)) (.var (c + 5)) (.var (c + 6)) ne
noncomputable def rdOut (i : Nat) : Tree := xcode (CP [kBits, kAppr, kLinD, kLinY, kNeg, kCombX, kCombY, kZero, kDec] [((18, 4), pIn)]) 60 18 0 (bodyOf Try.prog 18 0) (headSt pOut (hOut i)) (kend pOut (hOut (i + 1)))
theorem rdOut_eq0 : rdOut 0 = exO 4 24 (24 + 7) := Tree.beq_eq (by kernel_rfl)
theorem rdOut_eq1 : rdOut 1 = exO (24 + 7) (24 + 7 + 20) (24 + 7 + 20 + 7) := Tree.beq_eq (by kernel_rfl)
theorem lOut : ∀ κ ∈ [kBits, kAppr, kLinD, kLinY, kNeg, kCombX, kCombY, kZero, kDec], KOk Try.prog AA κ := by
  intro κ h
  simp only [List.mem_cons, List.not_mem_nil, or_false] at h
  rcases h with rfl | rfl | rfl | rfl | rfl | rfl | rfl | rfl | rfl
  · exact bits_ok
  · exact appr_ok
  · exact linD_ok
  · exact linY_ok
  · exact neg_ok
  · exact combX_ok
  · exact combY_ok
  · exact zero_ok
  · exact dec_ok
def xO (env : List Int) : List Int := (env.drop 0).take 4
def aO (i : Nat) (env ys : List Int) : List Int := match i with | 0 => (env.drop 4).take 4 | _ + 1 => ys.take 4
def bO (i : Nat) (env ys : List Int) : List Int := match i with | 0 => (env.drop 8).take 4 | _ + 1 => (ys.drop 4).take 4
def vO (i : Nat) (env ys : List Int) : List Int := match i with | 0 => (env.drop 16).take 4 | _ + 1 => (ys.drop 12).take 4
def iO (i : Nat) (env ys : List Int) : Int := match i with | 0 => env.getD (24 + 6) 0 | _ + 1 => ys.getD (20 + 6) 0
def invOut (i : Nat) (env ys : List Int) : Prop := vw (bO i env ys) % 2 = 1 ∧ (vw (xO env) = 0 → vw (aO i env ys) = 0 ∧ iO i env ys = 0 ∧ vw (vO i env ys) = 0)
def muOut (i : Nat) (env ys : List Int) : Nat := (2 * (vw (aO i env ys) + vw (bO i env ys)) + iO i env ys % 2).toNat
theorem argO_rng {c : Nat} : (IntKind.u64, c + 6) ∈ rngA ((argO c).map .ww) := by
  show _ ∈ [(IntKind.i64, c), (.i64, c + 1), (.i64, c + 2), (.i64, c + 3), (.i64, c + 4), (.i64, c + 5), (.u64, c + 6)]
  simp
theorem out_head (i : Nat) (env ys : List Int) (hl : env.length = 24 + 7) (hy : ys.length = (hOut i).mout) (hr : Rng (env ++ ys) (rngA ((hOut i).ret.map .ww) ++ rngM (hOut i).mem1)) :
    ∃ a c ne, rdOut i = exO a c ne ∧ ne = (env ++ ys).length ∧ 4 ≤ a ∧ a + 20 ≤ ne ∧ c + 7 ≤ ne ∧ Rng (env ++ ys) (rngA ((argO c).map .ww) ++ rngM (memO a)) ∧
      (vr a 4).map (·.val (env ++ ys)) = aO i env ys ∧ (vr (a + 4) 4).map (·.val (env ++ ys)) = bO i env ys ∧ (vr (a + 12) 4).map (·.val (env ++ ys)) = vO i env ys ∧ (SI.var (c + 6)).val (env ++ ys) = iO i env ys := by
  match i, hy, hr with
  | 0, hy, hr =>
    have hy : ys = [] := List.eq_nil_of_length_eq_zero hy
    subst hy
    rw [List.append_nil] at hr ⊢
    exact ⟨4, 24, 24 + 7, rdOut_eq0, hl.symm, by decide, by decide, by decide, hr, vr_vals (by omega), vr_vals (by omega), vr_vals (by omega), rfl⟩
  | i + 1, hy, hr =>
    have hy : ys.length = 20 + 7 := hy
    have cut : ∀ k, k + 4 ≤ 20 + 7 → (vr (24 + 7 + k) 4).map (·.val (env ++ ys)) = (ys.drop k).take 4 := fun k hk => by
      rw [vr_vals (by simp; omega), ← List.drop_drop, List.drop_left' hl]
    refine ⟨24 + 7, 24 + 7 + 20, 24 + 7 + 20 + 7, (show rdOut (i + 1) = rdOut 1 from rfl).trans rdOut_eq1, by simp [hl, hy], by decide, by decide, by decide, hr, ?_, cut 4 (by decide), cut 12 (by decide), ?_⟩
    · have := cut 0 (by decide)
      rw [List.drop_zero] at this
      exact this
    · exact getD_at (ne := 24 + 7) hl.symm (20 + 6)
theorem out_round (i : Nat) (env ys : List Int) (hl : env.length = 24 + 7) (hy : ys.length = (hOut i).mout) (hr : Rng (env ++ ys) (rngA ((hOut i).ret.map .ww) ++ rngM (hOut i).mem1)) (hi : invOut i env ys) : (rdOut i).holds (AA.rnd pOut i (hOut i) invOut muOut) (env ++ ys) := by
  obtain ⟨hodd, hx0⟩ := hi
  obtain ⟨a, c, ne, hT, hne, h2a, ha, hc, hR, va, vb, vv, vi⟩ := out_head i env ys hl hy hr
  rw [hT]
  have htake : ∀ e, (env ++ ys ++ e).take pOut.m = env := fun e => by rw [List.append_assoc]; exact List.take_left' hl
  have wr : ∀ k, (us (a + k) 4, true) ∈ memO a → Wds ((vr (a + k) 4).map (·.val (env ++ ys))) := fun k hk => wds_region hR hk
  have wa : Wds (aO i env ys) := by rw [← va]; exact wr 0 (by simp [memO])
  have wb : Wds (bO i env ys) := by rw [← vb]; exact wr 4 (by simp [memO])
  have wu := wr 8 (by simp [memO])
  have wv : Wds (vO i env ys) := by rw [← vv]; exact wr 12 (by simp [memO])
  have ws := wr 16 (by simp [memO])
  have wi : Wd (iO i env ys) := by rw [← vi]; exact wd_arg hR argO_rng
  have bd : ∀ k, k + 4 ≤ ne → ∀ z ∈ vr k 4, Bd ne z := fun k hk => vr_bd hk
  refine roundO_ok (A := AA.rnd pOut i (hOut i) invOut muOut) (qask rfl rfl) hne ?_ vr_length vr_length vr_length vr_length va vb rfl vv wa wb wu wv (by rw [vi]; exact wi) hodd ?_ ?_
  · intro z hz
    unfold passO at hz
    simp only [List.mem_append, List.mem_cons, List.not_mem_nil, or_false] at hz
    have bv : ∀ k, k < 7 → Bd ne (SI.var (c + k)) := fun k hk => by show c + k < ne; omega
    rcases hz with ((((((h | h) | h) | h) | h) | h) | h) | h | h | h | h | h
    · first | exact h.elim | exact bd _ (by omega) z h
    · first | exact h.elim | exact bd _ (by omega) z h
    · first | exact h.elim | exact bd _ (by omega) z h
    · first | exact h.elim | exact bd _ (by omega) z h
    · first | exact h.elim | exact bd _ (by omega) z h
    · first | exact h.elim | exact bd _ (by omega) z h
    · first | exact h.elim | exact bd _ (by omega) z h
    · rw [h]; exact bv 2 (by decide)
    · rw [h]; exact bv 3 (by decide)
    · rw [h]; exact bv 4 (by decide)
    · rw [h]; exact bv 5 (by decide)
    · rw [h]; exact bv 6 (by decide)
  · intro e h0 h1
    have hu : ∀ {l : List SI} {v : List Int}, (∀ z ∈ l, Bd ne z) → l.map (·.val (env ++ ys)) = v → l.map (·.val (env ++ ys ++ e)) = v := fun hb hv => olds hne hb hv e
    show OutP 4 ((env ++ ys ++ e).take pOut.m) ((dec (enc _)).map (·.val (env ++ ys ++ e)))
    rw [dec_enc, htake]
    simp only [List.map_append, List.map_cons, List.map_nil]
    rw [hu (bd _ (by omega)) va, hu (bd _ (by omega)) vb, hu (bd _ (by omega)) rfl, hu (bd _ (by omega)) vv, hu (bd _ (by omega)) rfl, val_more (by rw [← hne]; show c + 6 < ne; omega), vi]
    have la : (aO i env ys).length = 4 := by rw [← va]; simp [vr_length]
    have lb : (bO i env ys).length = 4 := by rw [← vb]; simp [vr_length]
    have lv : (vO i env ys).length = 4 := by rw [← vv]; simp [vr_length]
    refine ⟨((((wa.append wb).append wu).append wv).append ws).append (wds_cons wi wds_nil), fun hx => ?_⟩
    rw [List.append_assoc, List.append_assoc, List.drop_left' (by simp [la, lb, vr_length]), take_app lv]
    rw [bk_drop (j := 0) hl] at hx
    exact (hx0 hx).2.2
  · rw [vi]
    intro hc e os hN
    obtain ⟨a', b', r, hos, la, lb, lr, wa', wb', hodd', hle, hlt⟩ := hN
    show invOut (i + 1) ((env ++ ys ++ e).take pOut.m) ((dec (enc os)).map (·.val (env ++ ys ++ e))) ∧ muOut (i + 1) ((env ++ ys ++ e).take pOut.m) ((dec (enc os)).map (·.val (env ++ ys ++ e))) < muOut i ((env ++ ys ++ e).take pOut.m) (((env ++ ys ++ e).drop pOut.m).take (hOut i).mout)
    have hdrop : ((env ++ ys ++ e).drop pOut.m).take (hOut i).mout = ys := by
      rw [List.append_assoc, show (env ++ (ys ++ e)).drop pOut.m = ys ++ e from List.drop_left' hl, List.take_left' hy]
    rw [dec_enc, htake, hos, hdrop]
    have e1 : aO (i + 1) env (a' ++ b' ++ r ++ [IntKind.u64.wrap (iO i env ys + 1)]) = a' := by
      show (a' ++ b' ++ r ++ [_]).take 4 = a'
      rw [List.append_assoc, List.append_assoc, take_app la]
    have e2 : bO (i + 1) env (a' ++ b' ++ r ++ [IntKind.u64.wrap (iO i env ys + 1)]) = b' := by
      show ((a' ++ b' ++ r ++ [_]).drop 4).take 4 = b'
      rw [List.append_assoc, List.append_assoc, drop_app la, take_app lb]
    have e3 : iO (i + 1) env (a' ++ b' ++ r ++ [IntKind.u64.wrap (iO i env ys + 1)]) = IntKind.u64.wrap (iO i env ys + 1) := at_end (by simp [la, lb, lr])
    have pa := (vw_bounds wa).1
    have pb := (vw_bounds wb).1
    have pa' := (vw_bounds wa').1
    have pb' := (vw_bounds wb').1
    refine ⟨⟨by rw [e2]; exact hodd', fun hx => ?_⟩, ?_⟩
    · obtain ⟨h1, h2, _⟩ := hx0 hx
      rcases hc with h | h
      · rw [h2] at h; exact absurd h (by decide)
      · exact absurd h1 h
    · unfold muOut
      rw [e1, e2, e3, IntKind.wrap_u64]
      generalize iO i env ys = j at *
      generalize vw (aO i env ys) = A at *
      generalize vw (bO i env ys) = B at *
      rcases hc with h | h
      · omega
      · have := hlt (by omega)
        omega
theorem outLoop_ok : ∀ c, InF Try.prog 18 (2 * 0, c) → PcKOk Try.prog AA pOut c :=
  loop_piece (C := CP [kBits, kAppr, kLinD, kLinY, kNeg, kCombX, kCombY, kZero, kDec] [((18, 4), pIn)]) mixed ext0 (conOf_ok lOut) (pcOf_ok (by
    intro q hq
    simp only [List.mem_cons, List.not_mem_nil, or_false] at hq
    subst hq
    exact ⟨by decide, inLoop_ok⟩)) 60 (by kernel_rfl) (by kernel_rfl) hOut invOut muOut rfl
    (fun env hl _ hp => by
      have h : OutI 4 env := (hp _ (List.mem_cons_self ..)).2
      obtain ⟨h1, h2⟩ := h
      rw [bk_drop (j := 0) hl] at h1 h2
      simp only [List.drop_drop, drop_getD] at h1 h2
      exact ⟨h1, h2⟩) fun i env ys hl hy hr hi => out_round i env ys hl hy hr hi
noncomputable def CV : Cfg := CP [kMulE, kOne, kZero, kExp] [((18, 0), pOut), ((18, 8), pShr)]
def invT : Tree :=
  .hav 71 (vr 0 4 ++ vr 0 4 ++ ls prime ++ ls rest0) (20 + 1)
  (.hav 72 (vr 0 4 ++ ls psq ++ vr 12 4 ++ vr 16 4 ++ [.var 24]) 4
  (.hav 30 (vr 0 4 ++ vr (24 + 1) 4 ++ ls corr) 4
  (.hav 30 (vr (24 + 1) 4 ++ vr 0 4 ++ vr (28 + 1) 4) 4
  (.hav 66 (vr (32 + 1) 4) 1 (.br (36 + 1) (.fin (enc (vr (28 + 1) 4)) st0)
    (.hav 65 (vr 0 4) 1 (.br (36 + 2) (.fin (enc (vr (28 + 1) 4)) st0)
      (.hav 59 (vr (28 + 1) 4 ++ vr 0 4) 4 (.fin (enc (vr (36 + 3) 4)) st0)))))))))
theorem invT_ok {env : List Int} (hl : env.length = 4) (hw : Wds env) (hb : vw (env.drop 0) < vw prime) : invT.holds (AA.to kInv) env := by
  have kz : (vr 0 4).map (·.val env) = env.take 4 := by rw [vr_vals (by omega), List.drop_zero]
  have kx : (vr 0 4).map (·.val env) = env.drop 0 := by rw [vr_vals (by omega), List.take_of_length_le (by simp; omega)]
  have lz : (env.take 4).length = 4 := by simp; omega
  have lx : (env.drop 0).length = 4 := by simp; omega
  have wz := hw.take 4
  have wx := hw.drop 0
  have lP : prime.length = 4 := rfl
  generalize hz : env.take 4 = z at *
  generalize hx : env.drop 0 = x at *
  -- the outer loop
  have v1 : (vr 0 4 ++ vr 0 4 ++ ls prime ++ ls rest0).map (·.val env) = x ++ x ++ prime ++ rest0 := by simp only [List.map_append, kx, ls_map]
  have hbk : bk (24 + 7) (x ++ x ++ prime ++ rest0) = x ++ x ++ prime ++ rest0 := by
    rw [show x ++ x ++ prime ++ rest0 = [] ++ (x ++ x ++ prime ++ rest0) by simp]
    exact bk_end (by simp [lx, lP, rest0])
  have d1 : (x ++ x ++ prime ++ rest0).take 4 = x := by rw [List.append_assoc, List.append_assoc, take_app lx]
  have d2 : ((x ++ x ++ prime ++ rest0).drop 4).take 4 = x := by rw [List.append_assoc, List.append_assoc, drop_app lx, take_app lx]
  have d3 : ((x ++ x ++ prime ++ rest0).drop (2 * 4)).take 4 = prime := by rw [List.append_assoc, List.drop_left' (by simp [lx]), take_app lP]
  have d5 : ((x ++ x ++ prime ++ rest0).drop (4 * 4)).take 4 = List.replicate 4 0 := by
    rw [show 4 * 4 = (x ++ x ++ prime).length + 4 by simp [lx, lP], ← List.drop_drop, List.drop_left]
    rfl
  have d6 : (x ++ x ++ prime ++ rest0).getD (6 * 4 + 6) 0 = 0 := by
    rw [List.getD_eq_getElem?_getD, List.getElem?_append_right (by simp [lx, lP])]
    simp [lx, lP]
    rfl
  refine ⟨by
    rw [v1]
    refine ⟨hi (by decide), ?_⟩
    show OutI 4 _
    unfold OutI
    rw [hbk, d1, d2, d3, d5, d6]
    exact ⟨q_odd, fun h => ⟨h, rfl, vw_zeros _⟩⟩, fun ys hy h => ?_⟩
  rw [v1] at h
  obtain ⟨wy, hv0⟩ := (h : OutP 4 (x ++ x ++ prime ++ rest0) ys)
  rw [hbk, d1] at hv0
  clear d1 d2 d3 d5 d6 v1 hbk
  have l1 : (env ++ ys).length = 24 + 1 := by simp [hl, hy]
  have kz1 := keep (ys := ys) (by omega) kz
  have kx1 := keep (ys := ys) (by omega) kx
  have cut : ∀ k, k + 4 ≤ 20 + 1 → (vr (4 + k) 4).map (·.val (env ++ ys)) = (ys.drop k).take 4 := fun k hk => by
    rw [vr_vals (by simp; omega), ← List.drop_drop, List.drop_left' hl]
  have ku : (vr 12 4).map (·.val (env ++ ys)) = (ys.drop 8).take 4 := cut 8 (by decide)
  have kv : (vr 16 4).map (·.val (env ++ ys)) = (ys.drop 12).take 4 := cut 12 (by decide)
  have ki : Wd ((SI.var 24).val (env ++ ys)) := by
    rw [show (SI.var 24).val (env ++ ys) = ys.getD 20 0 from getD_at (ne := 4) hl.symm 20]
    exact wy.get _
  have wu := (wy.drop 8).take 4
  have wv := (wy.drop 12).take 4
  have lu : ((ys.drop 8).take 4).length = 4 := by simp; omega
  have lv : ((ys.drop 12).take 4).length = 4 := by simp; omega
  generalize (ys.drop 8).take 4 = u at *
  generalize (ys.drop 12).take 4 = v at *
  generalize hi1 : (SI.var 24).val (env ++ ys) = i1 at *
  -- the products that were missed
  have lp : psq.length = 4 := rfl
  have v2 : (vr 0 4 ++ ls psq ++ vr 12 4 ++ vr 16 4 ++ [SI.var 24]).map (·.val (env ++ ys)) = x ++ psq ++ u ++ v ++ [i1] := by
    simp only [List.map_append, List.map_cons, List.map_nil, kx1, ku, kv, hi1, ls_map]
  have d2 : (bk 13 (x ++ psq ++ u ++ v ++ [i1])).take 4 = psq := by
    rw [show x ++ psq ++ u ++ v ++ [i1] = (x) ++ (psq ++ (u ++ v ++ [i1])) by simp, bk_end (by simp [lp, lu, lv]), take_app lp]
  have d4 : (bk 5 (x ++ psq ++ u ++ v ++ [i1])).take 4 = v := by
    rw [show x ++ psq ++ u ++ v ++ [i1] = (x ++ psq ++ u) ++ (v ++ [i1]) by simp, bk_end (by simp [lv]), take_app lv]
  refine ⟨by
    rw [v2]
    exact ⟨hi (by decide), (((wx.append psq_wd).append wu).append wv).append (wds_cons ki wds_nil), by rw [d2]; exact psq_lt⟩, fun w hlw h => ?_⟩
  rw [v2] at h
  obtain ⟨lw, ww, hw0⟩ := (h : ShrP 4 (x ++ psq ++ u ++ v ++ [i1]) w)
  rw [d4] at hw0
  have hz0 : vw x = 0 → vw w = 0 := fun h => hw0 (hv0 h)
  clear d2 d4 v2 hw0 hv0 hlw ku kv cut hi1 ki
  have l2 : (env ++ ys ++ w).length = 28 + 1 := by simp [hl, hy, lw]
  have kz2 := keep (ys := w) (by omega) kz1
  have kx2 := keep (ys := w) (by omega) kx1
  have kw2 : (vr (24 + 1) 4).map (·.val (env ++ ys ++ w)) = w := vals_new l1.symm lw.symm
  -- z = v * corr
  have v3 : (vr 0 4 ++ vr (24 + 1) 4 ++ ls corr).map (·.val (env ++ ys ++ w)) = z ++ w ++ corr := by rw [List.map_append, List.map_append, kz2, kw2, ls_map]
  obtain ⟨t1, t2⟩ := three_of (y := corr) lz lw
  refine ⟨by
    rw [v3]
    exact ⟨fun _ => (wz.append ww).append corr_wd, by show vw ((z ++ w ++ corr).drop 8) < _; rw [t2]; exact corr_lt⟩, fun r lr h => ?_⟩
  rw [v3] at h
  have hr : MulM 4 prime (((z ++ w ++ corr).drop 4).take 4) ((z ++ w ++ corr).drop 8) r := h
  rw [t1, t2] at hr
  have hr0 : vw x = 0 → vw r = 0 := fun h => mul_zero_of (hz0 h) hr
  obtain ⟨lr', wr, br, _⟩ := hr
  clear h v3 t1 t2 hz0
  have l3 : (env ++ ys ++ w ++ r).length = 32 + 1 := by simp [hl, hy, lw, lr']
  have kx3 := keep (ys := r) (by omega) kx2
  have kw3 := keep (ys := r) (by omega) kw2
  have kr3 : (vr (28 + 1) 4).map (·.val (env ++ ys ++ w ++ r)) = r := vals_new l2.symm lr'.symm
  -- v = u * z
  have v4 : (vr (24 + 1) 4 ++ vr 0 4 ++ vr (28 + 1) 4).map (·.val (env ++ ys ++ w ++ r)) = w ++ x ++ r := by rw [List.map_append, List.map_append, kw3, kx3, kr3]
  obtain ⟨t1, t2⟩ := three_of (y := r) lw lx
  refine ⟨by
    rw [v4]
    exact ⟨fun _ => (ww.append wx).append wr, by show vw ((w ++ x ++ r).drop 8) < _; rw [t2]; exact br⟩, fun s ls' h => ?_⟩
  rw [v4] at h
  have hs : MulM 4 prime (((w ++ x ++ r).drop 4).take 4) ((w ++ x ++ r).drop 8) s := h
  rw [t1, t2] at hs
  obtain ⟨ls2, ws, bs, ds⟩ := hs
  clear h v4 t1 t2
  have l4 : (env ++ ys ++ w ++ r ++ s).length = 36 + 1 := by simp [hl, hy, lw, lr', ls2]
  have kx4 := keep (ys := s) (by omega) kx3
  have kr4 := keep (ys := s) (by omega) kr3
  have ks4 : (vr (32 + 1) 4).map (·.val (env ++ ys ++ w ++ r ++ s)) = s := vals_new l3.symm ls2.symm
  -- the check
  refine ⟨by rw [ks4]; exact ⟨hi (by decide), ws⟩, fun b1 lb1 h => ?_⟩
  rw [ks4] at h
  have h : b1 = [b01 (decide (s = one))] := h
  subst h
  have kx5 := keep (ys := [b01 (decide (s = one))]) (by omega) kx4
  have kr5 := keep (ys := [b01 (decide (s = one))]) (by omega) kr4
  have g5 : (env ++ ys ++ w ++ r ++ s ++ [b01 (decide (s = one))]).getD (36 + 1) 0 = b01 (decide (s = one)) := var_new l4.symm
  have tk : ∀ l : List Int, (env ++ ys ++ w ++ r ++ s ++ l).take kInv.m = env := fun l => by simp only [List.append_assoc]; exact List.take_left' hl
  refine ⟨fun h1 => ?_, fun _ => ?_⟩
  · rw [g5] at h1
    have hone : s = one := of_decide_eq_true ((b01_one _).1 h1)
    refine fin_take (tk _) ?_
    rw [kr5]
    show InvP 4 prime (env.drop 0) r
    rw [hx]
    refine ⟨lr', wr, br, hr0, fun _ => ?_⟩
    rw [hone] at ds
    obtain ⟨c, hc⟩ := ds
    obtain ⟨d, hd⟩ := one_is
    refine ⟨BW ^ 4 * d - c, ?_⟩
    rw [Int.mul_sub, ← hc, Int.mul_left_comm, ← hd, Int.mul_sub, Int.mul_comm (BW ^ 4) (vw one)]
    omega
  · refine ⟨by rw [kx5]; exact ⟨hi (by decide), wx⟩, fun b2 lb2 h => ?_⟩
    rw [kx5] at h
    have h : b2 = [b01 (decide (vw x = 0))] := h
    subst h
    have l5 : (env ++ ys ++ w ++ r ++ s ++ [b01 (decide (s = one))]).length = 36 + 2 := by simp [hl, hy, lw, lr', ls2]
    have l6 : (env ++ ys ++ w ++ r ++ s ++ [b01 (decide (s = one))] ++ [b01 (decide (vw x = 0))]).length = 36 + 3 := by simp [hl, hy, lw, lr', ls2]
    have kx6 := keep (ys := [b01 (decide (vw x = 0))]) (by omega) kx5
    have kr6 := keep (ys := [b01 (decide (vw x = 0))]) (by omega) kr5
    have g6 : (env ++ ys ++ w ++ r ++ s ++ [b01 (decide (s = one))] ++ [b01 (decide (vw x = 0))]).getD (36 + 2) 0 = b01 (decide (vw x = 0)) := var_new l5.symm
    refine ⟨fun h2 => ?_, fun h2 => ?_⟩
    · rw [g6] at h2
      have h0 : vw x = 0 := of_decide_eq_true ((b01_one _).1 h2)
      refine fin_take (env := env) (by rw [List.append_assoc]; exact tk _) ?_
      rw [kr6]
      show InvP 4 prime (env.drop 0) r
      rw [hx]
      exact ⟨lr', wr, br, hr0, fun h => absurd h0 h⟩
    · rw [g6] at h2
      have h0 : ¬ vw x = 0 := of_decide_eq_false ((b01_zero _).1 h2)
      have v7 : (vr (28 + 1) 4 ++ vr 0 4).map (·.val (env ++ ys ++ w ++ r ++ s ++ [b01 (decide (s = one))] ++ [b01 (decide (vw x = 0))])) = r ++ x := by rw [List.map_append, kr6, kx6]
      refine ⟨by
        rw [v7]
        exact ⟨hi (by decide), wr.append wx, by rw [drop_app lr']; exact hb⟩, fun t lt h => ?_⟩
      rw [v7] at h
      have ht : PowM 4 prime ((r ++ x).drop 4) (vw prime - 2).toNat t := h
      rw [drop_app lr'] at ht
      refine fin_take (env := env) (by rw [List.append_assoc, List.append_assoc]; exact tk _) ?_
      rw [vals_new l6.symm (show 4 = t.length from ht.1.symm)]
      show InvP 4 prime (env.drop 0) t
      rw [hx]
      exact ⟨ht.1, ht.2.1, ht.2.2.1, fun h => absurd h h0, fun _ => inv_pow NT.pr_nr (by decide +kernel) (by decide +kernel) wx hb h0 ht⟩
theorem inv_ok : KOk Try.prog AA kInv :=
  kok_of (C := CV) mixed ext0 (conOf_ok lV) (pcOf_ok (by
    intro q hq
    simp only [List.mem_cons, List.not_mem_nil, or_false] at hq
    rcases hq with rfl | rfl
    · exact ⟨by decide, outLoop_ok⟩
    · exact ⟨by decide, shrLoop_ok⟩)) 60 (by kernel_rfl) fun env hl _ hp => by
    have ht : xcall CV (fun f => xcode CV 60 f 0) kInv.f kInv.args kInv.st kInv.end = invT := by kernel_rfl
    rw [ht]
    obtain ⟨hw, hb⟩ := (hp.2 : Wds env ∧ vw (env.drop 0) < vw prime)
    exact invT_ok hl hw hb
end AZ
end Go.Proofs.Ytmnenhkjdhbjmaa
