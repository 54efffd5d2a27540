/-
  The inverse: its inner and its outer loop, the products that were missed. No conditions.
-/
import Derived.Test.YtmnenhkjdhbjmaaFiE
import Derived.Test.YtmnenhkjdhbjmaaIL
namespace Go.Proofs.Ytmnenhkjdhbjmaa
open Go Eng Go.RowKit
set_option maxRecDepth 100000
/-! ### the products that were missed, all -/
def memM : List (List SC × Bool) := [(us 0 4, false), (us 4 4, false), (us 8 4, false), (us 12 4, false)]
noncomputable def pShr : PC := { nt := Try.f18.ntmps, sl := [0, 1, 5, 7, 14, 15], args := [cP 0, cP 1, cP 2, cP 3, cU 20, cP 4], mem := memM ++ [(us 16 4, true)], m := 21, ex := [{ e := .exit 4, out := [0, 1, 7, 15], id := 72, mout := 4, ret := [cP 0, cP 1, cP 3, cP 4], mem1 := memM ++ [(us 21 4, true)] }] }
noncomputable def hShr : Nat → HS
  | 0 => pShr.h0
  | _ + 1 => { mout := 5, ret := [cP 0, cP 1, cP 2, cP 3, cU (21 + 4), cP 4], mem1 := memM ++ [(us 21 4, true)] }
def exShr : Nat → Tree
  | 0 => shrT 4 18 (vr 16 4) (vr 8 4) (.var 20) 21
  | _ + 1 => shrT 4 18 (vr 21 4) (vr 8 4) (.var (21 + 4)) (21 + 5)
noncomputable def rdShr (i : Nat) : Tree := xcode (CC [kMulZ]) 60 18 4 (bodyOf Try.prog 18 8) (headSt pShr (hShr i)) (kend pShr (hShr (i + 1)))
theorem rdShr_eq {i : Nat} (hi : i < 2) : rdShr i = exShr i :=
  all_trees (f := rdShr) (g := exShr) (n := 2) (by kernel_rfl) hi
def VI (v0 v : List Int) (iv : Int) : Prop := v.length = 4 ∧ Wds v ∧ Wd iv ∧ (vw v0 = 0 → vw v = 0)
def stShr (i : Nat) (env ys : List Int) : List Int × Int := match i with | 0 => ((env.drop 16).take 4, env.getD 20 0) | _ + 1 => (ys.take 4, ys.getD 4 0)
def invShr (i : Nat) (env ys : List Int) : Prop := Wds env ∧ vw ((env.drop 8).take 4) < vw prime ∧ VI ((env.drop 16).take 4) (stShr i env ys).1 (stShr i env ys).2
def muShr (i : Nat) (env ys : List Int) : Nat := (18 - (stShr i env ys).2).toNat
theorem shr_round (i : Nat) (env ys : List Int) (hl : env.length = 21) (hy : ys.length = (hShr i).mout) (hi : invShr i env ys) : (rdShr i).holds (AA.rnd pShr i (hShr i) invShr muShr) (env ++ ys) := by
  obtain ⟨hw, hb, hr⟩ := hi
  have hc : ∃ (v : List SI) (iv : SI) (ne : Nat), rdShr i = shrT 4 18 v (vr 8 4) iv ne ∧ v.map (·.val (env ++ ys)) = (stShr i env ys).1 ∧ iv.val (env ++ ys) = (stShr i env ys).2 ∧ ne = (env ++ ys).length ∧ 21 ≤ ne ∧ (∀ z ∈ v, Bd ne z) ∧ Bd ne iv := by
    match i, hy with
    | 0, hy =>
      have hy : ys = [] := List.eq_nil_of_length_eq_zero hy
      subst hy
      rw [List.append_nil]
      exact ⟨_, _, _, rdShr_eq (i := 0) (by decide), vr_vals (by omega), rfl, hl.symm, by omega, vr_bd (by decide), (by decide : 20 < 21)⟩
    | i + 1, hy =>
      have hy : ys.length = 5 := hy
      refine ⟨_, _, _, (show rdShr (i + 1) = rdShr 1 from rfl).trans (rdShr_eq (i := 1) (by decide)), ?_, ?_, by simp [hl, hy], by omega, vr_bd (by decide), (by decide : 21 + 4 < 21 + 5)⟩
      · rw [vr_vals (by simp; omega), List.drop_left' hl]
        rfl
      · exact getD_at (ne := 21) hl.symm 4
  obtain ⟨v, iv, ne, hT, kv, ki, hne, hle, bv, bi⟩ := hc
  rw [hT]
  have htake : ∀ e, (env ++ ys ++ e).take pShr.m = env := fun e => by rw [List.append_assoc]; exact List.take_left' hl
  have ha : (vr 8 4).map (·.val (env ++ ys)) = (env.drop 8).take 4 := by rw [vals_more (vr_bd (by omega)), vr_vals (by omega)]
  obtain ⟨lV, wV, wi, hz⟩ := hr
  refine shrT_ok (A := AA.rnd pShr i (hShr i) invShr muShr) rfl rfl hne bv (vr_bd (by omega)) bi kv ha lV wV ((hw.drop _).take _) (by rw [ki]; exact wi) hb ?_ ?_
  · intro e
    show ShrP 4 ((env ++ ys ++ e).take pShr.m) ((dec (enc v)).map (·.val (env ++ ys ++ e)))
    rw [dec_enc, htake, vals_more (by rw [← hne]; exact bv), kv]
    exact ⟨lV, wV, by rw [bk_drop (j := 16) hl]; exact hz⟩
  · rw [ki]
    intro hlt e os ⟨z, hos, lz, wz, hz'⟩
    show invShr (i + 1) ((env ++ ys ++ e).take pShr.m) ((dec (enc os)).map (·.val (env ++ ys ++ e))) ∧ muShr (i + 1) ((env ++ ys ++ e).take pShr.m) ((dec (enc os)).map (·.val (env ++ ys ++ e))) < muShr i ((env ++ ys ++ e).take pShr.m) (((env ++ ys ++ e).drop pShr.m).take (hShr i).mout)
    have hdrop : ((env ++ ys ++ e).drop pShr.m).take (hShr i).mout = ys := by
      rw [List.append_assoc, show (env ++ (ys ++ e)).drop pShr.m = ys ++ e from List.drop_left' hl, List.take_left' hy]
    rw [dec_enc, htake, hos, hdrop]
    have e1 : (stShr (i + 1) env (z ++ [(stShr i env ys).2 + 2])).1 = z := take_app lz
    have e2 : (stShr (i + 1) env (z ++ [(stShr i env ys).2 + 2])).2 = (stShr i env ys).2 + 2 := at_end lz.symm
    refine ⟨⟨hw, hb, ?_⟩, ?_⟩
    · rw [e1, e2]
      obtain ⟨g1, g2⟩ := wi
      exact ⟨lz, wz, ⟨by omega, by omega⟩, fun h => hz' (hz h)⟩
    · unfold muShr
      rw [e2]
      omega
theorem shrLoop_ok : ∀ c, InF Try.prog 18 (2 * 4, c) → PcKOk Try.prog AA pShr c :=
  loop_piece (C := CC [kMulZ]) mixed ext0 (conOf_ok (by
    intro κ h
    simp only [List.mem_cons, List.not_mem_nil, or_false] at h
    subst h
    exact mulZ_ok)) (fun _ _ _ _ _ _ h => by cases h) 60 (by kernel_rfl) (by kernel_rfl) hShr invShr muShr rfl
    (fun env hl _ hp => by
      obtain ⟨_, hw, hb⟩ := (hp _ (List.mem_cons_self ..) : (72 < 46 → Wds env) ∧ Wds env ∧ _)
      have hl : env.length = 21 := hl
      rw [bk_drop (j := 8) hl] at hb
      exact ⟨hw, hb, by show ((env.drop 16).take 4).length = 4; simp; omega, (hw.drop _).take _, hw.get _, fun h => h⟩) fun i env ys hl hy _ hi => shr_round i env ys hl hy hi
def r7 : List (List SC × Bool) := [(us 0 4, false), (us 4 4, false), (us 8 4, false), (us 12 4, false), (us 16 4, false), (us 20 4, false), (us 24 4, false)]
def pass : List SW := [cP 0, cP 1, cP 2, cP 3, cP 4, cI 28, cI (28 + 1), cI (28 + 2), cI (28 + 3), cU (28 + 4), cP 5, cP 6]
def passS : List Nat := [0, 1, 5, 6, 7, 10, 11, 12, 13, 14, 15, 16]
noncomputable def pIn : PC := { nt := Try.f18.ntmps, sl := [8, 9, 18, 19, 47] ++ passS, args := [cI (28 + 5), cI (28 + 6), cU (28 + 7), cU (28 + 8), .cc (.ii .i64 (.lit 0))] ++ pass, mem := r7, m := 28 + 9, ex := [{ e := .exit 2, out := [8, 9] ++ passS, id := 70, mout := 2, ret := [cI (28 + 9), cI (28 + 10)] ++ pass, mem1 := r7 }] }
noncomputable def hIn : Nat → HS
  | 0 => pIn.h0
  | i + 1 => { mout := 4, ret := [cI (28 + 9), cI (28 + 10), cU (28 + 11), cU (28 + 12), .cc (.ii .i64 (.lit ((i + 1 : Nat) : Int)))] ++ pass, mem1 := r7 }
def exIn : Nat → Tree
  | 0 => inT (.var (28 + 5)) (.var (28 + 6)) (.var (28 + 7)) (.var (28 + 8)) (28 + 9)
  | i + 1 => bif Nat.beq i 30 then .fin (enc [.var (28 + 9), .var (28 + 10)]) { st0 with fn := 1 } else inT (.var (28 + 9)) (.var (28 + 10)) (.var (28 + 11)) (.var (28 + 12)) (28 + 13)
noncomputable def rdIn (i : Nat) : Tree := xcode (CC []) 60 18 2 (bodyOf Try.prog 18 4) (headSt pIn (hIn i)) (kend pIn (hIn (i + 1)))
theorem rdIn_eq {i : Nat} (hi : i < 32) : rdIn i = exIn i :=
  all_trees (f := rdIn) (g := exIn) (n := 32) (by kernel_rfl) hi
def InPre (env : List Int) : Prop := ∃ l X Y, env = l ++ [1, 4294967296, X, Y] ∧ Wd X ∧ Wd Y ∧ Y % 2 = 1
def invIn (i : Nat) (env ys : List Int) : Prop := i ≤ 31 ∧ InS (2 ^ i) (env.getD (28 + 7) 0) (env.getD (28 + 8) 0) (match i with | 0 => env.drop (28 + 5) | _ + 1 => ys)
theorem len4 {l : List Int} (h : l.length = 4) : ∃ a b c d, l = [a, b, c, d] := by
  match l, h with
  | [a, b, c, d], _ => exact ⟨a, b, c, d, rfl⟩
theorem in_round (i : Nat) (env ys : List Int) (hl : env.length = 28 + 9) (hy : ys.length = (hIn i).mout) (hi : invIn i env ys) : (rdIn i).holds (AA.rnd pIn i (hIn i) invIn (fun i _ _ => 32 - i)) (env ++ ys) := by
  obtain ⟨hi, hr⟩ := hi
  rw [rdIn_eq (show i < 32 by omega)]
  have htake : ∀ e, (env ++ ys ++ e).take pIn.m = env := fun e => by rw [List.append_assoc]; exact List.take_left' hl
  have go : ∀ (c0 c1 a b : SI) (ne : Nat), i < 31 → ne = (env ++ ys).length → Bd ne c0 → Bd ne c1 → Bd ne a → Bd ne b → InS (2 ^ i) (env.getD (28 + 7) 0) (env.getD (28 + 8) 0) [c0.val (env ++ ys), c1.val (env ++ ys), a.val (env ++ ys), b.val (env ++ ys)] →
      (inT c0 c1 a b ne).holds (AA.rnd pIn i (hIn i) invIn (fun i _ _ => 32 - i)) (env ++ ys) := by
    intro c0 c1 a b ne h31 hne b0 b1 ba bb hs
    refine inT_ok hne b0 b1 ba bb hs fun e os h => ?_
    show invIn (i + 1) ((env ++ ys ++ e).take pIn.m) ((dec (enc os)).map (·.val (env ++ ys ++ e))) ∧ _
    rw [dec_enc, htake]
    refine ⟨⟨by omega, ?_⟩, by show 32 - (i + 1) < 32 - i; omega⟩
    rw [show (2 : Int) ^ (i + 1) = 2 * 2 ^ i by rw [Int.pow_succ, Int.mul_comm]]
    exact h
  match i, hy, hi, hr, go with
  | 0, hy, hi, hr, go =>
    have hy : ys = [] := List.eq_nil_of_length_eq_zero hy
    subst hy
    refine go _ _ _ _ _ (by decide) (by simp [hl]) (by decide : 28 + 5 < 28 + 9) (by decide : 28 + 6 < 28 + 9) (by decide : 28 + 7 < 28 + 9) (by decide : 28 + 8 < 28 + 9) ?_
    obtain ⟨a, b, c, d, h4⟩ := len4 (show (env.drop (28 + 5)).length = 4 by simp; omega)
    have g : ∀ k, (SI.var (28 + 5 + k)).val (env ++ []) = [a, b, c, d].getD k 0 := fun k => by
      show (env ++ []).getD _ 0 = _
      rw [List.append_nil, ← h4, List.getD_eq_getElem?_getD, List.getD_eq_getElem?_getD, List.getElem?_drop]
    have e : [(SI.var (28 + 5)).val (env ++ []), (SI.var (28 + 6)).val (env ++ []), (SI.var (28 + 7)).val (env ++ []), (SI.var (28 + 8)).val (env ++ [])] = env.drop (28 + 5) := by
      rw [h4, show (SI.var (28 + 5)).val (env ++ []) = a from g 0, show (SI.var (28 + 6)).val (env ++ []) = b from g 1, show (SI.var (28 + 7)).val (env ++ []) = c from g 2, show (SI.var (28 + 8)).val (env ++ []) = d from g 3]
    rw [e]
    exact hr
  | j + 1, hy, hi, hr, go =>
    have hy : ys.length = 4 := hy
    have hr : InS (2 ^ (j + 1)) (env.getD (28 + 7) 0) (env.getD (28 + 8) 0) ys := hr
    obtain ⟨a, b, c, d, rfl⟩ := len4 hy
    have g : ∀ k, (SI.var (28 + 9 + k)).val (env ++ [a, b, c, d]) = [a, b, c, d].getD k 0 := fun k => var_at hl.symm k
    have e0 : (SI.var (28 + 9)).val (env ++ [a, b, c, d]) = a := g 0
    have e1 : (SI.var (28 + 10)).val (env ++ [a, b, c, d]) = b := g 1
    have e2 : (SI.var (28 + 11)).val (env ++ [a, b, c, d]) = c := g 2
    have e3 : (SI.var (28 + 12)).val (env ++ [a, b, c, d]) = d := g 3
    show (bif Nat.beq j 30 then _ else _ : Tree).holds _ _
    cases hb : Nat.beq j 30
    · rw [cond_false]
      have hj : j ≠ 30 := fun e => by subst e; simp at hb
      refine go _ _ _ _ _ (by omega) (by simp [hl]) (by decide : 28 + 9 < 28 + 13) (by decide : 28 + 10 < 28 + 13) (by decide : 28 + 11 < 28 + 13) (by decide : 28 + 12 < 28 + 13) ?_
      rw [e0, e1, e2, e3]
      exact hr
    · rw [cond_true]
      have hj := Nat.eq_of_beq_eq_true hb
      subst hj
      have := htake []
      rw [List.append_nil] at this
      show InnP ((env ++ [a, b, c, d]).take pIn.m) ((dec (enc [SI.var (28 + 9), SI.var (28 + 10)])).map (·.val (env ++ [a, b, c, d])))
      rw [dec_enc, this, List.map_cons, List.map_cons, List.map_nil, e0, e1]
      obtain ⟨U, V, f0, g0, f1, g1, hv, _, _, hG⟩ := hr
      simp only [List.cons.injEq, and_true] at hv
      refine ⟨U, V, f0, g0, f1, g1, by rw [hv.1, hv.2.1], ?_⟩
      rw [bk_drop (j := 28 + 7) hl, drop_getD, drop_getD]
      exact hG
theorem inLoop_ok : ∀ c, InF Try.prog 18 (2 * 2, c) → PcKOk Try.prog AA pIn c :=
  loop_piece (C := CC []) mixed ext0 (conOf_ok (by simp)) (fun _ _ _ _ _ _ h => by cases h) 60 (by kernel_rfl) (by kernel_rfl) hIn invIn (fun i _ _ => 32 - i) rfl
    (fun env hl _ hp => by
      obtain ⟨_, l, X, Y, rfl, wX, wY, ho⟩ := (hp _ (List.mem_cons_self ..) : (70 < 46 → Wds env) ∧ InPre env)
      have hl : (l ++ [1, 4294967296, X, Y]).length = 28 + 9 := hl
      have h5 : l.length = 28 + 5 := by simp at hl; omega
      have g : ∀ k, (l ++ [1, 4294967296, X, Y]).getD (28 + 5 + k) 0 = [1, 4294967296, X, Y].getD k 0 := fun k => getD_at h5.symm k
      refine ⟨by omega, ?_⟩
      show InS (2 ^ 0) ((l ++ [1, 4294967296, X, Y]).getD (28 + 7) 0) ((l ++ [1, 4294967296, X, Y]).getD (28 + 8) 0) ((l ++ [1, 4294967296, X, Y]).drop (28 + 5))
      rw [show (l ++ [1, 4294967296, X, Y]).drop (28 + 5) = [1, 4294967296, X, Y] from List.drop_left' h5, show (l ++ [1, 4294967296, X, Y]).getD (28 + 7) 0 = X from g 2, show (l ++ [1, 4294967296, X, Y]).getD (28 + 8) 0 = Y from g 3]
      exact ⟨X, Y, 1, 0, 0, 1, rfl, wX, wY, GI.zero wX.1 wY.1 ho⟩) fun i env ys hl hy _ hi => in_round i env ys hl hy hi

/-! ### the outer loop -/
def memO (a : Nat) : List (List SC × Bool) := [(us 0 4, false), (us 4 4, false), (us a 4, true), (us (a + 4) 4, true), (us (a + 8) 4, true), (us (a + 12) 4, true), (us (a + 16) 4, true)]
def argO (c : Nat) : List SW := [cP 0, cP 1, cP 2, cP 3, cP 4, cI c, cI (c + 1), cI (c + 2), cI (c + 3), cI (c + 4), cI (c + 5), cU (c + 6), cP 5, cP 6]
noncomputable def pOut : PC := { nt := Try.f18.ntmps, sl := [0, 1, 5, 6, 7, 8, 9, 10, 11, 12, 13, 14, 15, 16], args := argO 28, mem := memO 8, m := 28 + 7, ex := [{ e := .exit 0, out := [0, 1, 5, 6, 7, 14, 15, 16], id := 71, mout := 20 + 1, ret := [cP 0, cP 1, cP 2, cP 3, cP 4, cU (28 + 7 + 20), cP 5, cP 6], mem1 := memO (28 + 7) }] }
noncomputable def hOut : Nat → HS
  | 0 => pOut.h0
  | _ + 1 => { mout := 20 + 7, ret := argO (28 + 7 + 20), mem1 := memO (28 + 7) }
def exO (a c ne : Nat) : Tree := roundO 4 (vr 0 4) (vr 4 4) (vr a 4) (vr (a + 4) 4) (vr (a + 8) 4) (vr (a + 12) 4) (vr (a + 16) 4) (.var (c + 2)) (.var (c + 3)) (.var (c + 4)) (.var (c + 5)) (.var (c + 6)) ne
noncomputable def rdOut (i : Nat) : Tree := xcode (CP [kBits, kAppr, kLinD, kLinY, kNeg, kCombX, kCombY, kZero, kDec] [((18, 4), pIn)]) 60 18 0 (bodyOf Try.prog 18 0) (headSt pOut (hOut i)) (kend pOut (hOut (i + 1)))
theorem rdOut_eq0 : rdOut 0 = exO 8 28 (28 + 7) := Tree.beq_eq (by kernel_rfl)
theorem rdOut_eq1 : rdOut 1 = exO (28 + 7) (28 + 7 + 20) (28 + 7 + 20 + 7) := Tree.beq_eq (by kernel_rfl)
theorem lOut : ∀ κ ∈ [kBits, kAppr, kLinD, kLinY, kNeg, kCombX, kCombY, kZero, kDec], KOk Try.prog AA κ := by
  intro κ h
  simp only [List.mem_cons, List.not_mem_nil, or_false] at h
  rcases h with rfl | rfl | rfl | rfl | rfl | rfl | rfl | rfl | rfl
  · exact bits_ok
  · exact appr_ok
  · exact linD_ok
  · exact linY_ok
  · exact neg_ok
  · exact combX_ok
  · exact combY_ok
  · exact zero_ok
  · exact dec_ok
def xO (env : List Int) : List Int := (env.drop 4).take 4
def aO (i : Nat) (env ys : List Int) : List Int := match i with | 0 => (env.drop 8).take 4 | _ + 1 => ys.take 4
def bO (i : Nat) (env ys : List Int) : List Int := match i with | 0 => (env.drop 12).take 4 | _ + 1 => (ys.drop 4).take 4
def vO (i : Nat) (env ys : List Int) : List Int := match i with | 0 => (env.drop 20).take 4 | _ + 1 => (ys.drop 12).take 4
def iO (i : Nat) (env ys : List Int) : Int := match i with | 0 => env.getD (28 + 6) 0 | _ + 1 => ys.getD (20 + 6) 0
def invOut (i : Nat) (env ys : List Int) : Prop := vw (bO i env ys) % 2 = 1 ∧ (vw (xO env) = 0 → vw (aO i env ys) = 0 ∧ iO i env ys = 0 ∧ vw (vO i env ys) = 0)
def muOut (i : Nat) (env ys : List Int) : Nat := (2 * (vw (aO i env ys) + vw (bO i env ys)) + iO i env ys % 2).toNat
theorem argO_rng {c : Nat} : (IntKind.u64, c + 6) ∈ rngA ((argO c).map .ww) := by
  show _ ∈ [(IntKind.i64, c), (.i64, c + 1), (.i64, c + 2), (.i64, c + 3), (.i64, c + 4), (.i64, c + 5), (.u64, c + 6)]
  simp
theorem out_head (i : Nat) (env ys : List Int) (hl : env.length = 28 + 7) (hy : ys.length = (hOut i).mout) (hr : Rng (env ++ ys) (rngA ((hOut i).ret.map .ww) ++ rngM (hOut i).mem1)) :
    ∃ a c ne, rdOut i = exO a c ne ∧ ne = (env ++ ys).length ∧ 8 ≤ a ∧ a + 20 ≤ ne ∧ c + 7 ≤ ne ∧ Rng (env ++ ys) (rngA ((argO c).map .ww) ++ rngM (memO a)) ∧
      (vr a 4).map (·.val (env ++ ys)) = aO i env ys ∧ (vr (a + 4) 4).map (·.val (env ++ ys)) = bO i env ys ∧ (vr (a + 12) 4).map (·.val (env ++ ys)) = vO i env ys ∧ (SI.var (c + 6)).val (env ++ ys) = iO i env ys := by
  match i, hy, hr with
  | 0, hy, hr =>
    have hy : ys = [] := List.eq_nil_of_length_eq_zero hy
    subst hy
    rw [List.append_nil] at hr ⊢
    exact ⟨8, 28, 28 + 7, rdOut_eq0, hl.symm, by decide, by decide, by decide, hr, vr_vals (by omega), vr_vals (by omega), vr_vals (by omega), rfl⟩
  | i + 1, hy, hr =>
    have hy : ys.length = 20 + 7 := hy
    have cut : ∀ k, k + 4 ≤ 20 + 7 → (vr (28 + 7 + k) 4).map (·.val (env ++ ys)) = (ys.drop k).take 4 := fun k hk => by
      rw [vr_vals (by simp; omega), ← List.drop_drop, List.drop_left' hl]
    refine ⟨28 + 7, 28 + 7 + 20, 28 + 7 + 20 + 7, (show rdOut (i + 1) = rdOut 1 from rfl).trans rdOut_eq1, by simp [hl, hy], by decide, by decide, by decide, hr, ?_, cut 4 (by decide), cut 12 (by decide), ?_⟩
    · have := cut 0 (by decide)
      rw [List.drop_zero] at this
      exact this
    · exact getD_at (ne := 28 + 7) hl.symm (20 + 6)
theorem out_round (i : Nat) (env ys : List Int) (hl : env.length = 28 + 7) (hy : ys.length = (hOut i).mout) (hr : Rng (env ++ ys) (rngA ((hOut i).ret.map .ww) ++ rngM (hOut i).mem1)) (hi : invOut i env ys) : (rdOut i).holds (AA.rnd pOut i (hOut i) invOut muOut) (env ++ ys) := by
  obtain ⟨hodd, hx0⟩ := hi
  obtain ⟨a, c, ne, hT, hne, h2a, ha, hc, hR, va, vb, vv, vi⟩ := out_head i env ys hl hy hr
  rw [hT]
  have htake : ∀ e, (env ++ ys ++ e).take pOut.m = env := fun e => by rw [List.append_assoc]; exact List.take_left' hl
  have wr : ∀ k, (us (a + k) 4, true) ∈ memO a → Wds ((vr (a + k) 4).map (·.val (env ++ ys))) := fun k hk => wds_region hR hk
  have wa : Wds (aO i env ys) := by rw [← va]; exact wr 0 (by simp [memO])
  have wb : Wds (bO i env ys) := by rw [← vb]; exact wr 4 (by simp [memO])
  have wu := wr 8 (by simp [memO])
  have wv : Wds (vO i env ys) := by rw [← vv]; exact wr 12 (by simp [memO])
  have ws := wr 16 (by simp [memO])
  have wi : Wd (iO i env ys) := by rw [← vi]; exact wd_arg hR argO_rng
  have bd : ∀ k, k + 4 ≤ ne → ∀ z ∈ vr k 4, Bd ne z := fun k hk => vr_bd hk
  refine roundO_ok (A := AA.rnd pOut i (hOut i) invOut muOut) (qask rfl rfl) hne ?_ vr_length vr_length vr_length vr_length va vb rfl vv wa wb wu wv (by rw [vi]; exact wi) hodd ?_ ?_
  · intro z hz
    unfold passO at hz
    simp only [List.mem_append, List.mem_cons, List.not_mem_nil, or_false] at hz
    have bv : ∀ k, k < 7 → Bd ne (SI.var (c + k)) := fun k hk => by show c + k < ne; omega
    rcases hz with ((((((h | h) | h) | h) | h) | h) | h) | h | h | h | h | h
    · first | exact h.elim | exact bd _ (by omega) z h
    · first | exact h.elim | exact bd _ (by omega) z h
    · first | exact h.elim | exact bd _ (by omega) z h
    · first | exact h.elim | exact bd _ (by omega) z h
    · first | exact h.elim | exact bd _ (by omega) z h
    · first | exact h.elim | exact bd _ (by omega) z h
    · first | exact h.elim | exact bd _ (by omega) z h
    · rw [h]; exact bv 2 (by decide)
    · rw [h]; exact bv 3 (by decide)
    · rw [h]; exact bv 4 (by decide)
    · rw [h]; exact bv 5 (by decide)
    · rw [h]; exact bv 6 (by decide)
  · intro e h0 h1
    have hu : ∀ {l : List SI} {v : List Int}, (∀ z ∈ l, Bd ne z) → l.map (·.val (env ++ ys)) = v → l.map (·.val (env ++ ys ++ e)) = v := fun hb hv => olds hne hb hv e
    show OutP 4 ((env ++ ys ++ e).take pOut.m) ((dec (enc _)).map (·.val (env ++ ys ++ e)))
    rw [dec_enc, htake]
    simp only [List.map_append, List.map_cons, List.map_nil]
    rw [hu (bd _ (by omega)) va, hu (bd _ (by omega)) vb, hu (bd _ (by omega)) rfl, hu (bd _ (by omega)) vv, hu (bd _ (by omega)) rfl, val_more (by rw [← hne]; show c + 6 < ne; omega), vi]
    have la : (aO i env ys).length = 4 := by rw [← va]; simp [vr_length]
    have lb : (bO i env ys).length = 4 := by rw [← vb]; simp [vr_length]
    have lv : (vO i env ys).length = 4 := by rw [← vv]; simp [vr_length]
    refine ⟨((((wa.append wb).append wu).append wv).append ws).append (wds_cons wi wds_nil), fun hx => ?_⟩
    rw [List.append_assoc, List.append_assoc, List.drop_left' (by simp [la, lb, vr_length]), take_app lv]
    rw [bk_drop (j := 4) hl] at hx
    exact (hx0 hx).2.2
  · rw [vi]
    intro hc e os hN
    obtain ⟨a', b', r, hos, la, lb, lr, wa', wb', hodd', hle, hlt⟩ := hN
    show invOut (i + 1) ((env ++ ys ++ e).take pOut.m) ((dec (enc os)).map (·.val (env ++ ys ++ e))) ∧ muOut (i + 1) ((env ++ ys ++ e).take pOut.m) ((dec (enc os)).map (·.val (env ++ ys ++ e))) < muOut i ((env ++ ys ++ e).take pOut.m) (((env ++ ys ++ e).drop pOut.m).take (hOut i).mout)
    have hdrop : ((env ++ ys ++ e).drop pOut.m).take (hOut i).mout = ys := by
      rw [List.append_assoc, show (env ++ (ys ++ e)).drop pOut.m = ys ++ e from List.drop_left' hl, List.take_left' hy]
    rw [dec_enc, htake, hos, hdrop]
    have e1 : aO (i + 1) env (a' ++ b' ++ r ++ [IntKind.u64.wrap (iO i env ys + 1)]) = a' := by
      show (a' ++ b' ++ r ++ [_]).take 4 = a'
      rw [List.append_assoc, List.append_assoc, take_app la]
    have e2 : bO (i + 1) env (a' ++ b' ++ r ++ [IntKind.u64.wrap (iO i env ys + 1)]) = b' := by
      show ((a' ++ b' ++ r ++ [_]).drop 4).take 4 = b'
      rw [List.append_assoc, List.append_assoc, drop_app la, take_app lb]
    have e3 : iO (i + 1) env (a' ++ b' ++ r ++ [IntKind.u64.wrap (iO i env ys + 1)]) = IntKind.u64.wrap (iO i env ys + 1) := at_end (by simp [la, lb, lr])
    have pa := (vw_bounds wa).1
    have pb := (vw_bounds wb).1
    have pa' := (vw_bounds wa').1
    have pb' := (vw_bounds wb').1
    refine ⟨⟨by rw [e2]; exact hodd', fun hx => ?_⟩, ?_⟩
    · obtain ⟨h1, h2, _⟩ := hx0 hx
      rcases hc with h | h
      · rw [h2] at h; exact absurd h (by decide)
      · exact absurd h1 h
    · unfold muOut
      rw [e1, e2, e3, IntKind.wrap_u64]
      generalize iO i env ys = j at *
      generalize vw (aO i env ys) = A at *
      generalize vw (bO i env ys) = B at *
      rcases hc with h | h
      · omega
      · have := hlt (by omega)
        omega
theorem outLoop_ok : ∀ c, InF Try.prog 18 (2 * 0, c) → PcKOk Try.prog AA pOut c :=
  loop_piece (C := CP [kBits, kAppr, kLinD, kLinY, kNeg, kCombX, kCombY, kZero, kDec] [((18, 4), pIn)]) mixed ext0 (conOf_ok lOut) (pcOf_ok (by
    intro q hq
    simp only [List.mem_cons, List.not_mem_nil, or_false] at hq
    subst hq
    exact ⟨by decide, inLoop_ok⟩)) 60 (by kernel_rfl) (by kernel_rfl) hOut invOut muOut rfl
    (fun env hl _ hp => by
      have h : OutI 4 env := (hp _ (List.mem_cons_self ..)).2
      obtain ⟨h1, h2⟩ := h
      rw [bk_drop (j := 4) hl] at h1 h2
      simp only [List.drop_drop, drop_getD] at h1 h2
      exact ⟨h1, h2⟩) fun i env ys hl hy hr hi => out_round i env ys hl hy hr hi
end Go.Proofs.Ytmnenhkjdhbjmaa
