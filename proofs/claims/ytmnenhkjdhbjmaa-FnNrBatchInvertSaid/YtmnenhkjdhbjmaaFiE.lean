/-
  The loops of the inverse and of the power behind it: each round from its tree of facts. No conditions.
-/
import Derived.Test.YtmnenhkjdhbjmaaFiC
namespace Go.Proofs.Ytmnenhkjdhbjmaa
open Go Eng Go.RowKit
set_option maxRecDepth 100000
def cI (x : Nat) : SW := .cc (.ii .i64 (.var x))
def cU (x : Nat) : SW := .cc (.ii .u64 (.var x))
def cP (x : Nat) : SW := .cc (.pp x 0)

/-! ### the power -/
def eW : List SC := (ls [4891460686036598783, 2896914383306846353, 13281191951274694749, 3486998266802970665]).map fun e => .ii .u64 e
noncomputable def pExp : PC := { nt := Try.f36.ntmps, sl := [0, 3, 5, 6], args := [cP 0, cP 1, cP 2, .cc (.ii .i64 (.lit 252))], mem := [(us 0 4, true), (us 4 4, false), (eW, false)], m := 8, ex := [{ e := .exit 0, out := [0], id := 73, mout := 4, ret := [cP 0], mem1 := [(us 8 4, true), (us 4 4, false), (eW, false)] }] }
noncomputable def hExp : Nat → HS
  | 0 => pExp.h0
  | i + 1 => { mout := 4, ret := [cP 0, cP 1, cP 2, .cc (.ii .i64 (.lit ((252 : Int) - ((i + 1 : Nat) : Int))))], mem1 := [(us 8 4, true), (us 4 4, false), (eW, false)] }
def curExp : Nat → List SI
  | 0 => vr 0 4
  | _ + 1 => vr 8 4
def neExp : Nat → Nat
  | 0 => 8
  | _ + 1 => 12
def expT (n : Nat) (bit : Bool) (os xs : List SI) (ne : Nat) : Tree := .hav 58 os n (bif bit then .hav 35 (vr ne n ++ xs) n (.fin (enc (vr (ne + n) n)) st0) else .fin (enc (vr ne n)) st0)
def exExp (j : Nat) : Tree := bif Nat.beq j 253 then .fin (enc (curExp j)) { st0 with fn := 1 } else expT 4 (Nat.beq (21888242871839275222246405745257275088548364400416034343698204186575808495615 / 2 ^ (252 - j) % 2) 1) (curExp j) (vr 4 4) (neExp j)
noncomputable def rdExp (i : Nat) : Tree := xcode (CC [kSqZ, kMulZ]) 60 36 0 (bodyOf Try.prog 36 0) (headSt pExp (hExp i)) (kend pExp (hExp (i + 1)))
theorem rdExp_eq {i : Nat} (hi : i < 254) : rdExp i = exExp i :=
  all_trees (f := rdExp) (g := exExp) (n := 254) (by kernel_rfl) hi
theorem expT_ok {A : Eng.Ask} (h1 : A.pre = AA.pre) (h2 : A.post = AA.post) {bit : Bool} {os xs : List SI} {ne k : Nat} {env c x : List Int} (hne : ne = env.length) (bxs : ∀ z ∈ xs, Bd ne z) (vo : os.map (·.val env) = c) (vx : xs.map (·.val env) = x)
    (wx : Wds x) (bx : vw x < vw prime) (hk : 1 ≤ k) (hp : PowM 4 prime x k c)
    (hK : ∀ (e : List Int) (os' : List SI), PowM 4 prime x (2 * k + (if bit then 1 else 0)) (os'.map (·.val (env ++ e))) → A.fin (enc os') st0 (env ++ e)) : (expT 4 bit os xs ne).holds A env := by
  have hp0 := hp
  obtain ⟨lc, wc, bc, _⟩ := hp
  refine ⟨by rw [vo, h1]; exact ⟨hi (by decide), wc, bc⟩, fun ys hy h => ?_⟩
  rw [vo, h2] at h
  have h : MulM 4 prime c c ys := h
  have q := pow_sq hk hp0 h
  cases bit
  · rw [cond_false]
    refine hK ys _ ?_
    rw [vals_new hne hy.symm]
    exact q
  · rw [cond_true]
    have hv : (vr ne 4 ++ xs).map (·.val (env ++ ys)) = ys ++ x := by rw [List.map_append, vals_new hne hy.symm, olds hne bxs vx]
    refine ⟨by rw [hv, h1]; exact ⟨fun _ => h.2.1.append wx, by show vw ((ys ++ x).drop 4) < _; rw [drop_app hy]; exact bx⟩, fun zs hz h' => ?_⟩
    rw [hv, h2] at h'
    have h' : MulM 4 prime ((ys ++ x).take 4) ((ys ++ x).drop 4) zs := h'
    rw [take_app hy, drop_app hy] at h'
    have := hK (ys ++ zs) (vr (ne + 4) 4) (by
      rw [← List.append_assoc, vals_new (by simp [hne, hy]) hz.symm]
      exact pow_mul (by omega) q h')
    rw [← List.append_assoc] at this
    exact this
theorem e_pos (i : Nat) : 1 ≤ 21888242871839275222246405745257275088548364400416034343698204186575808495615 / 2 ^ (253 - i) :=
  Nat.div_pos (Nat.le_trans (Nat.pow_le_pow_right (by decide) (Nat.sub_le _ _)) (by decide +kernel : 2 ^ 253 ≤ 21888242871839275222246405745257275088548364400416034343698204186575808495615)) (Nat.two_pow_pos _)
theorem e_step {i : Nat} (hi : i < 253) : 2 * (21888242871839275222246405745257275088548364400416034343698204186575808495615 / 2 ^ (253 - i)) + (if Nat.beq (21888242871839275222246405745257275088548364400416034343698204186575808495615 / 2 ^ (252 - i) % 2) 1 = true then 1 else 0) = 21888242871839275222246405745257275088548364400416034343698204186575808495615 / 2 ^ (253 - (i + 1)) := by
  have e : 253 - i = 253 - (i + 1) + 1 := by omega
  rw [e, Nat.pow_succ, ← Nat.div_div_eq_div_mul, show 252 - i = 253 - (i + 1) by omega]
  generalize 21888242871839275222246405745257275088548364400416034343698204186575808495615 / 2 ^ (253 - (i + 1)) = k
  by_cases h : k % 2 = 1
  · rw [if_pos (by rw [h]; rfl)]; omega
  · rw [if_neg (fun e => h (Nat.eq_of_beq_eq_true e))]; omega
def invExp (i : Nat) (env ys : List Int) : Prop := i ≤ 253 ∧ Wds env ∧ vw (env.drop 4) < vw prime ∧ PowM 4 prime (env.drop 4) (21888242871839275222246405745257275088548364400416034343698204186575808495615 / 2 ^ (253 - i)) (match i with | 0 => env.take 4 | _ + 1 => ys)
theorem exp_round (i : Nat) (env ys : List Int) (hl : env.length = 8) (hy : ys.length = (hExp i).mout) (hi : invExp i env ys) : (rdExp i).holds (AA.rnd pExp i (hExp i) invExp (fun i _ _ => 254 - i)) (env ++ ys) := by
  obtain ⟨hi, hw, hb, hr⟩ := hi
  rw [rdExp_eq (show i < 254 by omega)]
  have hc : ∃ c, (curExp i).map (·.val (env ++ ys)) = c ∧ PowM 4 prime (env.drop 4) (21888242871839275222246405745257275088548364400416034343698204186575808495615 / 2 ^ (253 - i)) c ∧ neExp i = (env ++ ys).length ∧ 8 ≤ neExp i := by
    match i, hy, hr with
    | 0, hy, hr =>
      have hy : ys.length = 0 := hy
      exact ⟨_, by rw [show curExp 0 = vr 0 4 from rfl, vals_more (vr_bd (by omega)), vr_vals (by omega), List.drop_zero], hr, by simp [neExp, hl, hy], by simp [neExp]⟩
    | i + 1, hy, hr =>
      have hy : ys.length = 4 := hy
      exact ⟨ys, by
        have := vals_new hl.symm hy.symm
        exact this, hr, by simp [neExp, hl, hy], by simp [neExp]⟩
  obtain ⟨c, kc, hr, hne, hle⟩ := hc
  have htake : ∀ e, (env ++ ys ++ e).take pExp.m = env := fun e => by rw [List.append_assoc]; exact List.take_left' hl
  unfold exExp
  cases hb1 : Nat.beq i 253
  · rw [cond_false]
    have hneB : i ≠ 253 := fun e => by subst e; simp at hb1
    have hx : (vr 4 4).map (·.val (env ++ ys)) = env.drop 4 := by
      rw [vals_more (vr_bd (by omega)), vr_vals (by omega), List.take_of_length_le (by simp; omega)]
    refine expT_ok (A := AA.rnd pExp i (hExp i) invExp (fun i _ _ => 254 - i)) rfl rfl hne (vr_bd (by omega)) kc hx (hw.drop _) hb (e_pos i) hr fun e os h => ?_
    rw [e_step (by omega)] at h
    have hinv : invExp (i + 1) env (os.map (·.val (env ++ ys ++ e))) := ⟨by omega, hw, hb, h⟩
    show invExp (i + 1) ((env ++ ys ++ e).take pExp.m) ((dec (enc os)).map (·.val (env ++ ys ++ e))) ∧ _
    rw [dec_enc, htake]
    exact ⟨hinv, by show 254 - (i + 1) < 254 - i; omega⟩
  · rw [cond_true]
    have hiB := Nat.eq_of_beq_eq_true hb1
    have := htake []
    rw [List.append_nil] at this
    show PowM 4 prime (((env ++ ys).take pExp.m).drop 4) (vw prime - 2).toNat ((dec (enc (curExp i))).map (·.val (env ++ ys)))
    rw [dec_enc, this, kc, show (vw prime - 2).toNat = 21888242871839275222246405745257275088548364400416034343698204186575808495615 / 2 ^ (253 - i) by rw [hiB]; decide +kernel]
    exact hr
theorem expLoop_ok : ∀ c, InF Try.prog 36 (2 * 0, c) → PcKOk Try.prog AA pExp c :=
  loop_piece (C := CC [kSqZ, kMulZ]) mixed ext0 (conOf_ok (by
    intro κ h
    simp only [List.mem_cons, List.not_mem_nil, or_false] at h
    rcases h with rfl | rfl
    · exact sqZ_ok
    · exact mulZ_ok)) (fun _ _ _ _ _ _ h => by cases h) 60 (by kernel_rfl) (by kernel_rfl) hExp invExp (fun i _ _ => 254 - i) rfl
    (fun env hl _ hp => by
      obtain ⟨_, hw, he, hb⟩ := (hp _ (List.mem_cons_self ..) : (73 < 46 → Wds env) ∧ Wds env ∧ _ ∧ _)
      have hl : env.length = 8 := hl
      refine ⟨by omega, hw, hb, ?_⟩
      show PowM 4 prime (env.drop 4) _ (env.take 4)
      rw [he, show 21888242871839275222246405745257275088548364400416034343698204186575808495615 / 2 ^ (253 - 0) = 1 by decide +kernel]
      exact pow_self (by simp; omega) (hw.drop _) hb) fun i env ys hl hy _ hi => exp_round i env ys hl hy hi

/-! ### a product that was missed -/
def shrT (n lim : Nat) (v a : List SI) (i : SI) (ne : Nat) : Tree :=
  .dfn (.cmp .lss) [i, .lit (lim : Int)] (.br ne (.hav 35 (v ++ a) n (.dfn (.bin .add .u64) [i, .lit 2] (.fin (enc (vr (ne + 1) n ++ [.var (ne + 1 + n)])) st0))) (.fin (enc v) { st0 with fn := 1 }))
theorem mul_zero_of {x y z : List Int} (hx : vw x = 0) (h : MulM 4 prime x y z) : vw z = 0 := by
  obtain ⟨lz, wz, bz, hd⟩ := h
  have hd : vw prime ∣ vw z * BW ^ 4 - 0 := by rw [hx, Int.zero_mul] at hd; exact hd
  have : z = List.replicate 4 0 := mont_one (n := 4) (a := [0]) q_odd (by rw [vw_one]; exact hd) (by rw [vw_one, vw_zeros, Int.zero_mul]; exact ⟨0, rfl⟩) wz (fun x hx => by rw [List.eq_of_mem_replicate hx]; exact ⟨by decide, by decide⟩) (by simp [lz]) bz (by rw [vw_zeros]; decide)
  rw [this, vw_zeros]
theorem shrT_ok {A : Eng.Ask} (h1 : A.pre = AA.pre) (h2 : A.post = AA.post) {v a : List SI} {i : SI} {ne : Nat} {env V M : List Int} (hne : ne = env.length) (bv : ∀ z ∈ v, Bd ne z) (ba : ∀ z ∈ a, Bd ne z) (bi : Bd ne i) (vv : v.map (·.val env) = V) (va : a.map (·.val env) = M)
    (lV : V.length = 4) (wV : Wds V) (wM : Wds M) (wi : Wd (i.val env)) (bM : vw M < vw prime)
    (hx : ∀ e : List Int, A.fin (enc v) { st0 with fn := 1 } (env ++ e))
    (hk : i.val env < 18 → ∀ (e : List Int) (os : List SI), (∃ z, os.map (·.val (env ++ e)) = z ++ [i.val env + 2] ∧ z.length = 4 ∧ Wds z ∧ (vw V = 0 → vw z = 0)) → A.fin (enc os) st0 (env ++ e)) : (shrT 4 18 v a i ne).holds A env := by
  unfold shrT
  refine hold_dfn0 (v := b01 (decide (i.val env < 18))) rfl ?_
  have tE : (env ++ [b01 (decide (i.val env < 18))]).getD ne 0 = b01 (decide (i.val env < 18)) := at_end hne
  refine ⟨fun h => ?_, fun _ => hx _⟩
  rw [tE] at h
  have hlt := of_decide_eq_true ((b01_one _).1 h)
  refine hold_hav (v := V ++ M) (by rw [List.map_append, olds hne bv vv, olds hne ba va]) (by rw [h1]; exact ⟨fun _ => wV.append wM, by show vw ((V ++ M).drop 4) < _; rw [drop_app lV]; exact bM⟩) fun ys hy h => ?_
  rw [h2] at h
  have h : MulM 4 prime ((V ++ M).take 4) ((V ++ M).drop 4) ys := h
  rw [take_app lV, drop_app lV] at h
  refine hold_dfn (v := i.val env + 2) ?_ ?_
  · show IntKind.u64.wrap (i.val _ + 2) = _
    rw [val_more (by rw [← hne]; exact bi), IntKind.wrap_u64]
    obtain ⟨g1, g2⟩ := wi
    omega
  refine hk hlt _ _ ⟨ys, ?_, hy, h.2.1, fun h0 => mul_zero_of h0 h⟩
  rw [List.map_append, List.map_cons, List.map_nil]
  congr 1
  · exact vals_mid (env := env ++ [b01 (decide (i.val env < 18))]) (r := ys) (e := [i.val env + 2]) (i := ne + 1) (m := 4) (by simp [hne]) hy.symm |> fun h => by
      simp only [List.append_assoc] at h ⊢
      exact h
  · rw [show ne + 1 + 4 = ne + (1 + 4) by omega, var_at hne]
    congr 1
    exact at_end (by simp [hy])
end Go.Proofs.Ytmnenhkjdhbjmaa
