/-
  A power modulo the prime; the character. No conditions.
-/
import Derived.Test.YtajhellohcibiaaDoorFsD
namespace Go.Proofs.YtajhellohcibiaaDoor
open Go Eng Go.RowKit
set_option maxRecDepth 100000
/-! ### a power by squares -/
def rP : List (List SC × Bool) := [(us 0 4, false), (halfL, false), (primeL, false), (us 4 4, false)]
noncomputable def pPow : PC := { nt := Tryd.f13.ntmps, sl := [0, 1, 2, 7, 8], args := [sS 0, sS 1, sS 2, sS 3, .cc (.ii .i64 (.lit 255))], mem := rP, m := 8, ex := [{ e := .exit 0, out := [7], id := 83, mout := 4, ret := [sS 4], mem1 := rP ++ [(us 8 4, true)] }] }
noncomputable def hPow : Nat → HS
  | 0 => pPow.h0
  | i + 1 => { mout := 4, ret := [sS 0, sS 1, sS 2, sS 4, .cc (.ii .i64 (.lit ((255 : Int) - ((i + 1 : Nat) : Int))))], mem1 := rP ++ [(us 8 4, true)] }
def curPow : Nat → List SI
  | 0 => vr 4 4
  | _ + 1 => vr 8 4
def nePow : Nat → Nat
  | 0 => 8
  | _ + 1 => 12
def powT (bit : Bool) (os : List SI) (ne : Nat) : Tree := .hav 63 (os ++ os ++ ls prime) 4 (bif bit then .hav 63 (vr ne 4 ++ vr 0 4 ++ ls prime) 4 (.fin (enc (vr (ne + 4) 4)) st0) else .fin (enc (vr ne 4)) st0)
def exPow (j : Nat) : Tree := bif Nat.beq j 256 then .fin (enc (curPow j)) { st0 with fn := 1 } else powT (Nat.beq (10944121435919637611123202872628637544274182200208017171849102093287904247808 / 2 ^ (255 - j) % 2) 1) (curPow j) (nePow j)
noncomputable def rdPow (i : Nat) : Tree := xcode (CC [kPrd]) 60 13 0 (bodyOf Tryd.prog 13 0) (headSt pPow (hPow i)) (kend pPow (hPow (i + 1)))
theorem rdPow_eq0 : (List.range 65).all (fun j => Tree.beq (rdPow (0 + j)) (exPow (0 + j))) = true := by kernel_rfl
theorem rdPow_eq1 : (List.range 65).all (fun j => Tree.beq (rdPow (65 + j)) (exPow (65 + j))) = true := by kernel_rfl
theorem rdPow_eq2 : (List.range 65).all (fun j => Tree.beq (rdPow (130 + j)) (exPow (130 + j))) = true := by kernel_rfl
theorem rdPow_eq3 : (List.range 62).all (fun j => Tree.beq (rdPow (195 + j)) (exPow (195 + j))) = true := by kernel_rfl
theorem rdPow_use {k m i : Nat} (h : (List.range m).all (fun j => Tree.beq (rdPow (k + j)) (exPow (k + j))) = true) (hi : k ≤ i ∧ i < k + m) : rdPow i = exPow i := by
  have := all_trees (f := fun j => rdPow (k + j)) (g := fun j => exPow (k + j)) h (show i - k < m by omega)
  have e : k + (i - k) = i := by omega
  simp only [e] at this
  exact this
theorem rdPow_eq {i : Nat} (hi : i < 257) : rdPow i = exPow i := by
  rcases (show (0 ≤ i ∧ i < 0 + 65) ∨ (65 ≤ i ∧ i < 65 + 65) ∨ (130 ≤ i ∧ i < 130 + 65) ∨ (195 ≤ i ∧ i < 195 + 62) by omega) with h | h | h | h
  · exact rdPow_use rdPow_eq0 h
  · exact rdPow_use rdPow_eq1 h
  · exact rdPow_use rdPow_eq2 h
  · exact rdPow_use rdPow_eq3 h
theorem ls_bd {q : List Int} {m : Nat} : ∀ z ∈ ls q, Bd m z := fun z hz => by
  obtain ⟨_, _, rfl⟩ := List.mem_map.1 hz
  trivial
theorem q_len : prime.length = 4 := rfl
theorem powT_ok {A : Eng.Ask} (h1 : A.pre = AA.pre) (h2 : A.post = AA.post) {bit : Bool} {os : List SI} {ne k : Nat} {env c a : List Int} (hne : ne = env.length) (hN : 4 ≤ ne) (vo : os.map (·.val env) = c) (va : env.take 4 = a)
    (wa : Wds a) (hp : PowR (vw a) k c)
    (hK : ∀ (e : List Int) (os' : List SI), PowR (vw a) (2 * k + (if bit then 1 else 0)) (os'.map (·.val (env ++ e))) → A.fin (enc os') st0 (env ++ e)) : (powT bit os ne).holds A env := by
  obtain ⟨lc, wc, vc, bc⟩ := hp
  have q0 := q_pos
  have bl : ∀ x : Int, 0 ≤ x % vw prime ∧ x % vw prime < vw prime := fun x => ⟨Int.emod_nonneg _ (by omega), Int.emod_lt_of_pos _ q0⟩
  have hv1 : (os ++ os ++ ls prime).map (·.val env) = c ++ c ++ prime := by rw [List.map_append, List.map_append, vo, ls_vals]
  have la : a.length = 4 := by rw [← va]; simp; omega
  refine ⟨by rw [hv1, h1]; exact ⟨hi (by decide), (wc.append wc).append wq.wd, by
    show vw ((c ++ c ++ prime).take 4) < vw ((c ++ c ++ prime).drop 8)
    rw [app_drop2 lc lc, List.append_assoc, take_app lc]; exact bc⟩, fun ys hy h => ?_⟩
  rw [hv1, h2] at h
  have h : PrdP 4 ((c ++ c ++ prime).take 4) (((c ++ c ++ prime).drop 4).take 4) ((c ++ c ++ prime).drop 8) ys := h
  rw [app_drop2 lc lc, app_mid lc lc, List.append_assoc, take_app lc] at h
  obtain ⟨ly, wy, vy⟩ := h
  have e2 : vw ys = vw a ^ (2 * k) % vw prime := by
    rw [vy, vc, show 2 * k = k + k by omega, Int.pow_add, ← Int.mul_emod]
  cases bit
  · rw [cond_false]
    refine hK ys _ ?_
    rw [vals_new hne hy.symm]
    exact ⟨ly, wy, by rw [e2]; rfl, by rw [e2]; exact (bl _).2⟩
  · rw [cond_true]
    have hv2 : (vr ne 4 ++ vr 0 4 ++ ls prime).map (·.val (env ++ ys)) = ys ++ a ++ prime := by
      rw [List.map_append, List.map_append, vals_new hne hy.symm, ls_vals, vals_more (vr_bd (by omega)), vr_vals (by omega), List.drop_zero, va]
    refine ⟨by rw [hv2, h1]; exact ⟨hi (by decide), (wy.append wa).append wq.wd, by
      show vw ((ys ++ a ++ prime).take 4) < vw ((ys ++ a ++ prime).drop 8)
      rw [app_drop2 ly la, List.append_assoc, take_app ly, e2]; exact (bl _).2⟩, fun zs hz h' => ?_⟩
    rw [hv2, h2] at h'
    have h' : PrdP 4 ((ys ++ a ++ prime).take 4) (((ys ++ a ++ prime).drop 4).take 4) ((ys ++ a ++ prime).drop 8) zs := h'
    rw [app_drop2 ly la, app_mid ly la, List.append_assoc, take_app ly] at h'
    obtain ⟨lz, wz, vz⟩ := h'
    have e3 : vw zs = vw a ^ (2 * k + 1) % vw prime := by
      rw [vz, e2, Int.pow_succ, Int.mul_emod, Int.emod_emod, ← Int.mul_emod]
    have := hK (ys ++ zs) (vr (ne + 4) 4) (by
      rw [← List.append_assoc, vals_new (by simp [hne, hy]) hz.symm]
      exact ⟨lz, wz, by rw [e3]; rfl, by rw [e3]; exact (bl _).2⟩)
    rw [← List.append_assoc] at this
    exact this
theorem h_step {i : Nat} (hi : i < 256) : 2 * (10944121435919637611123202872628637544274182200208017171849102093287904247808 / 2 ^ (256 - i)) + (if Nat.beq (10944121435919637611123202872628637544274182200208017171849102093287904247808 / 2 ^ (255 - i) % 2) 1 = true then 1 else 0) = 10944121435919637611123202872628637544274182200208017171849102093287904247808 / 2 ^ (256 - (i + 1)) := by
  have e : 256 - i = 256 - (i + 1) + 1 := by omega
  rw [e, Nat.pow_succ, ← Nat.div_div_eq_div_mul, show 255 - i = 256 - (i + 1) by omega]
  generalize 10944121435919637611123202872628637544274182200208017171849102093287904247808 / 2 ^ (256 - (i + 1)) = k
  by_cases h : k % 2 = 1
  · rw [if_pos (by rw [h]; rfl)]; omega
  · rw [if_neg (fun e => h (Nat.eq_of_beq_eq_true e))]; omega
def invPow (i : Nat) (env ys : List Int) : Prop := i ≤ 256 ∧ Wds env ∧ PowR (vw (env.take 4)) (10944121435919637611123202872628637544274182200208017171849102093287904247808 / 2 ^ (256 - i)) (match i with | 0 => env.drop 4 | _ + 1 => ys)
theorem pow_round (i : Nat) (env ys : List Int) (hl : env.length = 8) (hy : ys.length = (hPow i).mout) (hi : invPow i env ys) : (rdPow i).holds (AA.rnd pPow i (hPow i) invPow (fun i _ _ => 257 - i)) (env ++ ys) := by
  obtain ⟨hi, hw, hr⟩ := hi
  rw [rdPow_eq (show i < 257 by omega)]
  have hc : ∃ c, (curPow i).map (·.val (env ++ ys)) = c ∧ PowR (vw (env.take 4)) (10944121435919637611123202872628637544274182200208017171849102093287904247808 / 2 ^ (256 - i)) c ∧ nePow i = (env ++ ys).length ∧ 8 ≤ nePow i := by
    match i, hy, hr with
    | 0, hy, hr =>
      have hy : ys.length = 0 := hy
      exact ⟨_, by rw [show curPow 0 = vr 4 4 from rfl, vals_more (vr_bd (by omega)), vr_vals (by omega), List.take_of_length_le (by simp; omega)], hr, by simp [nePow, hl, hy], by simp [nePow]⟩
    | i + 1, hy, hr =>
      have hy : ys.length = 4 := hy
      exact ⟨ys, by
        have := vals_new hl.symm hy.symm
        exact this, hr, by simp [nePow, hl, hy], by simp [nePow]⟩
  obtain ⟨c, kc, hr, hne, hle⟩ := hc
  have htake : ∀ e, (env ++ ys ++ e).take pPow.m = env := fun e => by rw [List.append_assoc]; exact List.take_left' hl
  unfold exPow
  cases hb1 : Nat.beq i 256
  · rw [cond_false]
    have hneB : i ≠ 256 := fun e => by subst e; simp at hb1
    refine powT_ok (A := AA.rnd pPow i (hPow i) invPow (fun i _ _ => 257 - i)) rfl rfl hne (by omega) kc (by rw [List.take_append_of_le_length (by omega)]) (hw.take _) hr fun e os h => ?_
    rw [h_step (by omega)] at h
    have hinv : invPow (i + 1) env (os.map (·.val (env ++ ys ++ e))) := ⟨by omega, hw, h⟩
    show invPow (i + 1) ((env ++ ys ++ e).take pPow.m) ((dec (enc os)).map (·.val (env ++ ys ++ e))) ∧ _
    rw [dec_enc, htake]
    exact ⟨hinv, by show 257 - (i + 1) < 257 - i; omega⟩
  · rw [cond_true]
    have hiB := Nat.eq_of_beq_eq_true hb1
    have := htake []
    rw [List.append_nil] at this
    show PowR (vw (((env ++ ys).take pPow.m).take 4)) 10944121435919637611123202872628637544274182200208017171849102093287904247808 ((dec (enc (curPow i))).map (·.val (env ++ ys)))
    rw [dec_enc, this, kc]
    rw [hiB, Nat.sub_self, Nat.pow_zero, Nat.div_one] at hr
    exact hr
theorem lPrd : ∀ κ ∈ [kPrd], KOk Tryd.prog AA κ := by
  intro κ h
  simp only [List.mem_cons, List.not_mem_nil, or_false] at h
  rcases h with rfl
  · exact prd_ok
theorem powLoop_ok : ∀ c, InF Tryd.prog 13 (2 * 0, c) → PcKOk Tryd.prog AA pPow c :=
  loop_piece (C := CC [kPrd]) mixed ext0 (conOf_ok lPrd) (fun _ _ _ _ _ _ h => by cases h) 60 (by kernel_rfl) (by kernel_rfl) hPow invPow (fun i _ _ => 257 - i) rfl
    (fun env hl _ hp => by
      obtain ⟨_, hw, hb, h1⟩ := (hp _ (List.mem_cons_self ..) : (83 < 46 → Wds env) ∧ Wds env ∧ _ ∧ _)
      have hl : env.length = 8 := hl
      refine ⟨by omega, hw, by simp; omega, hw.drop _, ?_, ?_⟩
      · show vw (env.drop 4) = _
        rw [h1, show 10944121435919637611123202872628637544274182200208017171849102093287904247808 / 2 ^ (256 - 0) = 0 by decide +kernel, Int.pow_zero]
        decide
      · show vw (env.drop 4) < _
        rw [h1]
        decide) fun i env ys hl hy _ hi => pow_round i env ys hl hy hi
def kPow : K := { f := 13, args := [sl 0 4, sl 1 4, sl 2 4], mem := [(us 0 4, false), (halfL, false), (primeL, false)], m := 4, id := 84, mout := 4, ret := sl 3 4, mem1 := [(us 0 4, false), (halfL, false), (primeL, false), (us 4 4, true)] }
noncomputable def CPow : Cfg := CP [] [((13, 0), pPow)]
def kChar : K := { f := 7, args := [sl 0 4, sl 1 4], mem := [(us 0 4, false), (primeL, false)], m := 4, id := 85, mout := 1, ret := i1 4, mem1 := [(us 0 4, false), (primeL, false)] }
def kSqrt : K := { f := 6, args := [ar 0 4], mem := [], m := 4, id := 82, mout := 5, ret := .tt [.aa (us 4 4), .cc (.bb (.var 8))], mem1 := [] }
def kLaw : K := { f := 3, args := [ar 0 4], mem := [], m := 4, id := 13, mout := 1, ret := bo 4, mem1 := [] }
theorem pow_ok : KOk Tryd.prog AA kPow :=
  kok_of (C := CPow) mixed ext0 (conOf_ok (by simp)) (pcOf_ok (by
    intro q hq
    simp only [List.mem_cons, List.not_mem_nil, or_false] at hq
    subst hq
    exact ⟨by decide, powLoop_ok⟩)) 60 (by kernel_rfl) fun env hl hr hp => by
    have ht : xcall CPow (fun f => xcode CPow 60 f 0) kPow.f kPow.args kPow.st kPow.end = .hav 83 (vr 0 4 ++ .lit 1 :: List.replicate (4 - 1) (.lit 0)) 4 (.fin (enc (vr 4 4)) st0) := by kernel_rfl
    rw [ht]
    have hl' : env.length = 4 := hl
    have hv : (vr 0 4 ++ SI.lit 1 :: List.replicate (4 - 1) (SI.lit 0)).map (·.val env) = env ++ 1 :: List.replicate (4 - 1) 0 := by rw [List.map_append, one_vr hl', List.map_cons, List.map_replicate]; rfl
    obtain ⟨_, hw, hb⟩ := hp
    refine ⟨by
      rw [hv]
      refine ⟨hi (by decide), hw.append (wds_cons ⟨by decide, by decide⟩ (wds_zeros _)), ?_, ?_⟩
      · show vw ((env ++ _).take 4) < _
        rw [take_app hl']; exact hb
      · show vw ((env ++ _).drop 4) = 1
        rw [drop_app hl']; decide, fun ys hy h => ?_⟩
    rw [hv] at h
    have h : PowR (vw ((env ++ 1 :: List.replicate (4 - 1) 0).take 4)) 10944121435919637611123202872628637544274182200208017171849102093287904247808 ys := h
    rw [take_app hl'] at h
    have hy' : ys.length = 4 := hy
    have := fin_of (A := AA) (κ := kPow) (env := env) (e := ys) (os := vr 4 4) hl (by
      rw [vals_new hl'.symm hy'.symm]; exact h)
    exact this
theorem lChar : ∀ κ ∈ [kPow, kZeW, kSame], KOk Tryd.prog AA κ := by
  intro κ h
  simp only [List.mem_cons, List.not_mem_nil, or_false] at h
  rcases h with rfl | rfl | rfl
  · exact pow_ok
  · exact zeW_ok
  · exact same_ok
def charT : Tree := .hav 84 (vr 0 4) 4 (.hav 64 (vr 4 4) 1 (.br 8 (.fin (enc [.lit 0]) st0) (.hav 1 (vr 4 4 ++ .lit 1 :: List.replicate (4 - 1) (.lit 0)) 1 (.br 9 (.fin (enc [.lit 1]) st0) (.fin (enc [.lit (-1)]) st0)))))
theorem char_ok : KOk Tryd.prog AA kChar := k_of' (L := [kPow, kZeW, kSame]) lChar (by kernel_rfl) (T := charT) (by kernel_rfl) fun env hl hp => by
  obtain ⟨hw, hb⟩ := hp
  have hl' : env.length = 4 := hl
  have h1 : (vr 0 4).map (·.val env) = env := one_vr hl'
  refine ⟨by rw [h1]; exact ⟨hi (by decide), hw, hb⟩, fun c lc h => ?_⟩
  rw [h1] at h
  obtain ⟨_, wc, vc, bc⟩ := (h : PowR (vw env) 10944121435919637611123202872628637544274182200208017171849102093287904247808 c)
  have h2 : (vr 4 4).map (·.val (env ++ c)) = c := vals_new hl'.symm lc.symm
  have l2 : (env ++ c).length = 8 := by simp [hl', lc]
  refine ⟨by rw [h2]; exact ⟨hi (by decide), wc⟩, fun t lt h => ?_⟩
  rw [h2] at h
  have h : t = [b01 (decide (vw c = 0))] := h
  subst h
  have fin : ∀ (e : List Int) (o : SI), o.val (env ++ e) = chi (vw env) → (AA.to kChar).fin (enc [o]) st0 (env ++ e) := fun e o ho => fin_of hl (congrArg (fun x => [x]) ho)
  have g2 : (env ++ c ++ [b01 (decide (vw c = 0))]).getD 8 0 = b01 (decide (vw c = 0)) := at_end l2.symm
  refine ⟨fun h => ?_, fun h => ?_⟩
  · rw [g2] at h
    have h0 := of_decide_eq_true ((b01_one _).1 h)
    rw [List.append_assoc]
    refine fin _ (.lit 0) ?_
    show 0 = chi _
    unfold chi
    rw [← vc, if_pos h0]
  · rw [g2] at h
    have h0 := of_decide_eq_false ((b01_zero _).1 h)
    have hv : (vr 4 4 ++ SI.lit 1 :: List.replicate (4 - 1) (SI.lit 0)).map (·.val (env ++ c ++ [b01 (decide (vw c = 0))])) = c ++ 1 :: List.replicate (4 - 1) 0 := by
      rw [List.map_append, vals_more (vr_bd (by omega)), h2, List.map_cons, List.map_replicate]; rfl
    refine ⟨by rw [hv]; exact ⟨fun _ => wc.append (wds_cons ⟨by decide, by decide⟩ (wds_zeros _)), trivial⟩, fun t lt ht => ?_⟩
    rw [hv] at ht
    have ht : t = [b01 (decide ((c ++ 1 :: List.replicate (4 - 1) 0).take 4 = (c ++ 1 :: List.replicate (4 - 1) 0).drop 4))] := ht
    rw [take_app lc, drop_app lc] at ht
    subst ht
    have g3 : (env ++ c ++ [b01 (decide (vw c = 0))] ++ [b01 (decide (c = 1 :: List.replicate (4 - 1) 0))]).getD 9 0 = b01 (decide (c = 1 :: List.replicate (4 - 1) 0)) := at_end (by simp [hl', lc])
    have one1 : c = 1 :: List.replicate (4 - 1) 0 ↔ vw c = 1 := by
      constructor
      · intro e; rw [e]; decide
      · intro e; exact vw_inj (by rw [lc]; rfl) wc (wds_cons ⟨by decide, by decide⟩ (wds_zeros _)) (by rw [e]; decide)
    refine ⟨fun h => ?_, fun h => ?_⟩
    · rw [g3] at h
      have h1 := one1.1 (of_decide_eq_true ((b01_one _).1 h))
      rw [List.append_assoc, List.append_assoc]
      refine fin _ (.lit 1) ?_
      show 1 = chi _
      unfold chi
      rw [← vc, if_neg h0, if_pos h1]
    · rw [g3] at h
      have h1 := fun e => of_decide_eq_false ((b01_zero _).1 h) (one1.2 e)
      rw [List.append_assoc, List.append_assoc]
      refine fin _ (.lit (-1)) ?_
      show -1 = chi _
      unfold chi
      rw [← vc, if_neg h0, if_neg h1]
end Go.Proofs.YtajhellohcibiaaDoor
