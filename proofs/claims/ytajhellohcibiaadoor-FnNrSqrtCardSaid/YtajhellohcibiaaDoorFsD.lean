/-
  The functions of the reference that the law on roots calls: sums, doublings, products, tests; by contracts. No conditions.
-/
import Derived.Test.YtajhellohcibiaaDoorFsC
namespace Go.Proofs.YtajhellohcibiaaDoor
open Go Eng Go.RowKit
set_option maxRecDepth 100000
theorem same_ok : KOk Tryd.prog AA kSame := k_of (L := []) (by simp) (by kernel_rfl) (by kernel_rfl) (T := sameT (vr 0 4) (vr 4 4) 8) (by kernel_rfl) fun env hl _ _ => sameF_ok (n := 4) hl fun e o ho => fin_of hl (congrArg (fun x => [x]) ho)
theorem lessen_ok : KOk Tryd.prog AA kLessen := k_of (L := []) (by simp) (by kernel_rfl) (by kernel_rfl) (T := lessenT 4 4 0 0 8 []) (by kernel_rfl) fun env hl hw _ => lessenF_ok (n := 4) hl hw fun e os h => fin_of hl h
theorem l3 : ∀ κ ∈ [kLess, kPlus, kLessen], KOk Tryd.prog AA κ := by
  intro κ h
  simp only [List.mem_cons, List.not_mem_nil, or_false] at h
  rcases h with rfl | rfl | rfl
  · exact less_ok
  · exact plus_ok
  · exact lessen_ok
theorem addW_ok : KOk Tryd.prog AA kAddW := k_of (L := [kLess, kPlus, kLessen]) l3 (by kernel_rfl) (by kernel_rfl) (T := addWT 4) (by kernel_rfl) fun env hl hw _ => addWT_ok (wask (A := AA.to kAddW) rfl rfl) hl hw fun e os h => fin_of hl h
theorem lAddW : ∀ κ ∈ [kAddW], KOk Tryd.prog AA κ := by
  intro κ h
  simp only [List.mem_cons, List.not_mem_nil, or_false] at h
  rcases h with rfl
  · exact addW_ok
theorem gask {A : Eng.Ask} (h1 : A.pre = AA.pre) (h2 : A.post = AA.post) : GAsk A 4 := ⟨fun _ w => by rw [h1]; exact ⟨fun _ => w, trivial⟩, fun _ _ h => by rw [h2] at h; exact h⟩

theorem zeW_ok : KOk Tryd.prog AA kZeW := k_of' (L := []) (by simp) (by kernel_rfl) (T := zwT (vr 0 4) 4) (by kernel_rfl) fun env hl hp => by
  have hl' : env.length = 4 := hl
  have hv : (vr 0 4).map (·.val env) = env := one_vr hl'
  refine zwT_ok (A := AA.to kZeW) _ _ env hl'.symm (vr_bd (by decide)) (by rw [hv]; exact hp) fun e o ho => fin_of hl ?_
  rw [hv] at ho
  exact congrArg (fun x => [x]) ho
/-! ### doubled so often -/
def sS (r : Nat) : SW := .cc (.ss r 0 4 4)
noncomputable def pShf : PC := { nt := Tryd.f11.ntmps, sl := [0, 1, 5], args := [sS 0, sS 1, .cc (.ii .i64 (.lit 0))], mem := r2, m := 8, ex := [{ e := .exit 0, out := [0], id := 74, mout := 4, ret := [sS 2], mem1 := r2 ++ [(us 8 4, true)] }] }
noncomputable def hShf : Nat → HS
  | 0 => pShf.h0
  | i + 1 => { mout := 4, ret := [sS 2, sS 1, .cc (.ii .i64 (.lit ((i + 1 : Nat) : Int)))], mem1 := r2 ++ [(us 8 4, true)] }
def curShf : Nat → List SI
  | 0 => vr 0 4
  | _ + 1 => vr 8 4
def neShf : Nat → Nat
  | 0 => 8
  | _ + 1 => 12
def exShf (i : Nat) : Tree := bif Nat.beq i 256 then .fin (enc (curShf i)) { st0 with fn := 1 } else shT 4 (curShf i) (vr 4 4) (neShf i)
noncomputable def rdShf (i : Nat) : Tree := xcode (CC [kAddW]) 60 11 0 (bodyOf Tryd.prog 11 0) (headSt pShf (hShf i)) (kend pShf (hShf (i + 1)))
theorem rdShf_eq0 : (List.range 65).all (fun j => Tree.beq (rdShf (0 + j)) (exShf (0 + j))) = true := by kernel_rfl
theorem rdShf_eq1 : (List.range 65).all (fun j => Tree.beq (rdShf (65 + j)) (exShf (65 + j))) = true := by kernel_rfl
theorem rdShf_eq2 : (List.range 65).all (fun j => Tree.beq (rdShf (130 + j)) (exShf (130 + j))) = true := by kernel_rfl
theorem rdShf_eq3 : (List.range 62).all (fun j => Tree.beq (rdShf (195 + j)) (exShf (195 + j))) = true := by kernel_rfl
theorem rdShf_use {k m i : Nat} (h : (List.range m).all (fun j => Tree.beq (rdShf (k + j)) (exShf (k + j))) = true) (hi : k ≤ i ∧ i < k + m) : rdShf i = exShf i := by
  have := all_trees (f := fun j => rdShf (k + j)) (g := fun j => exShf (k + j)) h (show i - k < m by omega)
  have e : k + (i - k) = i := by omega
  simp only [e] at this
  exact this
theorem rdShf_eq {i : Nat} (hi : i < 257) : rdShf i = exShf i := by
  rcases (show (0 ≤ i ∧ i < 0 + 65) ∨ (65 ≤ i ∧ i < 65 + 65) ∨ (130 ≤ i ∧ i < 130 + 65) ∨ (195 ≤ i ∧ i < 195 + 62) by omega) with h | h | h | h
  · exact rdShf_use rdShf_eq0 h
  · exact rdShf_use rdShf_eq1 h
  · exact rdShf_use rdShf_eq2 h
  · exact rdShf_use rdShf_eq3 h
def ShfI (a m : List Int) (i : Nat) (c : List Int) : Prop := c.length = 4 ∧ Wds c ∧ vw c = vw a * 2 ^ i % vw m ∧ vw c < vw m
def invShf (i : Nat) (env ys : List Int) : Prop := i ≤ 256 ∧ Wds env ∧ ShfI (env.take 4) (env.drop 4) i (match i with | 0 => env.take 4 | _ + 1 => ys)
theorem shf_round (i : Nat) (env ys : List Int) (hl : env.length = 8) (hy : ys.length = (hShf i).mout) (hi : invShf i env ys) : (rdShf i).holds (AA.rnd pShf i (hShf i) invShf (fun i _ _ => 257 - i)) (env ++ ys) := by
  obtain ⟨hi, hw, hr⟩ := hi
  rw [rdShf_eq (show i < 257 by omega)]
  have hc : ∃ c, (curShf i).map (·.val (env ++ ys)) = c ∧ ShfI (env.take 4) (env.drop 4) i c ∧ neShf i = (env ++ ys).length := by
    match i, hy, hr with
    | 0, hy, hr =>
      have hy : ys.length = 0 := hy
      exact ⟨_, by rw [show curShf 0 = vr 0 4 from rfl, vals_more (vr_bd (by omega)), vr_vals (by omega), List.drop_zero], hr, by simp [neShf, hl, hy]⟩
    | i + 1, hy, hr =>
      have hy : ys.length = 4 := hy
      exact ⟨ys, by
        have := vals_new hl.symm hy.symm
        exact this, hr, by simp [neShf, hl, hy]⟩
  obtain ⟨c, kc, hr, hne⟩ := hc
  have htake : ∀ e, (env ++ ys ++ e).take pShf.m = env := fun e => by rw [List.append_assoc]; exact List.take_left' hl
  unfold exShf
  cases hb : Nat.beq i 256
  · rw [cond_false]
    have hne64 : i ≠ 256 := fun e => by subst e; simp at hb
    have hm : (vr 4 4).map (·.val (env ++ ys)) = env.drop 4 := by
      rw [vals_more (vr_bd (by omega)), vr_vals (by omega), List.take_of_length_le (by simp; omega)]
    obtain ⟨lc, wc, vc, bc⟩ := hr
    refine shT_ok (gask (A := AA.rnd pShf i (hShf i) invShf (fun i _ _ => 257 - i)) rfl rfl) hne kc hm lc wc (hw.drop _) bc fun e os ⟨l1, w1, v1, b1⟩ => ?_
    have hinv : invShf (i + 1) env (os.map (·.val (env ++ ys ++ e))) := by
      refine ⟨by omega, hw, l1, w1, ?_, b1⟩
      rw [v1, vc]
      exact dbl_mod i
    show invShf (i + 1) ((env ++ ys ++ e).take pShf.m) ((dec (enc os)).map (·.val (env ++ ys ++ e))) ∧ _
    rw [dec_enc, htake]
    exact ⟨hinv, by show 257 - (i + 1) < 257 - i; omega⟩
  · rw [cond_true]
    have hi64 := Nat.eq_of_beq_eq_true hb
    have := htake []
    rw [List.append_nil] at this
    show ShfP 4 (((env ++ ys).take pShf.m).take 4) (((env ++ ys).take pShf.m).drop 4) ((dec (enc (curShf i))).map (·.val (env ++ ys)))
    rw [dec_enc, this, kc]
    rw [hi64] at hr
    exact ⟨hr.1, hr.2.1, hr.2.2.1⟩
theorem shfLoop_ok : ∀ c, InF Tryd.prog 11 (2 * 0, c) → PcKOk Tryd.prog AA pShf c :=
  loop_piece (C := CC [kAddW]) mixed ext0 (conOf_ok lAddW) (fun _ _ _ _ _ _ h => by cases h) 60 (by kernel_rfl) (by kernel_rfl) hShf invShf (fun i _ _ => 257 - i) rfl
    (fun env hl _ hp => by
      obtain ⟨_, hw, hb⟩ := (hp _ (List.mem_cons_self ..) : (74 < 46 → Wds env) ∧ Wds env ∧ _)
      have hl : env.length = 8 := hl
      have p := (vw_bounds (hw.take 4)).1
      exact ⟨by omega, hw, by simp; omega, hw.take _, by rw [Int.pow_zero, Int.mul_one, Int.emod_eq_of_lt p hb], hb⟩) fun i env ys hl hy _ hi => shf_round i env ys hl hy hi
theorem shf_ok : KOk Tryd.prog AA kShf :=
  kok_of (C := CP [] [((11, 0), pShf)]) mixed ext0 (conOf_ok (by simp)) (pcOf_ok (by
    intro q hq
    simp only [List.mem_cons, List.not_mem_nil, or_false] at hq
    subst hq
    exact ⟨by decide, shfLoop_ok⟩)) 60 (by kernel_rfl) fun env hl hr hp => by
    have ht : xcall (CP [] [((11, 0), pShf)]) (fun f => xcode (CP [] [((11, 0), pShf)]) 60 f 0) kShf.f kShf.args kShf.st kShf.end = .hav 74 (vr 0 8) 4 (.fin (enc (vr 8 4)) st0) := by kernel_rfl
    rw [ht]
    have hv : (vr 0 8).map (·.val env) = env := one_vr hl
    refine ⟨by rw [hv]; exact ⟨hi (by decide), hp.2⟩, fun ys hy h => ?_⟩
    rw [hv] at h
    have hy' : ys.length = 4 := hy
    have hl' : env.length = 8 := hl
    have := fin_of (A := AA) (κ := kShf) (env := env) (e := ys) (os := vr 8 4) hl (by
      have hv := vals_new hl'.symm hy'.symm
      rw [hv]; exact h)
    exact this

/-! ### the product by digits -/
def r4 : List (List SC × Bool) := [(us 0 4, false), (us 4 4, false), (us 8 4, false), (us 12 4, false)]
noncomputable def pPrd : PC := { nt := Tryd.f10.ntmps, sl := [0, 1, 2, 7, 8], args := [sS 0, sS 1, sS 2, sS 3, .cc (.ii .i64 (.lit 255))], mem := r4, m := 16, ex := [{ e := .exit 0, out := [7], id := 75, mout := 4, ret := [sS 4], mem1 := r4 ++ [(us 16 4, true)] }] }
noncomputable def hPrd : Nat → HS
  | 0 => pPrd.h0
  | i + 1 => { mout := 4, ret := [sS 0, sS 1, sS 2, sS 4, .cc (.ii .i64 (.lit ((255 : Int) - ((i + 1 : Nat) : Int))))], mem1 := r4 ++ [(us 16 4, true)] }
def curPrd : Nat → List SI
  | 0 => vr 12 4
  | _ + 1 => vr 16 4
def nePrd : Nat → Nat
  | 0 => 16
  | _ + 1 => 20
def exPrd (j : Nat) : Tree := bif Nat.beq j 256 then .fin (enc (curPrd j)) { st0 with fn := 1 } else mwT 4 (curPrd j) (vr 0 4) (vr 8 4) (.var (4 + (255 - j) / 64)) ((255 - j) % 64) (nePrd j)
noncomputable def rdPrd (i : Nat) : Tree := xcode (CC [kAddW]) 60 10 0 (bodyOf Tryd.prog 10 0) (headSt pPrd (hPrd i)) (kend pPrd (hPrd (i + 1)))
theorem rdPrd_eq0 : (List.range 65).all (fun j => Tree.beq (rdPrd (0 + j)) (exPrd (0 + j))) = true := by kernel_rfl
theorem rdPrd_eq1 : (List.range 65).all (fun j => Tree.beq (rdPrd (65 + j)) (exPrd (65 + j))) = true := by kernel_rfl
theorem rdPrd_eq2 : (List.range 65).all (fun j => Tree.beq (rdPrd (130 + j)) (exPrd (130 + j))) = true := by kernel_rfl
theorem rdPrd_eq3 : (List.range 62).all (fun j => Tree.beq (rdPrd (195 + j)) (exPrd (195 + j))) = true := by kernel_rfl
theorem rdPrd_use {k m i : Nat} (h : (List.range m).all (fun j => Tree.beq (rdPrd (k + j)) (exPrd (k + j))) = true) (hi : k ≤ i ∧ i < k + m) : rdPrd i = exPrd i := by
  have := all_trees (f := fun j => rdPrd (k + j)) (g := fun j => exPrd (k + j)) h (show i - k < m by omega)
  have e : k + (i - k) = i := by omega
  simp only [e] at this
  exact this
theorem rdPrd_eq {i : Nat} (hi : i < 257) : rdPrd i = exPrd i := by
  rcases (show (0 ≤ i ∧ i < 0 + 65) ∨ (65 ≤ i ∧ i < 65 + 65) ∨ (130 ≤ i ∧ i < 130 + 65) ∨ (195 ≤ i ∧ i < 195 + 62) by omega) with h | h | h | h
  · exact rdPrd_use rdPrd_eq0 h
  · exact rdPrd_use rdPrd_eq1 h
  · exact rdPrd_use rdPrd_eq2 h
  · exact rdPrd_use rdPrd_eq3 h
def PrdI (a b m : List Int) (i : Nat) (c : List Int) : Prop := c.length = 4 ∧ Wds c ∧ vw c = vw a * (vw b / 2 ^ (256 - i)) % vw m ∧ vw c < vw m
def invPrd (i : Nat) (env ys : List Int) : Prop := i ≤ 256 ∧ Wds env ∧ vw (env.take 4) < vw ((env.drop 8).take 4) ∧ PrdI (env.take 4) ((env.drop 4).take 4) ((env.drop 8).take 4) i (match i with | 0 => env.drop 12 | _ + 1 => ys)
theorem prd_step {a b m c c' : Int} {i : Nat} (hi : i < 256) (hc : c = a * (b / 2 ^ (256 - i)) % m) (hc' : c' = (2 * c + (b / 2 ^ (256 - (i + 1)) % 2) * a) % m) : c' = a * (b / 2 ^ (256 - (i + 1))) % m := by
  have hd := digit_step (B := b) hi
  generalize b / 2 ^ (256 - (i + 1)) % 2 = d at *
  generalize b / 2 ^ (256 - (i + 1)) = B1 at *
  generalize b / 2 ^ (256 - i) = B0 at *
  subst hc' hc hd
  rw [Int.add_emod, Int.mul_emod, Int.emod_emod, ← Int.mul_emod, ← Int.add_emod]
  congr 1
  grind
theorem prd_round (i : Nat) (env ys : List Int) (hl : env.length = 16) (hy : ys.length = (hPrd i).mout) (hi : invPrd i env ys) : (rdPrd i).holds (AA.rnd pPrd i (hPrd i) invPrd (fun i _ _ => 257 - i)) (env ++ ys) := by
  obtain ⟨hi, hw, hab, hr⟩ := hi
  rw [rdPrd_eq (show i < 257 by omega)]
  have hc : ∃ c, (curPrd i).map (·.val (env ++ ys)) = c ∧ PrdI (env.take 4) ((env.drop 4).take 4) ((env.drop 8).take 4) i c ∧ nePrd i = (env ++ ys).length ∧ 16 ≤ nePrd i := by
    match i, hy, hr with
    | 0, hy, hr =>
      have hy : ys.length = 0 := hy
      exact ⟨_, by rw [show curPrd 0 = vr 12 4 from rfl, vals_more (vr_bd (by omega)), vr_vals (by omega), List.take_of_length_le (by simp; omega)], hr, by simp [nePrd, hl, hy], by simp [nePrd]⟩
    | i + 1, hy, hr =>
      have hy : ys.length = 4 := hy
      exact ⟨ys, by
        have := vals_new hl.symm hy.symm
        exact this, hr, by simp [nePrd, hl, hy], by simp [nePrd]⟩
  obtain ⟨c, kc, hr, hne, hle⟩ := hc
  have htake : ∀ e, (env ++ ys ++ e).take pPrd.m = env := fun e => by rw [List.append_assoc]; exact List.take_left' hl
  unfold exPrd
  cases hb : Nat.beq i 256
  · rw [cond_false]
    have hne64 : i ≠ 256 := fun e => by subst e; simp at hb
    have ha : (vr 0 4).map (·.val (env ++ ys)) = env.take 4 := by
      rw [vals_more (vr_bd (by omega)), vr_vals (by omega), List.drop_zero]
    have hm : (vr 8 4).map (·.val (env ++ ys)) = (env.drop 8).take 4 := by
      rw [vals_more (vr_bd (by omega)), vr_vals (by omega)]
    obtain ⟨lc, wc, vc, bc⟩ := hr
    have lb : ((env.drop 4).take 4).length = 4 := by simp; omega
    have hbw : (SI.var (4 + (255 - i) / 64)).val (env ++ ys) = ((env.drop 4).take 4).getD ((255 - i) / 64) 0 := by
      show (env ++ ys).getD _ 0 = _
      rw [at_old (by omega), List.getD_eq_getElem?_getD, List.getD_eq_getElem?_getD, List.getElem?_take, if_pos (by omega), List.getElem?_drop]
    have wb : Wds ((env.drop 4).take 4) := (hw.drop _).take _
    have hd := digit wb (w := (255 - i) / 64) (s := (255 - i) % 64) (by omega) (by omega)
    have hbd : Bd (nePrd i) (SI.var (4 + (255 - i) / 64)) := by
      show 4 + (255 - i) / 64 < nePrd i
      omega
    refine mwT_ok (gask (A := AA.rnd pPrd i (hPrd i) invPrd (fun i _ _ => 257 - i)) rfl rfl) hne (vr_bd (by omega)) (vr_bd (by omega)) hbd kc ha hm lc (by simp; omega) wc (hw.take _) ((hw.drop _).take _) (by rw [hbw]; exact wb.get _) bc hab (by omega) fun e os ⟨l1, w1, v1, b1⟩ => ?_
    have hinv : invPrd (i + 1) env (os.map (·.val (env ++ ys ++ e))) := by
      refine ⟨by omega, hw, hab, l1, w1, ?_, b1⟩
      rw [hbw, ← hd, show 64 * ((255 - i) / 64) + (255 - i) % 64 = 256 - (i + 1) by omega] at v1
      exact prd_step (by omega) vc v1
    show invPrd (i + 1) ((env ++ ys ++ e).take pPrd.m) ((dec (enc os)).map (·.val (env ++ ys ++ e))) ∧ _
    rw [dec_enc, htake]
    exact ⟨hinv, by show 257 - (i + 1) < 257 - i; omega⟩
  · rw [cond_true]
    have hi64 := Nat.eq_of_beq_eq_true hb
    have := htake []
    rw [List.append_nil] at this
    show PrdP 4 (((env ++ ys).take pPrd.m).take 4) ((((env ++ ys).take pPrd.m).drop 4).take 4) ((((env ++ ys).take pPrd.m).drop 8).take 4) ((dec (enc (curPrd i))).map (·.val (env ++ ys)))
    rw [dec_enc, this, kc]
    rw [hi64] at hr
    refine ⟨hr.1, hr.2.1, ?_⟩
    have := hr.2.2.1
    rw [Nat.sub_self, Int.pow_zero, Int.ediv_one] at this
    exact this
theorem prdLoop_ok : ∀ c, InF Tryd.prog 10 (2 * 0, c) → PcKOk Tryd.prog AA pPrd c :=
  loop_piece (C := CC [kAddW]) mixed ext0 (conOf_ok lAddW) (fun _ _ _ _ _ _ h => by cases h) 60 (by kernel_rfl) (by kernel_rfl) hPrd invPrd (fun i _ _ => 257 - i) rfl
    (fun env hl _ hp => by
      obtain ⟨_, hw, hb, hz⟩ := (hp _ (List.mem_cons_self ..) : (75 < 46 → Wds env) ∧ Wds env ∧ _ ∧ _)
      have hl : env.length = 16 := hl
      have p := (vw_bounds (hw.take 4)).1
      have lb : ((env.drop 4).take 4).length = 4 := by simp; omega
      have q := vw_bounds ((hw.drop 4).take 4)
      rw [lb] at q
      refine ⟨by omega, hw, hb, by simp; omega, hw.drop _, ?_, by show vw (env.drop 12) < _; omega⟩
      show vw (env.drop 12) = _
      rw [hz, Int.ediv_eq_zero_of_lt q.1 (by simpa [BW] using q.2), Int.mul_zero, Int.zero_emod]) fun i env ys hl hy _ hi => prd_round i env ys hl hy hi
theorem prd_ok : KOk Tryd.prog AA kPrd :=
  kok_of (C := CP [] [((10, 0), pPrd)]) mixed ext0 (conOf_ok (by simp)) (pcOf_ok (by
    intro q hq
    simp only [List.mem_cons, List.not_mem_nil, or_false] at hq
    subst hq
    exact ⟨by decide, prdLoop_ok⟩)) 60 (by kernel_rfl) fun env hl hr hp => by
    have ht : xcall (CP [] [((10, 0), pPrd)]) (fun f => xcode (CP [] [((10, 0), pPrd)]) 60 f 0) kPrd.f kPrd.args kPrd.st kPrd.end = .hav 75 (vr 0 12 ++ List.replicate 4 (.lit 0)) 4 (.fin (enc (vr 12 4)) st0) := by kernel_rfl
    rw [ht]
    have hl' : env.length = 12 := hl
    have hv : (vr 0 12 ++ List.replicate 4 (SI.lit 0)).map (·.val env) = env ++ List.replicate 4 0 := by rw [List.map_append, one_vr hl', List.map_replicate]; rfl
    have t3 : ∀ k, k ≤ 12 → (env ++ List.replicate 4 (0 : Int)).take k = env.take k := fun k hk => List.take_append_of_le_length (by omega)
    have d1 : ∀ k, k + 4 ≤ 12 → ((env ++ List.replicate 4 (0 : Int)).drop k).take 4 = (env.drop k).take 4 := fun k hk => by
      rw [List.drop_append_of_le_length (by omega), List.take_append_of_le_length (by simp; omega)]
    have e2 : (env.drop 8).take 4 = env.drop 8 := List.take_of_length_le (by simp; omega)
    obtain ⟨hw, hb⟩ := hp.2
    refine ⟨by
      rw [hv]
      refine ⟨hi (by decide), hw.append (fun x hx => by rw [List.eq_of_mem_replicate hx]; exact ⟨by decide, by decide⟩), ?_, ?_⟩
      · rw [t3 _ (by decide), d1 _ (by decide), e2]; exact hb
      · rw [List.drop_left' hl']; decide, fun ys hy h => ?_⟩
    rw [hv] at h
    have h : PrdP 4 ((env ++ List.replicate 4 (0 : Int)).take 4) (((env ++ List.replicate 4 (0 : Int)).drop 4).take 4) (((env ++ List.replicate 4 (0 : Int)).drop 8).take 4) ys := h
    rw [t3 _ (by decide), d1 _ (by decide), d1 _ (by decide), e2] at h
    have hy' : ys.length = 4 := hy
    have := fin_of (A := AA) (κ := kPrd) (env := env) (e := ys) (os := vr 12 4) hl (by
      have hv := vals_new hl'.symm hy'.symm
      rw [hv]; exact h)
    exact this
end Go.Proofs.YtajhellohcibiaaDoor
