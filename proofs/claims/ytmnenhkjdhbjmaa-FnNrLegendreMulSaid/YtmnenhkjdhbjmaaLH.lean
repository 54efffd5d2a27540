/-
  The symbol's outer round as a tree of facts, for any number of words. No conditions.
-/
import Derived.Test.YtmnenhkjdhbjmaaLF
namespace Eng
open Go Jac
section
variable {n : Nat}
def sgQ (n : Nat) (rs : List SI) (ne : Nat) (kn kp : List SI → Nat → Tree) : Tree :=
  .dfn (.bin .and .u64) [rs.getLastD (.lit 0), .lit 9223372036854775808] (.dfn (.cmp .neq) [.var ne, .lit 0] (.br (ne + 1) (.hav 50 rs (n + 1) (kn (vr (ne + 2) (n + 1)) (ne + 2 + (n + 1)))) (kp rs (ne + 2))))
structure WOk (m : Nat) (x : Int) (env e : List Int) (os : List SI) (ne' : Nat) : Prop where
  ne : ne' = (env ++ e).length
  ob : ∀ z ∈ os, Bd ne' z
  len : os.length = m
  wd : Wds (os.map (·.val (env ++ e)))
  val : vw (os.map (·.val (env ++ e))) = x
theorem sgQ_ok {A : Ask} (hA : IAsk A n) {L : Nat} (hL : L ≤ 32) {rs : List SI} {ne : Nat} {kn kp : List SI → Nat → Tree} {env R : List Int} {V W : Int} (lr : rs.length = n + 1) (hne : ne = env.length) (hr : ∀ x ∈ rs, Bd ne x)
    (vr' : rs.map (·.val env) = R) (wR : Wds R) (hV : ∃ c, vw R = V + BW ^ (n + 1) * c) (hW : V = 2 ^ L * W) (hb : ab' W < BW ^ n)
    (hkn : W < 0 → ∀ (e : List Int) (os : List SI) (ne' : Nat), WOk (n + 1) (2 ^ L * ab' W) env e os ne' → (kn os ne').holds A (env ++ e))
    (hkp : 0 ≤ W → ∀ (e : List Int) (os : List SI) (ne' : Nat), WOk (n + 1) (2 ^ L * ab' W) env e os ne' → (kp os ne').holds A (env ++ e)) : (sgQ n rs ne kn kp).holds A env := by
  have lR : R.length = n + 1 := by rw [← vr', List.length_map, lr]
  have hRne : R ≠ [] := fun h => by rw [h] at lR; simp at lR
  have hB := bw_pos n
  have hp : (0 : Int) < 2 ^ L := Int.pow_pos (by decide)
  have hpL : (2 : Int) ^ L ≤ 4294967296 := by
    have : 2 ^ L ≤ 2 ^ 32 := Nat.pow_le_pow_right (by decide) hL
    have : ((2 ^ L : Nat) : Int) ≤ ((2 ^ 32 : Nat) : Int) := by exact_mod_cast this
    simpa using this
  have habV : ab' V = 2 ^ L * ab' W := by rw [hW, ab_mul hp]
  have hW0 : 0 ≤ ab' W := by unfold ab'; split <;> omega
  have hVb : ab' V < 4294967296 * BW ^ n := by
    rw [habV]
    have h1 : 2 ^ L * ab' W < 2 ^ L * BW ^ n := Int.mul_lt_mul_of_pos_left hb hp
    have h2 : 2 ^ L * BW ^ n ≤ 4294967296 * BW ^ n := Int.mul_le_mul_of_nonneg_right hpL (by omega)
    omega
  have hpow : BW ^ (n + 1) = 18446744073709551616 * BW ^ n := by rw [Int.pow_succ, Int.mul_comm]; rfl
  have hcase : (0 ≤ V ∧ vw R = V) ∨ (V < 0 ∧ vw R = BW ^ (n + 1) + V) := by
    obtain ⟨c, hc⟩ := hV
    have hbd := vw_bounds wR
    rw [lR] at hbd
    have hVa : -(4294967296 * BW ^ n) < V ∧ V < 4294967296 * BW ^ n := by unfold ab' at hVb; split at hVb <;> omega
    have hc' : c = 0 ∨ c = 1 := by
      rcases (show c ≤ -1 ∨ c = 0 ∨ c = 1 ∨ 2 ≤ c by omega) with h | h | h | h
      · have := Int.mul_le_mul_of_nonneg_left h (show 0 ≤ BW ^ (n + 1) by omega)
        omega
      · exact .inl h
      · exact .inr h
      · have := Int.mul_le_mul_of_nonneg_left h (show 0 ≤ BW ^ (n + 1) by omega)
        omega
    rcases hc' with rfl | rfl
    · rw [Int.mul_zero, Int.add_zero] at hc
      exact .inl ⟨by omega, hc⟩
    · rw [Int.mul_one] at hc
      exact .inr ⟨by omega, by omega⟩
  have hlw := wd_last wR
  have low := vw_bounds (wds_dropLast wR)
  have hv := vw_last hRne
  rw [lR, Nat.add_sub_cancel] at hv
  have hdl : R.dropLast.length = n := by simp [lR]
  rw [hdl] at low
  have hsign : (0 ≤ V ∧ R.getLastD 0 < 9223372036854775808) ∨ (V < 0 ∧ 9223372036854775808 ≤ R.getLastD 0) := by
    rcases hcase with ⟨h1, h2⟩ | ⟨h1, h2⟩
    · refine .inl ⟨h1, ?_⟩
      have h3 : BW ^ n * R.getLastD 0 < BW ^ n * 9223372036854775808 := by
        unfold ab' at hVb
        rw [if_neg (by omega)] at hVb
        omega
      exact Int.lt_of_mul_lt_mul_left h3 (by omega)
    · refine .inr ⟨h1, ?_⟩
      have h3 : BW ^ n * 9223372036854775807 < BW ^ n * R.getLastD 0 := by
        unfold ab' at hVb
        rw [if_pos h1] at hVb
        omega
      have := Int.lt_of_mul_lt_mul_left h3 (by omega)
      omega
  have hWV : V < 0 ↔ W < 0 := by
    rw [hW]
    constructor
    · intro h
      rcases Int.lt_or_le W 0 with h0 | h0
      · exact h0
      · have := Int.mul_nonneg (show (0 : Int) ≤ 2 ^ L by omega) h0
        omega
    · exact fun h => Int.mul_neg_of_pos_of_neg hp h
  have vlast : (rs.getLastD (.lit 0)).val env = R.getLastD 0 := by rw [last_val, vr']
  unfold sgQ
  refine hold_dfn0 (v := if 9223372036854775808 ≤ R.getLastD 0 then 9223372036854775808 else 0) ?_ ?_
  · show binEv .and .u64 ((rs.getLastD (.lit 0)).val env) 9223372036854775808 = _
    rw [vlast, top_bit hlw]
  refine hold_dfn (v := b01 (decide (9223372036854775808 ≤ R.getLastD 0))) ?_ ?_
  · show b01 (cmpEv .neq ((SI.var ne).val _) 0) = _
    rw [var_at0 hne]
    show b01 (cmpEv .neq (if 9223372036854775808 ≤ R.getLastD 0 then 9223372036854775808 else 0) 0) = _
    split <;> rename_i h
    · rw [decide_eq_true h]; rfl
    · rw [decide_eq_false h]; rfl
  generalize hl : ([if 9223372036854775808 ≤ R.getLastD 0 then 9223372036854775808 else 0] ++ [b01 (decide (9223372036854775808 ≤ R.getLastD 0))] : List Int) = l
  have ll : l.length = 2 := by rw [← hl]; rfl
  have tE : (env ++ l).getD (ne + 1) 0 = b01 (decide (9223372036854775808 ≤ R.getLastD 0)) := by rw [getD_at hne, ← hl]; rfl
  have mr : ∀ e : List Int, rs.map (·.val (env ++ e)) = R := fun e => by rw [vals_more (by rw [← hne]; exact hr), vr']
  refine ⟨fun h1 => ?_, fun h1 => ?_⟩
  · rw [tE] at h1
    have hge : 9223372036854775808 ≤ R.getLastD 0 := of_decide_eq_true ((b01_one _).1 h1)
    have hneg : V < 0 := by omega
    refine ⟨by rw [mr]; exact hA.p50 _ wR, fun ys hy h2 => ?_⟩
    rw [mr] at h2
    obtain ⟨n1, n2, c, n3, n4⟩ := hA.m50 _ _ h2
    have hyv : vw ys = ab' V := by
      have hb2 := vw_bounds n2
      rw [n1] at hb2
      have hbd := vw_bounds wR
      rw [lR] at hbd
      unfold ab' at hVb ⊢
      rw [if_pos hneg] at hVb ⊢
      rcases hcase with ⟨h3, h4⟩ | ⟨h3, h4⟩
      · omega
      · rcases n3 with rfl | rfl
        · rw [Int.mul_zero] at n4; omega
        · rw [Int.mul_one] at n4; omega
    have hnE : ne + 2 = (env ++ l).length := by simp [hne, ll]
    have vys : (vr (ne + 2) (n + 1)).map (·.val (env ++ (l ++ ys))) = ys := by rw [← List.append_assoc]; exact vals_new hnE n1.symm
    have := hkn (hWV.1 hneg) (l ++ ys) (vr (ne + 2) (n + 1)) (ne + 2 + (n + 1)) ⟨by simp [hne, ll, n1]; omega, vr_bd (by omega), vr_length, by rw [vys]; exact n2, by rw [vys, hyv, habV]⟩
    rw [← List.append_assoc] at this
    exact this
  · rw [tE] at h1
    have hlt : ¬ 9223372036854775808 ≤ R.getLastD 0 := of_decide_eq_false ((b01_zero _).1 h1)
    have hnn : 0 ≤ V := by omega
    have hRv : vw R = ab' V := by
      unfold ab'
      rw [if_neg (by omega)]
      rcases hcase with ⟨h3, h4⟩ | ⟨h3, h4⟩
      · exact h4
      · omega
    exact hkp (by omega) l rs (ne + 2) ⟨by simp [hne, ll], fun z hz => (hr z hz).more (by omega), lr, by rw [mr]; exact wR, by rw [mr, hRv, habV]⟩
theorem shQ_ok {A : Ask} {L : Nat} (hL : L ≤ 32) {xs : List SI} {ne : Nat} {k : List SI → Nat → Tree} {env e0 : List Int} {W : Int} (h : WOk (n + 1) (2 ^ L * W) env e0 xs ne) (hb : W < BW ^ n)
    (hk : ∀ (e : List Int) (os : List SI) (ne' : Nat), WOk n W env (e0 ++ e) os ne' → (k os ne').holds A (env ++ (e0 ++ e))) : (shCh L k xs ne []).holds A (env ++ e0) := by
  obtain ⟨h1, h2, h3, h4, h5⟩ := h
  have hx : xs ≠ [] := fun h => by rw [h] at h3; simp at h3
  refine shCh_ok (by omega) _ _ _ _ hx h1 h2 (fun z hz => by cases hz) h4 ?_
  intro e os ne' ⟨q1, q2, d, q3, q4, q5, q6⟩
  rw [List.map_nil, List.nil_append] at q3
  rw [List.length_map, h3] at q5
  have hdn : d.length = n := by omega
  have hd := sh_exact (W := W) (by simpa using hx) h4 (by rw [List.length_map, h3]; omega) q6 h5 (by rw [hdn]; exact hb)
  have assoc : env ++ (e0 ++ e) = env ++ e0 ++ e := by simp
  have := hk e os ne' ⟨by rw [assoc]; exact q1, q2, ?_, ?_, ?_⟩
  · rw [assoc] at this; exact this
  · have := congrArg List.length q3
    simp at this; omega
  · rw [assoc, q3]; exact q4
  · rw [assoc, q3, hd]

structure LAsk (A : Ask) (n : Nat) : Prop where
  o : OAsk A n 31
  p49 : ∀ (x : List Int) (M : Nat), x.length = n → Wds x → M ≤ 64 * n → vw x < 2 ^ M → A.pre 49 (x ++ [(M : Int)])
  m49 : ∀ (x : List Int) (M : Nat) (ys : List Int), x.length = n → A.post 49 (x ++ [(M : Int)]) ys → ApprP 32 x (M : Int) ys
  p65 : ∀ xs, Wds xs → A.pre 65 xs
  m65 : ∀ xs ys, A.post 65 xs ys → ys = [b01 (decide (vw xs = 0))]
  p77 : ∀ (l : List Int) (X Y v : Int), Wd X → Wd Y → Y % 2 = 1 → (v = 1 ∨ v = -1) → A.pre 77 (l ++ [1, 4294967296, X, Y, v])
  m77 : ∀ (l : List Int) (X Y v : Int) (ys : List Int), A.post 77 (l ++ [1, 4294967296, X, Y, v]) ys → ∃ U V f0 g0 f1 g1 v', ys = [pack f0 g0, pack f1 g1, V, v'] ∧ Wd V ∧ GI (2 ^ 30) X Y U V f0 g0 f1 g1 ∧ (v' = 1 ∨ v' = -1) ∧
    ∀ s e a b, Nears s e X Y a b → ∃ A B, LG (2 ^ 30) s e X Y a b v U V f0 g0 f1 g1 A B v'

theorem near_both2 {x y : List Int} {k1 k2 M : Nat} {X Y : Int} (hx2 : vw x ≠ 0 → 2 ^ (k1 - 1) ≤ vw x) (hx1 : vw x < 2 ^ k1) (hx3 : vw x = 0 → k1 = 0) (hy1 : vw y < 2 ^ k2) (hy2 : vw y ≠ 0 → 2 ^ (k2 - 1) ≤ vw y) (hy0 : vw y ≠ 0)
    (hM : M = max k1 k2) (aX : ApprP 32 x (M : Int) [X]) (aY : ApprP 32 y (M : Int) [Y]) : vw x < 2 ^ M ∧ vw y < 2 ^ M ∧
    ∃ s e, Nears s e X Y (vw x) (vw y) ∧ Wd X ∧ Wd Y ∧ Y % 2 = vw y % 2 := by
  have pw : ∀ {a b : Nat}, a ≤ b → (2 : Int) ^ a ≤ 2 ^ b := fun {a b} h => by
    have : 2 ^ a ≤ 2 ^ b := Nat.pow_le_pow_right (by decide) h
    exact_mod_cast this
  have lx : vw x < 2 ^ M := Int.lt_of_lt_of_le hx1 (pw (by omega))
  have ly : vw y < 2 ^ M := Int.lt_of_lt_of_le hy1 (pw (by omega))
  obtain ⟨X', hX', wX, mX, cX⟩ := aX
  obtain ⟨Y', hY', wY, mY, cY⟩ := aY
  simp only [List.cons.injEq, and_true] at hX' hY'
  subst hX'
  subst hY'
  have hpar : Y % 2 = vw y % 2 := by
    have hd : (2 : Int) ∣ 2 ^ 32 := ⟨2 ^ 31, by decide⟩
    rw [← Int.emod_emod_of_dvd Y hd, mY, Int.emod_emod_of_dvd _ hd]
  refine ⟨lx, ly, ?_⟩
  by_cases h64 : M ≤ 64
  · have b64 : (2 : Int) ^ M ≤ 2 ^ 64 := pw h64
    have eX : X = vw x := by
      rcases cX with ⟨_, h⟩ | ⟨h, _⟩
      · exact h (by omega)
      · omega
    have eY : Y = vw y := by
      rcases cY with ⟨_, h⟩ | ⟨h, _⟩
      · exact h (by omega)
      · omega
    exact ⟨1, 0, ⟨by omega, by omega, ⟨by rw [eX, Int.sub_self]; exact Int.zero_emod _, by omega⟩, ⟨by rw [eY, Int.sub_self]; exact Int.zero_emod _, by omega⟩, .inl rfl⟩, wX, wY, hpar⟩
  · obtain ⟨nX, tX⟩ : Near (2 ^ 32) (2 ^ (M - 64)) (2 ^ (M - 32)) (vw x) X ∧ (2 ^ (M - 1) ≤ vw x → 2 ^ 63 ≤ X) := by
      rcases cX with ⟨h, _⟩ | ⟨_, h⟩
      · omega
      · simpa using h
    obtain ⟨nY, tY⟩ : Near (2 ^ 32) (2 ^ (M - 64)) (2 ^ (M - 32)) (vw y) Y ∧ (2 ^ (M - 1) ≤ vw y → 2 ^ 63 ≤ Y) := by
      rcases cY with ⟨h, _⟩ | ⟨_, h⟩
      · omega
      · simpa using h
    have hs : (0 : Int) < 2 ^ (M - 64) := Int.pow_pos (by decide)
    have he : (0 : Int) < 2 ^ (M - 32) := Int.pow_pos (by decide)
    have big : 2 ^ 63 ≤ X + Y := by
      have h1 := wX.1
      have h2 := wY.1
      rcases Nat.le_total k2 k1 with h | h
      · have hk : M = k1 := by omega
        have hx0 : vw x ≠ 0 := fun h0 => by have := hx3 h0; omega
        have := tX (by rw [hk]; exact hx2 hx0)
        omega
      · have hk : M = k2 := by omega
        have := tY (by rw [hk]; exact hy2 hy0)
        omega
    have hes : (2 : Int) ^ (M - 32) = 2 ^ (M - 64) * 2 ^ 32 := by rw [← Int.pow_add]; congr 1; omega
    refine ⟨2 ^ (M - 64), 2 ^ (M - 32), ⟨by omega, by omega, nX, nY, .inr ?_⟩, wX, wY, hpar⟩
    have h1 : 2 ^ (M - 64) * 2 ^ 63 ≤ 2 ^ (M - 64) * (X + Y) := Int.mul_le_mul_of_nonneg_left big (by omega)
    rw [hes]
    generalize (2 : Int) ^ (M - 64) = S at *
    generalize S * (X + Y) = T at *
    omega
theorem near_less {s e x X : Int} (h : Near (2 ^ 32) s e x X) : Near (2 ^ 30) s e x X := ⟨by
  have hd : ((2 : Int) ^ 30) ∣ 2 ^ 32 := ⟨4, by decide⟩
  rw [← Int.emod_emod_of_dvd _ hd, h.lo]; rfl, h.hi⟩

/-- The sum of two products and the test of its sign; what comes behind that. -/
def hfL (n id : Nat) (ls : List SI) (c : SI) (ne : Nat) (kn kp : List SI → Nat → Tree) : Tree :=
  .hav 67 [c] 2 (.hav id (ls ++ [.var ne, .var (ne + 1)]) (n + 1) (sgQ n (vr (ne + 2) (n + 1)) (ne + 2 + (n + 1)) kn kp))
theorem hfL_ok {A : Ask} {L : Nat} (hA : OAsk A n L) {id : Nat} {ls : List SI} {c : SI} {ne : Nat} {kn kp : List SI → Nat → Tree} {env x y Ls : List Int} {f g W : Int} (hne : ne = env.length) (bl : ∀ z ∈ ls, Bd ne z) (vl : ls.map (·.val env) = Ls)
    (hid : (id = 53 ∧ ∃ z, Ls = z ++ x ++ y ∧ z.length = n) ∨ (id = 54 ∧ Ls = y ++ x)) (lx : x.length = n) (ly : y.length = n) (wx : Wds x) (wy : Wds y) (hc : c.val env = pack f g) (hf : Win 2147483648 f) (hg : Win 2147483648 g)
    (hW : f * vw x + g * vw y = 2 ^ 30 * W) (hb : ab' W < BW ^ n)
    (hkn : W < 0 → ∀ (e : List Int) (os : List SI) (ne' : Nat), ne + 2 ≤ ne' → WOk (n + 1) (2 ^ 30 * ab' W) env e os ne' → (kn os ne').holds A (env ++ e))
    (hkp : 0 ≤ W → ∀ (e : List Int) (os : List SI) (ne' : Nat), ne + 2 ≤ ne' → WOk (n + 1) (2 ^ 30 * ab' W) env e os ne' → (kp os ne').holds A (env ++ e)) : (hfL n id ls c ne kn kp).holds A env := by
  have start : env = env ++ [] := by simp
  unfold hfL
  rw [start]
  refine hold_hav (v := [pack f g]) ?_ (hA.p67 _ (i64_wrap _)) fun ys _ h => ?_
  · rw [List.map_cons, List.map_nil, List.append_nil, hc]
  obtain ⟨a, b, rfl, ia, ib, hab⟩ := hA.m67 _ _ h
  obtain ⟨rfl, rfl⟩ := hab f g hf hg rfl
  rw [List.nil_append]
  have va : (SI.var ne).val (env ++ [a, b]) = a := by rw [var_at0 hne]; rfl
  have vb : (SI.var (ne + 1)).val (env ++ [a, b]) = b := by rw [var_at hne]; rfl
  have vls : (ls ++ [SI.var ne, SI.var (ne + 1)]).map (·.val (env ++ [a, b])) = Ls ++ [a, b] := by
    rw [List.map_append, olds hne bl vl, List.map_cons, List.map_cons, List.map_nil, va, vb]
  have pre : A.pre id (Ls ++ [a, b]) ∧ ∀ ys, A.post id (Ls ++ [a, b]) ys → LinP n x a y b ys := by
    rcases hid with ⟨rfl, z, rfl, lz⟩ | ⟨rfl, rfl⟩
    · exact ⟨hA.p53 _ _ _ _ _ lz lx ly wx wy ia ib, fun ys h => hA.m53 _ _ _ _ _ _ lz lx ly h⟩
    · exact ⟨hA.p54 _ _ _ _ lx ly wx wy ia ib, fun ys h => hA.m54 _ _ _ _ _ lx ly h⟩
  refine hold_hav vls pre.1 fun ys hy h => ?_
  obtain ⟨l1, l2, q, l3⟩ := pre.2 _ h
  have vys : (vr (ne + 2) (n + 1)).map (·.val (env ++ ([a, b] ++ ys))) = ys := by
    rw [vr_at hne 2 (n + 1) (by simp [l1]; omega)]
    show ((ys).take (n + 1)) = ys
    exact List.take_of_length_le (by omega)
  have ext : ∀ (e : List Int) (os : List SI) (ne' : Nat), WOk (n + 1) (2 ^ 30 * ab' W) (env ++ ([a, b] ++ ys)) e os ne' → ne + 2 ≤ ne' ∧ WOk (n + 1) (2 ^ 30 * ab' W) env ([a, b] ++ ys ++ e) os ne' := by
    intro e os ne' ⟨w1, w2, w3, w4, w5⟩
    have ee : env ++ ([a, b] ++ ys ++ e) = env ++ ([a, b] ++ ys) ++ e := by simp
    exact ⟨by rw [w1]; simp [hne], by rw [ee]; exact w1, w2, w3, by rw [ee]; exact w4, by rw [ee]; exact w5⟩
  refine sgQ_ok hA.i (by decide : 30 ≤ 32) (by rw [vr_length]) (by simp [hne, l1]; omega) (vr_bd (by omega)) vys l2 (V := 2 ^ 30 * W) (W := W) ⟨q, by rw [l3, hW]⟩ rfl hb ?_ ?_
  · intro h0 e os ne' hw
    obtain ⟨h1, h2⟩ := ext e os ne' hw
    have := hkn h0 _ os ne' h1 h2
    rw [← List.append_assoc] at this
    exact this
  · intro h0 e os ne' hw
    obtain ⟨h1, h2⟩ := ext e os ne' hw
    have := hkp h0 _ os ne' h1 h2
    rw [← List.append_assoc] at this
    exact this

/-- The second number, and the end of the round. -/
def lgB (n : Nat) (as bs : List SI) (c1 x0 : SI) (os : List SI) (l : SI) (ne : Nat) : Tree :=
  hfL n 54 (bs ++ as) c1 ne (fun ys m => shCh 30 (fun os2 _ => .fin (enc (os ++ os2 ++ as ++ [x0, .var (ne + 1), l])) st0) ys m []) (fun ys m => shCh 30 (fun os2 _ => .fin (enc (os ++ os2 ++ as ++ [x0, .var (ne + 1), l])) st0) ys m [])
def roundL (n : Nat) (as bs ss : List SI) (l : SI) (ne : Nat) : Tree :=
  .hav 65 as 1 (.br ne (.fin (enc (as ++ bs ++ ss ++ [l])) { st0 with fn := 1 }) (.hav 47 as 1 (.hav 47 bs 1 (.dfn .mx [.var (ne + 1), .var (ne + 2)] (.hav 49 (as ++ [.var (ne + 3)]) 1 (.hav 49 (bs ++ [.var (ne + 3)]) 1
    (.hav 77 (as ++ bs ++ ss ++ [.lit 1, .lit 4294967296, .var (ne + 4), .var (ne + 5), l]) 4
      (hfL n 53 (as ++ as ++ bs) (.var (ne + 6)) (ne + 10)
        (fun ys m => .dfn (.bin .and .u64) [.var (ne + 8), .lit 3] (.dfn (.cmp .eql) [.var m, .lit 3] (.br (m + 1)
          (.dfn (.bin .sub .i64) [.lit 0, .var (ne + 9)] (shCh 30 (fun os ne' => lgB n as bs (.var (ne + 7)) (.var (ne + 10)) os (.var (m + 2)) ne') ys (m + 3) []))
          (shCh 30 (fun os ne' => lgB n as bs (.var (ne + 7)) (.var (ne + 10)) os (.var (ne + 9)) ne') ys (m + 2) []))))
        (fun ys m => shCh 30 (fun os ne' => lgB n as bs (.var (ne + 7)) (.var (ne + 10)) os (.var (ne + 9)) ne') ys m [])))))))))
/-- What the round leaves. -/
def NxL (n : Nat) (a b : List Int) (v : Int) (l : List Int) : Prop := ∃ a' b' r v', l = a' ++ b' ++ r ++ [v'] ∧ a'.length = n ∧ b'.length = n ∧ r.length = n + 2 ∧ Wds a' ∧ Wds b' ∧ vw b' % 2 = 1 ∧ (v' = 1 ∨ v' = -1) ∧
  vw a' + vw b' < vw a + vw b ∧ J (vw a') (vw b') * v' = J (vw a) (vw b) * v
set_option maxHeartbeats 1000000 in
theorem roundL_ok {A : Ask} (hA : LAsk A n) {as bs ss : List SI} {l : SI} {ne : Nat} {env a b : List Int} {v : Int} (hne : ne = env.length) (ba : ∀ z ∈ as, Bd ne z) (bb : ∀ z ∈ bs, Bd ne z) (bs' : ∀ z ∈ ss, Bd ne z) (bl : Bd ne l)
    (va : as.map (·.val env) = a) (vb : bs.map (·.val env) = b) (vl : l.val env = v) (la : a.length = n) (lb : b.length = n) (wa : Wds a) (wb : Wds b) (hodd : vw b % 2 = 1) (hv : v = 1 ∨ v = -1)
    (hx : vw a = 0 → ∀ e : List Int, A.fin (enc (as ++ bs ++ ss ++ [l])) { st0 with fn := 1 } (env ++ e))
    (hk : vw a ≠ 0 → ∀ (e : List Int) (os : List SI), NxL n a b v (os.map (·.val (env ++ e))) → A.fin (enc os) st0 (env ++ e)) : (roundL n as bs ss l ne).holds A env := by
  have start : env = env ++ [] := by simp
  have hO := hA.o
  have bda := vw_bounds wa
  have bdb := vw_bounds wb
  rw [la] at bda
  rw [lb] at bdb
  unfold roundL
  rw [start]
  refine hold_hav (v := a) (olds hne ba va _) (hA.p65 _ wa) fun ys _ h => ?_
  obtain rfl := hA.m65 _ _ h
  generalize hz : b01 (decide (vw a = 0)) = z0
  refine ⟨fun h1 => ?_, fun h1 => ?_⟩
  · have g0 : (env ++ ([] ++ [z0])).getD ne 0 = z0 := getD_at (l := [] ++ [z0]) hne 0
    rw [g0] at h1
    rw [← hz] at h1
    exact hx (of_decide_eq_true ((b01_one _).1 h1)) _
  have g0 : (env ++ ([] ++ [z0])).getD ne 0 = z0 := getD_at (l := [] ++ [z0]) hne 0
  rw [g0] at h1
  rw [← hz] at h1
  have ha0 : vw a ≠ 0 := of_decide_eq_false ((b01_zero _).1 h1)
  refine hold_hav (v := a) (olds hne ba va _) (hO.p47 _ wa) fun ys _ h => ?_
  obtain ⟨k1, rfl, k1a, k1b, k1c, k1d⟩ := hO.m47 _ _ h
  refine hold_hav (v := b) (olds hne bb vb _) (hO.p47 _ wb) fun ys _ h => ?_
  obtain ⟨k2, rfl, k2a, k2b, k2c, k2d⟩ := hO.m47 _ _ h
  refine hold_dfn (v := ((max k1 k2 : Nat) : Int)) ?_ ?_
  · show (if (SI.var (ne + 2)).val _ > (SI.var (ne + 1)).val _ then (SI.var (ne + 2)).val _ else (SI.var (ne + 1)).val _) = _
    rw [var_at hne, var_at hne]
    show (if (k2 : Int) > (k1 : Int) then (k2 : Int) else (k1 : Int)) = _
    split <;> omega
  generalize hM : max k1 k2 = M
  have hM1 : M ≤ 64 * n := by omega
  have pw : ∀ {a b : Nat}, a ≤ b → (2 : Int) ^ a ≤ 2 ^ b := fun {a b} h => by
    have : 2 ^ a ≤ 2 ^ b := Nat.pow_le_pow_right (by decide) h
    exact_mod_cast this
  have laM : vw a < 2 ^ M := Int.lt_of_lt_of_le k1b (pw (by omega))
  have lbM : vw b < 2 ^ M := Int.lt_of_lt_of_le k2b (pw (by omega))
  refine hold_hav (v := a ++ [(M : Int)]) ?_ (hA.p49 _ _ la wa hM1 laM) fun ys _ h => ?_
  · rw [List.map_append, olds hne ba va, List.map_cons, List.map_nil, var_at hne]; rfl
  have aX := hA.m49 _ _ _ la h
  obtain ⟨X, rfl, _⟩ := id aX
  refine hold_hav (v := b ++ [(M : Int)]) ?_ (hA.p49 _ _ lb wb hM1 lbM) fun ys _ h => ?_
  · rw [List.map_append, olds hne bb vb, List.map_cons, List.map_nil, var_at hne]; rfl
  have aY := hA.m49 _ _ _ lb h
  obtain ⟨Y, rfl, _⟩ := id aY
  have hb0 : vw b ≠ 0 := fun h => by rw [h] at hodd; simp at hodd
  obtain ⟨_, _, s, e, hN, wX, wY, hYo⟩ := near_both2 k1c k1b k1d k2b k2c hb0 hM.symm aX aY
  refine hold_hav (v := a ++ b ++ ss.map (·.val env) ++ [1, 4294967296, X, Y, v]) ?_ (hA.p77 _ _ _ _ wX wY (by omega) hv) fun ys _ h => ?_
  · rw [List.map_append, List.map_append, List.map_append, olds hne ba va, olds hne bb vb, olds hne bs' rfl]
    simp only [List.map_cons, List.map_nil, var_at hne, val_lit]
    rw [val_more (by rw [← hne]; exact bl), vl]
    rfl
  obtain ⟨U, V, f0, g0, f1, g1, v', rfl, wV, hG, hv', hall⟩ := hA.m77 _ _ _ _ _ h
  obtain ⟨A', B', hLG⟩ := hall s e _ _ hN
  have hbig : e = 0 ∨ s * (X + Y) > 8 * e := by
    have := hN.e0
    rcases hN.big with h | h
    · exact .inl h
    · by_cases he : e = 0
      · exact .inl he
      · exact .inr (by omega)
  obtain ⟨W0, W1, t0, t1, t2, t3, _, t4, t5, t6⟩ := turn_all (M := BW ^ n) hG hN.s1 hN.e0 (near_less hN.x) (near_less hN.y) bda.1 (by omega) bda.2 bdb.2 (by decide) hbig
  have eA : A' = W0 := Int.eq_of_mul_eq_mul_left (show (2 : Int) ^ 30 ≠ 0 by decide) (by rw [hLG.ea, t0])
  have eB : B' = W1 := Int.eq_of_mul_eq_mul_left (show (2 : Int) ^ 30 ≠ 0 by decide) (by rw [hLG.eb, t1])
  obtain ⟨_, hT⟩ := hLG.turn hN
  rw [eA, eB] at hT
  have wn : ∀ {x : Int}, Win (2 ^ 30) x → Win 2147483648 x := fun {x} ⟨h1, h2⟩ => ⟨by omega, by omega⟩
  generalize hl : ([] ++ [z0] ++ [(k1 : Int)] ++ [(k2 : Int)] ++ [(M : Int)] ++ [X] ++ [Y] ++ [pack f0 g0, pack f1 g1, V, v'] : List Int) = L
  have ll : L.length = 10 := by rw [← hl]; rfl
  have hneL : ne + 10 = (env ++ L).length := by simp [hne, ll]
  have gl : ∀ (k : Nat) (m : List Int), k < 10 → (SI.var (ne + k)).val (env ++ (L ++ m)) = L.getD k 0 := fun k m hk => by rw [var_at hne, at_old (by omega)]
  have v6 : ∀ m : List Int, (SI.var (ne + 6)).val (env ++ (L ++ m)) = pack f0 g0 := fun m => by rw [gl 6 m (by decide), ← hl]; rfl
  have v7 : ∀ m : List Int, (SI.var (ne + 7)).val (env ++ (L ++ m)) = pack f1 g1 := fun m => by rw [gl 7 m (by decide), ← hl]; rfl
  have v8 : ∀ m : List Int, (SI.var (ne + 8)).val (env ++ (L ++ m)) = V := fun m => by rw [gl 8 m (by decide), ← hl]; rfl
  have v9 : ∀ m : List Int, (SI.var (ne + 9)).val (env ++ (L ++ m)) = v' := fun m => by rw [gl 9 m (by decide), ← hl]; rfl
  have e0 : env ++ L = env ++ (L ++ []) := by simp
  -- the second number
  have second : ∀ (e1 : List Int) (os : List SI) (l2 : SI) (ne1 : Nat), WOk n (ab' W0) (env ++ L) e1 os ne1 → ne + 12 ≤ ne1 → Bd ne1 l2 → l2.val (env ++ L ++ e1) = (if W0 < 0 then (if V % 4 = 3 then -v' else v') else v') →
      (lgB n as bs (.var (ne + 7)) (.var (ne + 10)) os l2 ne1).holds A (env ++ L ++ e1) := by
    intro e1 os l2 ne1 ⟨s1, s2, s3, s4, s5⟩ hle b2 h2
    have e1' : env ++ L ++ e1 = env ++ (L ++ e1) := by simp
    have last : ∀ (e2 : List Int) (ys : List SI) (m : Nat), ne1 + 2 ≤ m → WOk (n + 1) (2 ^ 30 * ab' W1) (env ++ L ++ e1) e2 ys m →
        (shCh 30 (fun os2 _ => .fin (enc (os ++ os2 ++ as ++ [.var (ne + 10), .var (ne1 + 1), l2])) st0) ys m []).holds A (env ++ L ++ e1 ++ e2) := by
      intro e2 ys m hm hw
      refine shQ_ok (by decide) hw t3 ?_
      intro e3 os2 ne3 ⟨r1, r2, r3, r4, r5⟩
      have ee : env ++ L ++ e1 ++ (e2 ++ e3) = env ++ (L ++ e1 ++ (e2 ++ e3)) := by simp
      have mo : os.map (·.val (env ++ L ++ e1 ++ (e2 ++ e3))) = os.map (·.val (env ++ L ++ e1)) := vals_more fun z hz => by rw [← s1]; exact s2 z hz
      have ml : l2.val (env ++ L ++ e1 ++ (e2 ++ e3)) = l2.val (env ++ L ++ e1) := val_more (by rw [← s1]; exact b2)
      rw [ee]
      refine hk ha0 _ _ ⟨os.map (·.val (env ++ L ++ e1)), os2.map (·.val (env ++ L ++ e1 ++ (e2 ++ e3))), a ++ [(SI.var (ne + 10)).val (env ++ L ++ e1 ++ (e2 ++ e3)), (SI.var (ne1 + 1)).val (env ++ L ++ e1 ++ (e2 ++ e3))], l2.val (env ++ L ++ e1), ?_, by rw [List.length_map, s3], by rw [List.length_map, r3], by simp [la], s4, r4, by rw [r5]; exact t4, ?_, ?_, ?_⟩
      · rw [← ee]
        simp only [List.map_append, List.map_cons, List.map_nil]
        rw [mo, ml, ee, olds hne ba va]
        simp
      · rw [h2]
        rcases hv' with rfl | rfl <;> split <;> (try split) <;> simp
      · rw [s5, r5]; exact t6 (by omega)
      · rw [s5, r5, h2]; exact hT
    unfold lgB
    refine hfL_ok hO (x := a) (y := b) (Ls := b ++ a) (f := f1) (g := g1) (W := W1) s1 ?_ ?_ (.inr ⟨rfl, rfl⟩) la lb wa wb (by rw [e1']; exact v7 e1) (wn hG.w1.1) (wn hG.w1.2) t1 t3 ?_ ?_
    · intro z hz
      rcases List.mem_append.1 hz with h | h
      · exact (bb z h).more (by omega)
      · exact (ba z h).more (by omega)
    · rw [List.map_append, e1', olds hne ba va, olds hne bb vb]
    · exact fun _ e2 ys m hm hw => last e2 ys m hm hw
    · exact fun _ e2 ys m hm hw => last e2 ys m hm hw
  refine hfL_ok hO (x := a) (y := b) (Ls := a ++ a ++ b) (f := f0) (g := g0) (W := W0) hneL ?_ ?_ (.inl ⟨rfl, a, rfl, la⟩) la lb wa wb (by rw [e0]; exact v6 []) (wn hG.w0.1) (wn hG.w0.2) t0 t2 ?_ ?_
  · intro z hz
    rcases List.mem_append.1 hz with h | h
    · rcases List.mem_append.1 h with h | h <;> exact (ba z h).more (by omega)
    · exact (bb z h).more (by omega)
  · rw [List.map_append, List.map_append, olds hne ba va, olds hne bb vb]
  · intro hneg e1 ys m hm ⟨w1, w2, w3, w4, w5⟩
    have e1' : env ++ L ++ e1 = env ++ (L ++ e1) := by simp
    refine hold_dfn (v := V % 4) ?_ ?_
    · show binEv .and .u64 ((SI.var (ne + 8)).val _) 3 = _
      rw [e1', v8, and_three wV]
    rw [← List.append_assoc]
    refine hold_dfn (v := b01 (decide (V % 4 = 3))) ?_ ?_
    · show b01 (cmpEv .eql ((SI.var m).val _) 3) = _
      rw [var_at0 w1]; rfl
    have ext : ∀ (r : List Int) (m' : Nat), m' = m + r.length → WOk (n + 1) (2 ^ 30 * ab' W0) (env ++ L) (e1 ++ r) ys m' := by
      intro r m' hm'
      have ee : env ++ L ++ (e1 ++ r) = env ++ L ++ e1 ++ r := by simp
      have my : ys.map (·.val (env ++ L ++ (e1 ++ r))) = ys.map (·.val (env ++ L ++ e1)) := by rw [ee]; exact vals_more fun z hz => by rw [← w1]; exact w2 z hz
      exact ⟨by rw [ee, List.length_append, ← w1]; exact hm', fun z hz => (w2 z hz).more (by omega), w3, by rw [my]; exact w4, by rw [my]; exact w5⟩
    refine ⟨fun h3 => ?_, fun h3 => ?_⟩
    · rw [getD_at w1] at h3
      have h3 : V % 4 = 3 := of_decide_eq_true ((b01_one _).1 h3)
      refine hold_dfn (v := -v') ?_ ?_
      · show binEv .sub .i64 0 ((SI.var (ne + 9)).val _) = _
        rw [e1', List.append_assoc, List.append_assoc, v9, sub_zero64 hv']
      rw [List.append_assoc (env ++ L)]
      refine shQ_ok (by decide) (ext _ (m + 3) (by simp)) t2 ?_
      intro e2 os ne1 hw
      rw [← List.append_assoc (env ++ L)]
      have hl1 : m + 3 ≤ ne1 := by rw [hw.ne]; simp only [List.length_append, List.length_cons, List.length_nil] at w1 ⊢; omega
      have := second _ os (.var (m + 2)) ne1 hw (by omega) (show m + 2 < ne1 by omega) ?_
      · rw [← List.append_assoc (env ++ L)] at this; exact this
      · rw [if_pos hneg, if_pos h3, List.append_assoc e1, ← List.append_assoc (env ++ L), var_at w1]
        rfl
    · rw [getD_at w1] at h3
      have h3 : ¬ V % 4 = 3 := of_decide_eq_false ((b01_zero _).1 h3)
      rw [List.append_assoc (env ++ L)]
      refine shQ_ok (by decide) (ext _ (m + 2) (by simp)) t2 ?_
      intro e2 os ne1 hw
      have hl1 : m + 2 ≤ ne1 := by rw [hw.ne]; simp only [List.length_append, List.length_cons, List.length_nil] at w1 ⊢; omega
      refine second _ os (.var (ne + 9)) ne1 hw (by omega) (show ne + 9 < ne1 by omega) ?_
      rw [if_pos hneg, if_neg h3, List.append_assoc env, v9]
  · intro hpos e1 ys m hm hw
    refine shQ_ok (by decide) hw t2 ?_
    intro e2 os ne1 hw2
    have hl1 : m ≤ ne1 := by rw [hw2.ne, hw.ne]; simp
    refine second _ os (.var (ne + 9)) ne1 hw2 (by omega) (show ne + 9 < ne1 by omega) ?_
    rw [if_neg (by omega), List.append_assoc env, v9]
end
end Eng
