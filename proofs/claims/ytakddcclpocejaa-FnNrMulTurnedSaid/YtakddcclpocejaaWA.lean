/-
  Numbers by words: Montgomery's product: the rounds, the whole.
-/
import Derived.Test.YtakddcclpocejaaWB
namespace Eng
open Go

section
variable {A : Ask} {n : Nat} {q : List Int}

theorem last_split {U : List Int} (h : U ≠ []) : U = U.dropLast ++ [U.getLastD 0] := by
  have := (List.dropLast_concat_getLast h).symm
  rw [List.getLastD_eq_getLast?, List.getLast?_eq_some_getLast h]
  exact this
theorem last_val {env : List Int} : ∀ {os : List SI}, (os.getLastD (.lit 0)).val env = (os.map (·.val env)).getLastD 0
  | [] => rfl
  | [x] => rfl
  | x :: y :: l => by
    have := last_val (env := env) (os := y :: l)
    simp only [List.map_cons, List.getLastD_cons] at this ⊢
    exact this
theorem last_bd {m : Nat} {os : List SI} (h : ∀ z ∈ os, Bd m z) : Bd m (os.getLastD (.lit 0)) := by
  cases hs : os.getLast? with
  | none => rw [List.getLastD_eq_getLast?, hs]; trivial
  | some x => rw [List.getLastD_eq_getLast?, hs]; exact h x (List.mem_of_getLast? hs)
theorem wd_last {U : List Int} (h : Wds U) : Wd (U.getLastD 0) := by
  cases hs : U.getLast? with
  | none => rw [List.getLastD_eq_getLast?, hs]; exact wd0
  | some x => rw [List.getLastD_eq_getLast?, hs]; exact h x (List.mem_of_getLast? hs)
theorem wds_dropLast {U : List Int} (h : Wds U) : Wds U.dropLast := fun x hx => h x (by rw [List.dropLast_eq_take] at hx; exact List.mem_of_mem_take hx)
theorem bd_dropLast {m : Nat} {os : List SI} (h : ∀ z ∈ os, Bd m z) : ∀ z ∈ os.dropLast, Bd m z := fun z hz => h z (by rw [List.dropLast_eq_take] at hz; exact List.mem_of_mem_take hz)
theorem bd_tail {m : Nat} {os : List SI} (h : ∀ z ∈ os, Bd m z) : ∀ z ∈ os.tail, Bd m z := fun z hz => h z (List.mem_of_mem_tail hz)
theorem wds_tail {U : List Int} (h : Wds U) : Wds U.tail := fun x hx => h x (List.mem_of_mem_tail hx)
theorem head_val {env : List Int} : ∀ {os : List SI}, (os.headD (.lit 0)).val env = (os.map (·.val env)).headD 0
  | [] => rfl
  | _ :: _ => rfl
theorem head_bd {m : Nat} {os : List SI} (h : ∀ z ∈ os, Bd m z) : Bd m (os.headD (.lit 0)) := by
  cases os with
  | nil => trivial
  | cons x l => exact h x (List.mem_cons_self ..)
theorem vw_head {U : List Int} (h : U ≠ []) : vw U = U.headD 0 + BW * vw U.tail := by
  cases U with
  | nil => exact absurd rfl h
  | cons x l => rfl
theorem vw_last {U : List Int} (h : U ≠ []) : vw U = vw U.dropLast + BW ^ (U.length - 1) * U.getLastD 0 := by
  have e : vw U = vw (U.dropLast ++ [U.getLastD 0]) := by rw [← last_split h]
  rw [e, vw_snoc, List.length_dropLast]

/-- Two facts of one sum with carry. -/
theorem add_facts {env : List Int} {x y c : SI} {s b : Int} (hx : Bd env.length x) (hy : Bd env.length y) (hc : Bd env.length c) (wx : Wd (x.val env)) (wy : Wd (y.val env)) (bc : c.val env = 0 ∨ c.val env = 1)
    (hs : s = IOp.addS.ev ([x, y, c].map (·.val env))) (hb : b = IOp.addC.ev ([x, y, c].map (·.val (env ++ [s])))) : Wd s ∧ (b = 0 ∨ b = 1) ∧ s + BW * b = x.val env + y.val env + c.val env := by
  have hb : b = b01 (decide (18446744073709551616 ≤ (x.val (env ++ [s])).toNat + (y.val (env ++ [s])).toNat + (c.val (env ++ [s])).toNat)) := hb
  rw [val_more hx, val_more hy, val_more hc] at hb
  exact add_step wx wy bc hs hb

/-! ### one word times the number, and what there is -/
def p1F (v : SI) (ys : List SI) (ne : Nat) (k : List SI → Nat → Tree) : Tree :=
  muCh (fun us ls ne' => addCh (fun ts c ne2 => .dfn .addS [us.getLastD (.lit 0), .lit 0, c] (.dfn .addC [us.getLastD (.lit 0), .lit 0, c] (k (ls.headD (.lit 0) :: ts ++ [.var ne2]) (ne2 + 2)))) us.dropLast ls.tail (.lit 0) ne' []) v ys ne [] []
def p1N (v : SI) (ys ts : List SI) (ne : Nat) (k : List SI → Nat → Tree) : Tree :=
  maCh true (fun os us c ne' => .dfn .addS [.lit 0, .lit 0, c] (.dfn .addC [.lit 0, .lit 0, c]
    (addCh (fun ss c2 ne2 => .dfn .addS [us.getLastD (.lit 0), .var ne', c2] (.dfn .addC [us.getLastD (.lit 0), .var ne', c2] (k (os.headD (.lit 0) :: ss ++ [.var ne2]) (ne2 + 2)))) us.dropLast os.tail (.lit 0) (ne' + 2) []))) v ys ts (.lit 0) ne [] []

theorem mul_bound {v : Int} {Y : List Int} (hv : Wd v) (hY : Wds Y) : 0 ≤ v * vw Y ∧ v * vw Y ≤ (BW - 1) * (BW ^ Y.length - 1) := by
  have b := vw_bounds hY
  refine ⟨Int.mul_nonneg hv.1 b.1, ?_⟩
  exact Int.mul_le_mul (by have := hv.2; simp only [BW]; omega) (by omega) b.1 (by simp only [BW]; decide)

theorem p1F_ok (hA : PAsk A) (hn : n ≠ 0) {v : SI} {ys : List SI} {ne : Nat} {env : List Int} {k : List SI → Nat → Tree} (ly : ys.length = n) (hne : ne = env.length) (hv : Bd ne v) (hy : ∀ y ∈ ys, Bd ne y) (wv : Wd (v.val env)) (wy : Wds (ys.map (·.val env)))
    (hk : ∀ (e : List Int) (T : List SI) (ne' : Nat), ROk (fun l => vw l = v.val env * vw (ys.map (·.val env))) env e T ne' (n + 1) → (k T ne').holds A (env ++ e)) : (p1F v ys ne k).holds A env := by
  refine muCh_ok hA ys ne [] [] env hne hv hy (fun z hz => by cases hz) (fun z hz => by cases hz) wv wy fun e us ls ne' g => ?_
  obtain ⟨g1, g2, g3, U, L, g4, g5, g6, g7, g8, g9, g10⟩ := g
  rw [List.map_nil, List.nil_append] at g4 g5
  rw [ly] at g8 g9
  have lu : us.length = n := by rw [map_len g4, g8]
  have ll : ls.length = n := by rw [map_len g5, g9]
  have une : U ≠ [] := fun h => by rw [h] at g8; exact hn g8.symm
  have lne : L ≠ [] := fun h => by rw [h] at g9; exact hn g9.symm
  refine addCh_ok us.dropLast ls.tail (.lit 0) ne' [] (env ++ e) (by simp [lu, ll]) g1 (bd_dropLast g2) (bd_tail g3) trivial (fun z hz => by cases hz) (by rw [List.map_dropLast, g4]; exact wds_dropLast g6) (by rw [List.map_tail, g5]; exact wds_tail g7) (.inl rfl) fun e2 ts c ne2 h => ?_
  rw [List.map_dropLast, List.map_tail, g4, g5] at h
  obtain ⟨h1, h2, h3, h4, d, h5, h6, h7, h8⟩ := h
  rw [List.map_nil, List.nil_append] at h5
  simp only [Int.one_mul, val_lit, Int.add_zero, List.length_dropLast, lu] at h7 h8
  have lt : ts.length = n - 1 := by rw [map_len h5, h7]
  have hle : ne' ≤ ne2 := by rw [h1, g1]; simp
  intro s hs b hb
  have ul : (us.getLastD (.lit 0)).val (env ++ e ++ e2) = U.getLastD 0 := by rw [val_more (last_bd (by rw [← g1]; exact g2)), last_val, g4]
  obtain ⟨ws, bb, es⟩ := add_facts (x := us.getLastD (.lit 0)) (y := .lit 0) (c := c) (by rw [← h1]; exact (last_bd g2).more hle) trivial (by rw [← h1]; exact h2) (by rw [ul]; exact wd_last g6) wd0 h4 hs hb
  rw [ul] at es
  simp only [val_lit, Int.add_zero] at es
  have e3 : env ++ e ++ e2 ++ [s] ++ [b] = env ++ (e ++ e2 ++ [s, b]) := by simp
  have e4 : env ++ e ++ e2 ++ [s] ++ [b] = env ++ e ++ e2 ++ [s, b] := by simp
  have hT : (ls.headD (.lit 0) :: ts ++ [SI.var ne2]).map (·.val (env ++ e ++ e2 ++ [s] ++ [b])) = L.headD 0 :: d ++ [s] := by
    rw [List.map_append, List.map_cons, List.map_cons, List.map_nil]
    congr 1
    · congr 1
      · rw [show env ++ e ++ e2 ++ [s] ++ [b] = env ++ e ++ (e2 ++ [s, b]) by simp, val_more (head_bd (by rw [← g1]; exact g3)), head_val, g5]
      · rw [e4, vals_more (by rw [← h1]; exact h3), h5]
    · rw [val_more (x := .var ne2) (by show ne2 < _; simp [h1]), val_end h1]
  have wL0 : Wd (L.headD 0) := by
    cases L with
    | nil => exact absurd rfl lne
    | cons x l => exact g7 x (List.mem_cons_self ..)
  have wT : Wds (L.headD 0 :: d ++ [s]) := Wds.append (wds_cons wL0 h6) (wds_cons ws wds_nil)
  have lT : (L.headD 0 :: d ++ [s]).length = n + 1 := by simp [h7]; omega
  -- the value
  have hval : vw (L.headD 0 :: d ++ [s]) + BW ^ (n + 1) * b = v.val env * vw (ys.map (·.val env)) := by
    have e5 : L.headD 0 :: d ++ [s] = (L.headD 0 :: d) ++ [s] := rfl
    have hp : BW ^ (n + 1) = BW * (BW * BW ^ (n - 1)) := by
      rw [Int.pow_succ, Int.mul_comm]
      congr 1
      rw [Int.mul_comm, ← Int.pow_succ]
      congr 1
      omega
    have hp2 : BW ^ n = BW * BW ^ (n - 1) := by
      rw [Int.mul_comm, ← Int.pow_succ]
      congr 1
      omega
    rw [e5, vw_snoc, List.length_cons, h7, show n - 1 + 1 = n by omega, hp, hp2, ← g10, vw_last une, g8, vw_head lne]
    simp only [vw]
    have es' : s = U.getLastD 0 + c.val (env ++ e ++ e2) - BW * b := by omega
    have hd : vw d = vw U.dropLast + vw L.tail - BW ^ (n - 1) * c.val (env ++ e ++ e2) := by omega
    rw [es', hd]
    generalize BW ^ (n - 1) = P
    simp only [Int.mul_add, Int.mul_sub, Int.mul_assoc]
    rw [Int.mul_left_comm P BW b]
    generalize P * U.getLastD 0 = a1
    generalize P * c.val (env ++ e ++ e2) = a2
    generalize P * b = a3
    simp only [BW]
    omega
  have hb0 : b = 0 := by
    have m1 := mul_bound wv wy
    have b1 := vw_bounds wT
    rw [lT] at b1
    rw [List.length_map, ly] at m1
    rcases bb with h | h
    · exact h
    · exfalso
      rw [h, Int.mul_one] at hval
      have : (BW - 1) * (BW ^ n - 1) < BW ^ (n + 1) := by
        rw [Int.pow_succ, Int.mul_comm _ BW, Int.sub_mul, Int.mul_sub]
        have := bw_pos n
        simp only [BW] at *
        omega
      omega
  rw [hb0, Int.mul_zero, Int.add_zero] at hval
  rw [e3] at hT ⊢
  refine hk _ _ (ne2 + 2) ⟨by rw [← e3]; simp [h1]; omega, fun z hz => ?_, by simp [lt]; omega, by rw [hT]; exact wT, by rw [hT]; exact hval⟩
  rcases List.mem_append.1 hz with hz | hz
  · rcases List.mem_cons.1 hz with rfl | hz
    · exact (head_bd g3).more (by omega)
    · exact (h3 z hz).more (by omega)
  · simp at hz; subst hz; show ne2 < ne2 + 2; omega

theorem p1N_ok (hA : PAsk A) (hn : n ≠ 0) {v : SI} {ys zs : List SI} {ne : Nat} {env : List Int} {k : List SI → Nat → Tree} (ly : ys.length = n) (lz : zs.length = n) (hne : ne = env.length) (hv : Bd ne v) (hy : ∀ y ∈ ys, Bd ne y) (hz : ∀ z ∈ zs, Bd ne z)
    (wv : Wd (v.val env)) (wy : Wds (ys.map (·.val env))) (wz : Wds (zs.map (·.val env)))
    (hk : ∀ (e : List Int) (T : List SI) (ne' : Nat), ROk (fun l => vw l = vw (zs.map (·.val env)) + v.val env * vw (ys.map (·.val env))) env e T ne' (n + 1) → (k T ne').holds A (env ++ e)) : (p1N v ys zs ne k).holds A env := by
  refine maCh_ok hA ys zs (.lit 0) ne [] [] env (by omega) hne hv hy hz trivial (fun z hz => by cases hz) (fun z hz => by cases hz) wv wy wz (.inl rfl) fun e os us c ne' g => ?_
  obtain ⟨g1, g2, g3, g4, g5, D, U, g6, g7, g8, g9, g10, g11, g12⟩ := g
  rw [List.map_nil, List.nil_append] at g6 g7
  rw [ly] at g10 g11 g12
  simp only [val_lit, Int.add_zero] at g12
  have lo : os.length = n := by rw [map_len g6, g10]
  have lu : us.length = n := by rw [map_len g7, g11]
  have une : U ≠ [] := fun h => by rw [h] at g11; exact hn g11.symm
  have dne : D ≠ [] := fun h => by rw [h] at g10; exact hn g10.symm
  intro w hw b0 hb0
  obtain ⟨ww, bb0, ew⟩ := add_facts (x := .lit 0) (y := .lit 0) (c := c) trivial trivial (by rw [← g1]; exact g4) wd0 wd0 g5 hw hb0
  simp only [val_lit, Int.zero_add] at ew
  have hwc : w = c.val (env ++ e) := by
    simp only [Wd, BW] at *
    rcases bb0 with h | h <;> rcases g5 with h' | h' <;> omega
  have eE : env ++ e ++ [w] ++ [b0] = env ++ e ++ [w, b0] := by simp
  have mo : os.map (·.val (env ++ e ++ [w] ++ [b0])) = D := by rw [eE, vals_more (by rw [← g1]; exact g2), g6]
  have mu : us.map (·.val (env ++ e ++ [w] ++ [b0])) = U := by rw [eE, vals_more (by rw [← g1]; exact g3), g7]
  have vw' : (SI.var ne').val (env ++ e ++ [w] ++ [b0]) = w := by rw [val_more (x := .var ne') (by show ne' < _; simp [g1])]; exact val_end g1
  have lE : ne' + 2 = (env ++ e ++ [w] ++ [b0]).length := by simp [g1]; omega
  have app : ∀ e', env ++ e ++ [w] ++ [b0] ++ e' = env ++ (e ++ [w, b0] ++ e') := by simp
  generalize env ++ e ++ [w] ++ [b0] = E at *
  refine addCh_ok us.dropLast os.tail (.lit 0) (ne' + 2) [] E (by simp [lu, lo]) lE (bd_dropLast fun z hz => (g3 z hz).more (by omega)) (bd_tail fun z hz => (g2 z hz).more (by omega)) trivial (fun z hz => by cases hz) (by rw [List.map_dropLast, mu]; exact wds_dropLast g9) (by rw [List.map_tail, mo]; exact wds_tail g8) (.inl rfl) fun e2 ts c2 ne2 h => ?_
  rw [List.map_dropLast, List.map_tail, mu, mo] at h
  obtain ⟨h1, h2, h3, h4, d, h5, h6, h7, h8⟩ := h
  rw [List.map_nil, List.nil_append] at h5
  simp only [Int.one_mul, val_lit, Int.add_zero, List.length_dropLast, lu] at h7 h8
  have lt : ts.length = n - 1 := by rw [map_len h5, h7]
  have hle : ne' + 2 ≤ ne2 := by rw [h1, lE]; simp
  intro s hs b hb
  have ul : (us.getLastD (.lit 0)).val (E ++ e2) = U.getLastD 0 := by rw [val_more (by rw [← lE]; exact (last_bd g3).more (by omega)), last_val, mu]
  have vn : (SI.var ne').val (E ++ e2) = w := by rw [val_more (x := .var ne') (by show ne' < _; omega), vw']
  obtain ⟨ws, bb, es⟩ := add_facts (x := us.getLastD (.lit 0)) (y := .var ne') (c := c2) (by rw [← h1]; exact (last_bd g3).more (by omega)) (by rw [← h1]; show ne' < ne2; omega) (by rw [← h1]; exact h2) (by rw [ul]; exact wd_last g9) (by rw [vn]; exact ww) h4 hs hb
  rw [ul, vn] at es
  have e4 : E ++ e2 ++ [s] ++ [b] = E ++ e2 ++ [s, b] := by simp
  have e3 : E ++ e2 ++ [s] ++ [b] = env ++ (e ++ [w, b0] ++ (e2 ++ [s, b])) := by rw [← app]; simp
  have hT : (os.headD (.lit 0) :: ts ++ [SI.var ne2]).map (·.val (E ++ e2 ++ [s] ++ [b])) = D.headD 0 :: d ++ [s] := by
    rw [List.map_append, List.map_cons, List.map_cons, List.map_nil]
    congr 1
    · congr 1
      · rw [show E ++ e2 ++ [s] ++ [b] = E ++ (e2 ++ [s, b]) by simp, val_more (by rw [← lE]; exact (head_bd g2).more (by omega)), head_val, mo]
      · rw [e4, vals_more (by rw [← h1]; exact h3), h5]
    · rw [val_more (x := .var ne2) (by show ne2 < _; simp [h1]), val_end h1]
  have wD0 : Wd (D.headD 0) := by
    cases D with
    | nil => exact absurd rfl dne
    | cons x l => exact g8 x (List.mem_cons_self ..)
  have wT : Wds (D.headD 0 :: d ++ [s]) := Wds.append (wds_cons wD0 h6) (wds_cons ws wds_nil)
  have lT : (D.headD 0 :: d ++ [s]).length = n + 1 := by simp [h7]; omega
  have hp2 : BW ^ n = BW * BW ^ (n - 1) := by
    rw [Int.mul_comm, ← Int.pow_succ]
    congr 1
    omega
  have hval : vw (D.headD 0 :: d ++ [s]) + BW ^ (n + 1) * b = vw (zs.map (·.val env)) + v.val env * vw (ys.map (·.val env)) := by
    have e5 : D.headD 0 :: d ++ [s] = (D.headD 0 :: d) ++ [s] := rfl
    have hp : BW ^ (n + 1) = BW * (BW * BW ^ (n - 1)) := by
      rw [Int.pow_succ, Int.mul_comm, hp2]
    rw [e5, vw_snoc, List.length_cons, h7, show n - 1 + 1 = n by omega, hp, hp2, ← g12, vw_last une, g11, vw_head dne, hp2, ← hwc]
    simp only [vw]
    have es' : s = U.getLastD 0 + w + c2.val (E ++ e2) - BW * b := by omega
    have hd : vw d = vw U.dropLast + vw D.tail - BW ^ (n - 1) * c2.val (E ++ e2) := by omega
    rw [es', hd]
    generalize BW ^ (n - 1) = P
    simp only [Int.mul_add, Int.mul_sub, Int.mul_assoc]
    rw [Int.mul_left_comm P BW b]
    generalize P * U.getLastD 0 = a1
    generalize P * c2.val (E ++ e2) = a2
    generalize P * b = a3
    generalize P * w = a4
    simp only [BW]
    omega
  have hb0 : b = 0 := by
    have m1 := mul_bound wv wy
    have b1 := vw_bounds wT
    have b2 := vw_bounds wz
    rw [lT] at b1
    rw [List.length_map, ly] at m1
    rw [List.length_map, lz] at b2
    rcases bb with h | h
    · exact h
    · exfalso
      rw [h, Int.mul_one] at hval
      have : (BW - 1) * (BW ^ n - 1) + BW ^ n ≤ BW ^ (n + 1) := by
        rw [Int.pow_succ, Int.mul_comm _ BW, Int.sub_mul, Int.mul_sub]
        have := bw_pos n
        simp only [BW] at *
        omega
      omega
  rw [hb0, Int.mul_zero, Int.add_zero] at hval
  rw [e3] at hT ⊢
  refine hk _ _ (ne2 + 2) ⟨by rw [← e3]; simp [h1]; omega, fun z hz => ?_, by simp [lt]; omega, by rw [hT]; exact wT, by rw [hT]; exact hval⟩
  rcases List.mem_append.1 hz with hz | hz
  · rcases List.mem_cons.1 hz with rfl | hz
    · exact (head_bd g2).more (by omega)
    · exact (h3 z hz).more (by omega)
  · simp at hz; subst hz; show ne2 < ne2 + 2; omega
end
end Eng
