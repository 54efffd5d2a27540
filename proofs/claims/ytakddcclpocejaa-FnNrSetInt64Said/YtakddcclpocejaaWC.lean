/-
  Numbers by words: Montgomery's product: the whole, for any number of words.
-/
import Derived.Test.YtakddcclpocejaaWA
namespace Eng
open Go

section
variable {A : Ask} {n : Nat} {q : List Int}

/-- A multiple of the prime is added, and one word is left off. -/
def p2 (q : List Int) (qi : Int) (T : List SI) (ne : Nat) (k : List SI → Nat → Tree) : Tree :=
  .dfn (.bin .mul .u64) [.lit qi, T.headD (.lit 0)] (maCh false (fun rs us c ne' => .dfn .addS [us.getLastD (.lit 0), .lit 0, c] (.dfn .addC [us.getLastD (.lit 0), .lit 0, c]
    (addCh (fun ss k1 ne2 => .dfn .addS [T.getLastD (.lit 0), .lit 0, k1] (.dfn .addC [T.getLastD (.lit 0), .lit 0, k1]
      (.dfn .addS [T.dropLast.getLastD (.lit 0), ss.getLastD (.lit 0), .lit 0] (.dfn .addC [T.dropLast.getLastD (.lit 0), ss.getLastD (.lit 0), .lit 0]
        (.dfn .addS [.var ne', .var ne2, .var (ne2 + 3)] (.dfn .addC [.var ne', .var ne2, .var (ne2 + 3)] (k (ss.dropLast ++ [.var (ne2 + 2), .var (ne2 + 4)]) (ne2 + 6)))))))) us.dropLast rs.tail (.lit 0) (ne' + 2) [])))
    (.var ne) (ls q) (T.dropLast.dropLast ++ [.lit 0]) (.lit 0) (ne + 1) [] [])

theorem low_zero' {q0 qi z m : Int} (h : (q0 * qi + 1) % BW = 0) (hm : m = IntKind.u64.wrap (qi * z)) : (m * q0 + z) % BW = 0 := low_zero h (by rw [hm, Int.mul_comm])

theorem low_word {n : Nat} {D V U q : List Int} {c m qi : Int} (hn : 2 ≤ n) (lq : q.length = n) (lV : V.length = n + 1) (lD : D.length = n) (wD : Wds D) (hinv : (q.headD 0 * qi + 1) % BW = 0) (hm : m = IntKind.u64.wrap (qi * V.headD 0))
    (h : vw D + BW ^ n * c + BW * vw U = vw (V.dropLast.dropLast ++ [0]) + m * vw q) : D.headD 0 = 0 := by
  have h0 := low_zero' hinv hm
  have qne : q ≠ [] := fun h => by rw [h] at lq; simp at lq; omega
  have dne : D ≠ [] := fun h => by rw [h] at lD; simp at lD; omega
  have hV0 : V.dropLast.dropLast ++ [(0 : Int)] ≠ [] := by simp
  have hVh : (V.dropLast.dropLast ++ [(0 : Int)]).headD 0 = V.headD 0 := by
    match V, lV with
    | [], h => simp at h
    | [a], h => simp at h; omega
    | [a, b], h => simp at h; omega
    | a :: b :: d :: l, _ => simp [List.dropLast]
  rw [vw_head dne, vw_head hV0, hVh, vw_head qne] at h
  have hw0 : Wd (D.headD 0) := by
    cases D with
    | nil => exact absurd rfl dne
    | cons x l => exact wD x (List.mem_cons_self ..)
  have hp : BW ^ n = BW * BW ^ (n - 1) := by
    rw [Int.mul_comm, ← Int.pow_succ]
    congr 1
    omega
  rw [hp, Int.mul_add, Int.mul_assoc, Int.mul_left_comm m] at h
  obtain ⟨t, ht⟩ := Int.dvd_of_emod_eq_zero h0
  generalize m * vw q.tail = a1 at *
  generalize m * q.headD 0 = a2 at *
  generalize BW ^ (n - 1) * c = a3 at *
  generalize vw D.tail = a4 at *
  generalize vw (V.dropLast.dropLast ++ [0]).tail = a5 at *
  generalize vw U = a6 at *
  generalize V.headD 0 = a7 at *
  generalize D.headD 0 = a8 at *
  clear hVh hV0 qne dne hinv hm h0 hp
  simp only [Wd, BW] at *
  omega
theorem p2_val {n : Nat} {D V U q S : List Int} {c m u' d1 c2 d2 s k1 k2 f d3 : Int} (hn : 2 ≤ n) (lV : V.length = n + 1) (lD : D.length = n) (lU : U.length = n) (lS : S.length = n - 1) (hD0 : D.headD 0 = 0)
    (h : vw D + BW ^ n * c + BW * vw U = vw (V.dropLast.dropLast ++ [0]) + m * vw q) (h8 : vw S + BW ^ (n - 1) * k1 = vw U.dropLast + vw D.tail)
    (eu : u' + BW * d1 = U.getLastD 0 + c) (ec : c2 + BW * d2 = V.getLastD 0 + k1) (es : s + BW * k2 = V.dropLast.getLastD 0 + S.getLastD 0) (ef : f + BW * d3 = u' + c2 + k2) :
    BW * (vw (S.dropLast ++ [s, f]) + BW ^ n * (d1 + d2 + d3)) = vw V + m * vw q := by
  have une : U ≠ [] := fun h => by rw [h] at lU; simp at lU; omega
  have dne : D ≠ [] := fun h => by rw [h] at lD; simp at lD; omega
  have vne : V ≠ [] := fun h => by rw [h] at lV; simp at lV
  have sne : S ≠ [] := fun h => by rw [h] at lS; simp at lS; omega
  have vdne : V.dropLast ≠ [] := fun h => by
    have := congrArg List.length h
    simp [lV] at this; omega
  have hp1 : BW ^ (n - 1) = BW * BW ^ (n - 2) := by
    rw [Int.mul_comm, ← Int.pow_succ]
    congr 1
    omega
  have hp : BW ^ n = BW * (BW * BW ^ (n - 2)) := by
    rw [← hp1, Int.mul_comm, ← Int.pow_succ]
    congr 1
    omega
  have e6 : vw (S.dropLast ++ [s, f]) = vw S.dropLast + BW ^ (n - 2) * s + BW * BW ^ (n - 2) * f := by
    rw [show S.dropLast ++ [s, f] = (S.dropLast ++ [s]) ++ [f] by simp, vw_snoc, vw_snoc, List.length_append, List.length_dropLast, lS, List.length_cons, List.length_nil, show n - 1 - 1 = n - 2 by omega, show n - 2 + (0 + 1) = n - 1 by omega, hp1]
  have e7 : vw S = vw S.dropLast + BW ^ (n - 2) * S.getLastD 0 := by rw [vw_last sne, lS, show n - 1 - 1 = n - 2 by omega]
  have e8 : vw U = vw U.dropLast + BW * BW ^ (n - 2) * U.getLastD 0 := by rw [vw_last une, lU, hp1]
  have e9 : vw D = BW * vw D.tail := by rw [vw_head dne, hD0, Int.zero_add]
  have e10 : vw V = vw V.dropLast.dropLast + BW * BW ^ (n - 2) * V.dropLast.getLastD 0 + BW * (BW * BW ^ (n - 2)) * V.getLastD 0 := by
    rw [vw_last vne, lV, show n + 1 - 1 = n by omega, vw_last vdne, List.length_dropLast, lV, show n + 1 - 1 - 1 = n - 1 by omega, hp1, hp]
  have e11 : vw (V.dropLast.dropLast ++ [0]) = vw V.dropLast.dropLast := by rw [vw_snoc, Int.mul_zero, Int.add_zero]
  rw [e11, e8, e9, hp] at h
  rw [hp1, e7] at h8
  rw [e6, e10, hp]
  have hs' : s = V.dropLast.getLastD 0 + S.getLastD 0 - BW * k2 := by omega
  have hf' : f = u' + c2 + k2 - BW * d3 := by omega
  have hu : u' = U.getLastD 0 + c - BW * d1 := by omega
  have hc : c2 = V.getLastD 0 + k1 - BW * d2 := by omega
  rw [hf', hs', hu, hc]
  clear hf' hs' hu hc e6 e7 e8 e9 e10 e11 hp hp1 une dne vne sne vdne lV lD lU lS hD0 eu ec es ef
  generalize BW ^ (n - 2) = P at *
  generalize vw S.dropLast = b1 at *
  generalize vw U.dropLast = b2 at *
  generalize vw D.tail = b3 at *
  generalize vw V.dropLast.dropLast = b4 at *
  generalize m * vw q = a11 at *
  generalize U.getLastD 0 = x1 at *
  generalize S.getLastD 0 = x4 at *
  generalize V.dropLast.getLastD 0 = x5 at *
  generalize V.getLastD 0 = x6 at *
  simp only [Int.mul_add, Int.mul_sub, Int.mul_assoc] at *
  rw [Int.mul_left_comm P BW k2, Int.mul_left_comm P BW d3, Int.mul_left_comm P BW d1, Int.mul_left_comm P BW d2]
  generalize P * x1 = a1 at *
  generalize P * c = a2 at *
  generalize P * k1 = a3 at *
  generalize P * x4 = a4 at *
  generalize P * x5 = a5 at *
  generalize P * x6 = a6 at *
  generalize P * k2 = a7 at *
  generalize P * d1 = a8 at *
  generalize P * d2 = a9 at *
  generalize P * d3 = a10 at *
  simp only [BW] at *
  omega

theorem p2_ok (hA : PAsk A) (hq : WQ n q) {qi : Int} (hqi : QInv q qi) (hn : 2 ≤ n) {T : List SI} {ne : Nat} {env : List Int} {k : List SI → Nat → Tree} (lT : T.length = n + 1) (hne : ne = env.length) (hT : ∀ z ∈ T, Bd ne z)
    (wT : Wds (T.map (·.val env))) (hb : vw (T.map (·.val env)) + (BW - 1) * vw q < BW ^ (n + 1))
    (hk : ∀ (e : List Int) (os : List SI) (ne' : Nat), ROk (fun l => ∃ m, Wd m ∧ BW * vw l = vw (T.map (·.val env)) + m * vw q) env e os ne' n → (k os ne').holds A (env ++ e)) : (p2 q qi T ne k).holds A env := by
  have lq := hq.len
  -- the words of T
  generalize hTv : T.map (·.val env) = V at *
  have lV : V.length = n + 1 := by rw [← hTv]; simpa using lT
  have vne : V ≠ [] := fun h => by rw [h] at lV; simp at lV
  have vdne : V.dropLast ≠ [] := fun h => by
    have := congrArg List.length h
    simp [lV] at this; omega
  have kh : (T.headD (.lit 0)).val env = V.headD 0 := by rw [head_val, hTv]
  have wh : Wd (V.headD 0) := by
    cases V with
    | nil => exact absurd rfl vne
    | cons x l => exact wT x (List.mem_cons_self ..)
  intro m hm
  have hm : m = IntKind.u64.wrap (qi * (T.headD (.lit 0)).val env) := hm
  rw [kh] at hm
  have wm : Wd m := by rw [hm]; exact wd_wrap _
  have vm : (SI.var ne).val (env ++ [m]) = m := val_end hne
  have mT : T.map (·.val (env ++ [m])) = V := by rw [vals_more (by rw [← hne]; exact hT), hTv]
  have hT1 : ∀ z ∈ T, Bd (ne + 1) z := fun z hz => (hT z hz).more (by omega)
  have l1 : ne + 1 = (env ++ [m]).length := by simp [hne]
  have app1 : ∀ e, env ++ [m] ++ e = env ++ ([m] ++ e) := by simp
  generalize env ++ [m] = E1 at *
  have mX : (T.dropLast.dropLast ++ [SI.lit 0]).map (·.val E1) = V.dropLast.dropLast ++ [0] := by
    rw [List.map_append, List.map_dropLast, List.map_dropLast, mT]; rfl
  refine maCh_ok hA (v := .var ne) (ls q) (T.dropLast.dropLast ++ [.lit 0]) (.lit 0) (ne + 1) [] [] E1 (by simp [ls, lq, lT]; omega) l1 (show ne < ne + 1 by omega) ls_bd ?_ trivial (fun z hz => by cases hz) (fun z hz => by cases hz) (by rw [vm]; exact wm) (by rw [ls_vals]; exact hq.wd) ?_ (.inl rfl) fun e rs us c ne' g => ?_
  · intro z hz
    rcases List.mem_append.1 hz with h | h
    · exact bd_dropLast (bd_dropLast hT1) z h
    · simp at h; subst h; trivial
  · rw [mX]
    exact Wds.append (wds_dropLast (wds_dropLast wT)) (wds_cons wd0 wds_nil)
  rw [ls_vals, mX, vm] at g
  obtain ⟨g1, g2, g3, g4, g5, D, U, g6, g7, g8, g9, g10, g11, g12⟩ := g
  rw [List.map_nil, List.nil_append] at g6 g7
  have lsq : (ls q).length = n := by simp [ls, lq]
  rw [lsq] at g10 g11 g12
  simp only [val_lit, Int.add_zero] at g12
  have lr : rs.length = n := by rw [map_len g6, g10]
  have lu : us.length = n := by rw [map_len g7, g11]
  have une : U ≠ [] := fun h => by rw [h] at g11; simp at g11; omega
  have dne : D ≠ [] := fun h => by rw [h] at g10; simp at g10; omega
  have hle1 : ne + 1 ≤ ne' := by rw [g1, List.length_append]; omega
  intro u' hu' d1 hd1
  have ul : (us.getLastD (.lit 0)).val (E1 ++ e) = U.getLastD 0 := by rw [last_val, g7]
  obtain ⟨wu', bd1, eu'⟩ := add_facts (x := us.getLastD (.lit 0)) (y := .lit 0) (c := c) (by rw [← g1]; exact last_bd g3) trivial (by rw [← g1]; exact g4) (by rw [ul]; exact wd_last g9) wd0 g5 hu' hd1
  rw [ul] at eu'
  simp only [val_lit, Int.add_zero] at eu'
  have eE : E1 ++ e ++ [u'] ++ [d1] = E1 ++ e ++ [u', d1] := by simp
  have mr : rs.map (·.val (E1 ++ e ++ [u'] ++ [d1])) = D := by rw [eE, vals_more (by rw [← g1]; exact g2), g6]
  have mu : us.map (·.val (E1 ++ e ++ [u'] ++ [d1])) = U := by rw [eE, vals_more (by rw [← g1]; exact g3), g7]
  have mT2 : T.map (·.val (E1 ++ e ++ [u'] ++ [d1])) = V := by
    rw [show E1 ++ e ++ [u'] ++ [d1] = E1 ++ (e ++ [u', d1]) by simp, vals_more (by rw [← l1]; exact hT1), mT]
  have vu' : (SI.var ne').val (E1 ++ e ++ [u'] ++ [d1]) = u' := by rw [val_more (x := .var ne') (by show ne' < _; simp [g1])]; exact val_end g1
  have l2 : ne' + 2 = (E1 ++ e ++ [u'] ++ [d1]).length := by simp [g1]; omega
  have app2 : ∀ e', E1 ++ e ++ [u'] ++ [d1] ++ e' = env ++ ([m] ++ (e ++ [u', d1] ++ e')) := by intro e'; rw [← app1]; simp
  generalize E1 ++ e ++ [u'] ++ [d1] = E2 at *
  refine addCh_ok us.dropLast rs.tail (.lit 0) (ne' + 2) [] E2 (by simp [lu, lr]) l2 (bd_dropLast fun z hz => (g3 z hz).more (by omega)) (bd_tail fun z hz => (g2 z hz).more (by omega)) trivial (fun z hz => by cases hz) (by rw [List.map_dropLast, mu]; exact wds_dropLast g9) (by rw [List.map_tail, mr]; exact wds_tail g8) (.inl rfl) fun e2 ss k1 ne2 h => ?_
  rw [List.map_dropLast, List.map_tail, mu, mr] at h
  obtain ⟨h1, h2, h3, h4, S, h5, h6, h7, h8⟩ := h
  rw [List.map_nil, List.nil_append] at h5
  simp only [Int.one_mul, val_lit, Int.add_zero, List.length_dropLast, lu] at h7 h8
  have lss : ss.length = n - 1 := by rw [map_len h5, h7]
  have sne : S ≠ [] := fun h => by rw [h] at h7; simp at h7; omega
  have hle2 : ne' + 2 ≤ ne2 := by rw [h1, l2]; simp
  -- the last words
  intro c2 hc2 d2 hd2
  have vT2 : ∀ e', T.map (·.val (E2 ++ e')) = V := fun e' => by rw [vals_more (by rw [← l2]; exact fun z hz => (hT z hz).more (by omega)), mT2]
  have tl : (T.getLastD (.lit 0)).val (E2 ++ e2) = V.getLastD 0 := by rw [last_val, vT2]
  obtain ⟨wc2, bd2, ec2⟩ := add_facts (x := T.getLastD (.lit 0)) (y := .lit 0) (c := k1) (by rw [← h1]; exact (last_bd hT).more (by omega)) trivial (by rw [← h1]; exact h2) (by rw [tl]; exact wd_last wT) wd0 h4 hc2 hd2
  rw [tl] at ec2
  simp only [val_lit, Int.add_zero] at ec2
  have e3 : E2 ++ e2 ++ [c2] ++ [d2] = E2 ++ (e2 ++ [c2, d2]) := by simp
  have e3' : E2 ++ e2 ++ [c2] ++ [d2] = E2 ++ e2 ++ [c2, d2] := by simp
  have l3 : (E2 ++ e2 ++ [c2] ++ [d2]).length = ne2 + 2 := by simp [h1]; omega
  have tl1 : (T.dropLast.getLastD (.lit 0)).val (E2 ++ e2 ++ [c2] ++ [d2]) = V.dropLast.getLastD 0 := by rw [last_val, List.map_dropLast, e3, vT2]
  have sl : (ss.getLastD (.lit 0)).val (E2 ++ e2 ++ [c2] ++ [d2]) = S.getLastD 0 := by rw [last_val, e3', vals_more (by rw [← h1]; exact h3), h5]
  have vc2 : (SI.var ne2).val (E2 ++ e2 ++ [c2] ++ [d2]) = c2 := by rw [val_more (x := .var ne2) (by show ne2 < _; simp [h1])]; exact val_end h1
  have vu2 : (SI.var ne').val (E2 ++ e2 ++ [c2] ++ [d2]) = u' := by rw [e3, val_more (x := .var ne') (by show ne' < _; omega), vu']
  have ms : ss.map (·.val (E2 ++ e2 ++ [c2] ++ [d2])) = S := by rw [e3', vals_more (by rw [← h1]; exact h3), h5]
  have app3 : ∀ e', E2 ++ e2 ++ [c2] ++ [d2] ++ e' = env ++ ([m] ++ (e ++ [u', d1] ++ (e2 ++ [c2, d2] ++ e'))) := by intro e'; rw [← app2]; simp
  generalize E2 ++ e2 ++ [c2] ++ [d2] = E3 at *
  intro s hs k2 hk2
  obtain ⟨ws, bk2, es⟩ := add_facts (x := T.dropLast.getLastD (.lit 0)) (y := ss.getLastD (.lit 0)) (c := .lit 0) (by rw [l3]; exact (last_bd (bd_dropLast hT)).more (by omega)) (by rw [l3]; exact (last_bd h3).more (by omega)) trivial (by rw [tl1]; exact wd_last (wds_dropLast wT)) (by rw [sl]; exact wd_last h6) (.inl rfl) hs hk2
  rw [tl1, sl] at es
  simp only [val_lit, Int.add_zero] at es
  have e4 : E3 ++ [s] ++ [k2] = E3 ++ [s, k2] := by simp
  have vu3 : (SI.var ne').val (E3 ++ [s] ++ [k2]) = u' := by rw [e4, val_more (x := .var ne') (by show ne' < _; omega), vu2]
  have vc3 : (SI.var ne2).val (E3 ++ [s] ++ [k2]) = c2 := by rw [e4, val_more (x := .var ne2) (by show ne2 < _; omega), vc2]
  have vk3 : (SI.var (ne2 + 3)).val (E3 ++ [s] ++ [k2]) = k2 := val_end (by simp; omega)
  have vs3 : (SI.var (ne2 + 2)).val (E3 ++ [s] ++ [k2]) = s := by rw [val_more (x := .var (ne2 + 2)) (by show ne2 + 2 < _; simp; omega)]; exact val_end l3.symm
  have l4 : (E3 ++ [s] ++ [k2]).length = ne2 + 4 := by simp; omega
  intro f hf d3 hd3
  obtain ⟨wf, bd3, ef⟩ := add_facts (x := .var ne') (y := .var ne2) (c := .var (ne2 + 3)) (by rw [l4]; show ne' < _; omega) (by rw [l4]; show ne2 < _; omega) (by rw [l4]; show ne2 + 3 < _; omega) (by rw [vu3]; exact wu') (by rw [vc3]; exact wc2) (by rw [vk3]; exact bk2) hf hd3
  rw [vu3, vc3, vk3] at ef
  have e5 : E3 ++ [s] ++ [k2] ++ [f] ++ [d3] = E3 ++ [s, k2, f, d3] := by simp
  have hR : (ss.dropLast ++ [SI.var (ne2 + 2), SI.var (ne2 + 4)]).map (·.val (E3 ++ [s] ++ [k2] ++ [f] ++ [d3])) = S.dropLast ++ [s, f] := by
    rw [List.map_append, List.map_cons, List.map_cons, List.map_nil]
    congr 1
    · rw [e5, List.map_dropLast, vals_more (fun z hz => by rw [l3]; exact (h3 z hz).more (by omega)), ms]
    · congr 1
      · rw [show E3 ++ [s] ++ [k2] ++ [f] ++ [d3] = E3 ++ [s] ++ [k2] ++ [f, d3] by simp, val_more (x := .var (ne2 + 2)) (by rw [l4]; show ne2 + 2 < _; omega), vs3]
      · congr 1
        rw [val_more (x := .var (ne2 + 4)) (by show ne2 + 4 < _; simp; omega)]
        exact val_end l4.symm
  have wR : Wds (S.dropLast ++ [s, f]) := Wds.append (wds_dropLast h6) (wds_cons ws (wds_cons wf wds_nil))
  have lR : (S.dropLast ++ [s, f]).length = n := by simp [h7]; omega
  have hD0 : D.headD 0 = 0 := low_word hn lq lV g10 g8 hqi.2 hm g12
  have hval : BW * (vw (S.dropLast ++ [s, f]) + BW ^ n * (d1 + d2 + d3)) = vw V + m * vw q := p2_val hn lV g10 g11 h7 hD0 g12 h8 eu' ec2 es ef
  have hd0 : d1 + d2 + d3 = 0 := by
    have bR := vw_bounds wR
    have bq := vw_bounds hq.wd
    have hmq : m * vw q ≤ (BW - 1) * vw q := Int.mul_le_mul_of_nonneg_right (by have := wm.2; simp only [BW]; omega) bq.1
    have hlt : BW * (vw (S.dropLast ++ [s, f]) + BW ^ n * (d1 + d2 + d3)) < BW * BW ^ n := by
      have e : BW * BW ^ n = BW ^ (n + 1) := by rw [Int.pow_succ, Int.mul_comm]
      rw [hval, e]
      omega
    have := Int.lt_of_mul_lt_mul_left hlt (by decide)
    have hp := bw_pos n
    rcases bd1 with h | h <;> rcases bd2 with h' | h' <;> rcases bd3 with h'' | h'' <;> rw [h, h', h''] at this ⊢ <;> first | rfl | (exfalso; generalize BW ^ n = W at *; omega)
  rw [hd0, Int.mul_zero, Int.add_zero] at hval
  have app4 : E3 ++ [s] ++ [k2] ++ [f] ++ [d3] = env ++ ([m] ++ (e ++ [u', d1] ++ (e2 ++ [c2, d2] ++ [s, k2, f, d3]))) := by rw [← app3]; exact e5
  rw [app4] at hR ⊢
  refine hk _ _ (ne2 + 6) ⟨by rw [← app4, e5]; simp; omega, fun z hz => ?_, by simp [lss]; omega, by rw [hR]; exact wR, m, wm, by rw [hR]; exact hval⟩
  rcases List.mem_append.1 hz with hz | hz
  · exact (bd_dropLast h3 z hz).more (by omega)
  · simp at hz
    rcases hz with rfl | rfl
    · show ne2 + 2 < ne2 + 6; omega
    · show ne2 + 4 < ne2 + 6; omega

/-! ### all rounds -/
def mulN (q : List Int) (qi : Int) (ys : List SI) (k : List SI → Nat → Tree) : List SI → List SI → Nat → Tree
  | [], ts, ne => k ts ne
  | x :: xs, ts, ne => p1N x ys ts ne fun T ne' => p2 q qi T ne' fun ts' ne2 => mulN q qi ys k xs ts' ne2
def mulA (q : List Int) (qi : Int) (xs ys : List SI) (ne : Nat) (k : List SI → Nat → Tree) : Tree :=
  p1F (xs.headD (.lit 0)) ys ne fun T ne' => p2 q qi T ne' fun ts ne2 => mulN q qi ys (fun os ne3 => redT q os ne3 k) xs.tail ts ne2

/-- What remains to be multiplied. -/
def MulI (q X Y t l : List Int) : Prop := vw l < 2 * vw q ∧ ∃ M, BW ^ X.length * vw l = vw t + vw X * vw Y + M * vw q
theorem round_bound {x y t Q : Int} (hx : Wd x) (hy : 0 ≤ y) (hyq : y < Q) (ht : t < 2 * Q) : t + x * y < (BW + 1) * Q := by
  have h1 : x * y ≤ (BW - 1) * y := Int.mul_le_mul_of_nonneg_right (by have := hx.2; simp only [BW]; omega) hy
  have h2 : (BW - 1) * y ≤ (BW - 1) * Q := Int.mul_le_mul_of_nonneg_left (by omega) (by simp only [BW]; decide)
  have e : (BW + 1) * Q = (BW - 1) * Q + 2 * Q := by
    rw [Int.add_mul, Int.sub_mul]
    omega
  omega
theorem room {n : Nat} {q : List Int} (hq : WQ n q) {T : Int} (h : T < (BW + 1) * vw q) : T + (BW - 1) * vw q < BW ^ (n + 1) := by
  have e : (BW + 1) * vw q + (BW - 1) * vw q = BW * (2 * vw q) := by
    rw [Int.add_mul, Int.sub_mul, ← Int.mul_assoc, Int.mul_comm BW 2, Int.mul_assoc]
    omega
  have : BW * (2 * vw q) ≤ BW * BW ^ n := Int.mul_le_mul_of_nonneg_left hq.low (by decide)
  rw [Int.pow_succ, Int.mul_comm _ BW]
  omega
theorem less_two {T m Q l : Int} (hT : T < (BW + 1) * Q) (hm : Wd m) (hQ : 0 ≤ Q) (h : BW * l = T + m * Q) : l < 2 * Q := by
  have h1 : m * Q ≤ (BW - 1) * Q := Int.mul_le_mul_of_nonneg_right (by have := hm.2; simp only [BW]; omega) hQ
  have e : (BW + 1) * Q + (BW - 1) * Q = BW * (2 * Q) := by
    rw [Int.add_mul, Int.sub_mul, ← Int.mul_assoc, Int.mul_comm BW 2, Int.mul_assoc]
    omega
  have : BW * l < BW * (2 * Q) := by omega
  exact Int.lt_of_mul_lt_mul_left this (by decide)

theorem mulN_ok (hA : PAsk A) (hq : WQ n q) {qi : Int} (hqi : QInv q qi) (hn : 2 ≤ n) {ys : List SI} {k : List SI → Nat → Tree} {Y : List Int} (ly : ys.length = n) (wY : Wds Y) (hY : vw Y < vw q) : ∀ (xs ts : List SI) (ne : Nat) (env : List Int), ts.length = n → ne = env.length → (∀ y ∈ ys, Bd ne y) → (∀ x ∈ xs, Bd ne x) → (∀ t ∈ ts, Bd ne t) →
    ys.map (·.val env) = Y → Wds (xs.map (·.val env)) → Wds (ts.map (·.val env)) → vw (ts.map (·.val env)) < 2 * vw q →
    (∀ (e : List Int) (os : List SI) (ne' : Nat), ROk (MulI q (xs.map (·.val env)) Y (ts.map (·.val env))) env e os ne' n → (k os ne').holds A (env ++ e)) → (mulN q qi ys k xs ts ne).holds A env
  | [], ts, ne, env, lt, hne, _, _, ht, _, _, wt, hlt, hk => by
    have := hk [] ts ne ⟨by simpa using hne, ht, lt, by simpa using wt, by
      rw [List.append_nil]
      exact ⟨hlt, 0, by simp [vw]⟩⟩
    simp only [List.append_nil] at this
    exact this
  | x :: xs, ts, ne, env, lt, hne, hy, hx, ht, kY, wx, wt, hlt, hk => by
    obtain ⟨wx0, wxs⟩ := Wds.tail (by simpa using wx)
    have bY := vw_bounds wY
    refine p1N_ok hA (by omega) ly lt hne (hx x (List.mem_cons_self ..)) hy ht wx0 (by rw [kY]; exact wY) wt fun e T ne' h => ?_
    rw [kY] at h
    have hv := h.val
    have hTb := round_bound wx0 bY.1 hY hlt
    have hle : ne ≤ ne' := by rw [h.ne, hne]; simp
    refine p2_ok hA hq hqi hn h.len h.ne h.ob h.wd (by rw [hv]; exact room hq hTb) fun e2 os ne2 g => ?_
    obtain ⟨m, wm, em⟩ := g.val
    rw [hv] at em
    have hos : vw (os.map (·.val (env ++ e ++ e2))) < 2 * vw q := less_two hTb wm (vw_bounds hq.wd).1 em
    have hle2 : ne' ≤ ne2 := by rw [g.ne, h.ne]; simp
    have eE : env ++ e ++ e2 = env ++ (e ++ e2) := by simp
    have mx : xs.map (·.val (env ++ e ++ e2)) = xs.map (·.val env) := by rw [eE]; exact vals_more fun z hz => by rw [← hne]; exact hx z (List.mem_cons_of_mem _ hz)
    have my : ys.map (·.val (env ++ e ++ e2)) = Y := by rw [eE, vals_more (by rw [← hne]; exact hy), kY]
    refine mulN_ok hA hq hqi hn ly wY hY xs os ne2 (env ++ e ++ e2) g.len g.ne (fun z hz => (hy z hz).more (by omega)) (fun z hz => (hx z (List.mem_cons_of_mem _ hz)).more (by omega)) g.ob my (by rw [mx]; exact wxs) g.wd hos fun e3 rs ne3 f => ?_
    rw [mx] at f
    have e6 : env ++ e ++ e2 ++ e3 = env ++ (e ++ e2 ++ e3) := by simp
    obtain ⟨f1, M, f2⟩ := f.val
    have := hk (e ++ e2 ++ e3) rs ne3 ⟨by rw [← e6]; exact f.ne, f.ob, f.len, by rw [← e6]; exact f.wd, ?_⟩
    · rw [← e6] at this; exact this
    rw [← e6]
    refine ⟨f1, m + BW * M, ?_⟩
    rw [List.map_cons, List.length_cons, Int.pow_succ, Int.mul_comm (BW ^ _) BW, Int.mul_assoc, f2, Int.mul_add, Int.mul_add, em]
    simp only [vw]
    rw [Int.add_mul, Int.add_mul, ← Int.mul_assoc, ← Int.mul_assoc]
    simp only [BW]
    omega

/-- The product, in Montgomery's form. -/
def MulM (n : Nat) (q X Y r : List Int) : Prop := r.length = n ∧ Wds r ∧ vw r < vw q ∧ vw q ∣ vw r * BW ^ n - vw X * vw Y
theorem mulA_ok (hW : WAsk A n q) (hA : PAsk A) (hq : WQ n q) {qi : Int} (hqi : QInv q qi) (hn : 2 ≤ n) {xs ys : List SI} {ne : Nat} {env : List Int} {k : List SI → Nat → Tree} (lx : xs.length = n) (ly : ys.length = n) (hne : ne = env.length) (hx : ∀ x ∈ xs, Bd ne x) (hy : ∀ y ∈ ys, Bd ne y)
    (wx : Wds (xs.map (·.val env))) (wy : Wds (ys.map (·.val env))) (hY : vw (ys.map (·.val env)) < vw q)
    (hk : ∀ (e : List Int) (os : List SI) (ne' : Nat), ROk (MulM n q (xs.map (·.val env)) (ys.map (·.val env))) env e os ne' n → (k os ne').holds A (env ++ e)) : (mulA q qi xs ys ne k).holds A env := by
  have bY := vw_bounds wy
  match xs, lx with
  | [], h => simp at h; omega
  | x :: xs, lx =>
    obtain ⟨wx0, wxs⟩ := Wds.tail (by simpa using wx)
    generalize hYv : ys.map (·.val env) = Y at *
    refine p1F_ok hA (by omega) ly hne (hx x (List.mem_cons_self ..)) hy wx0 (by rw [hYv]; exact wy) fun e T ne' h => ?_
    rw [hYv] at h
    have hv := h.val
    have hv : vw (T.map (·.val (env ++ e))) = x.val env * vw Y := hv
    have hTb : x.val env * vw Y < (BW + 1) * vw q := by
      have := round_bound (t := 0) wx0 bY.1 hY (by omega)
      omega
    have hle : ne ≤ ne' := by rw [h.ne, hne]; simp
    refine p2_ok hA hq hqi hn h.len h.ne h.ob h.wd (by rw [hv]; exact room hq hTb) fun e2 ts ne2 g => ?_
    obtain ⟨m, wm, em⟩ := g.val
    rw [hv] at em
    have hts : vw (ts.map (·.val (env ++ e ++ e2))) < 2 * vw q := less_two hTb wm (vw_bounds hq.wd).1 em
    have hle2 : ne' ≤ ne2 := by rw [g.ne, h.ne]; simp
    have eE : env ++ e ++ e2 = env ++ (e ++ e2) := by simp
    have mx : xs.map (·.val (env ++ e ++ e2)) = xs.map (·.val env) := by rw [eE]; exact vals_more fun z hz => by rw [← hne]; exact hx z (List.mem_cons_of_mem _ hz)
    have my : ys.map (·.val (env ++ e ++ e2)) = Y := by rw [eE, vals_more (by rw [← hne]; exact hy), hYv]
    refine mulN_ok hA hq hqi hn ly wy hY xs ts ne2 (env ++ e ++ e2) g.len g.ne (fun z hz => (hy z hz).more (by omega)) (fun z hz => (hx z (List.mem_cons_of_mem _ hz)).more (by omega)) g.ob my (by rw [mx]; exact wxs) g.wd hts fun e3 os ne3 f => ?_
    rw [mx] at f
    obtain ⟨f1, M, f2⟩ := f.val
    refine redT_ok hW hq f.len f.ne f.ob f.wd fun e4 rs ne4 r => ?_
    have e6 : env ++ e ++ e2 ++ e3 ++ e4 = env ++ (e ++ e2 ++ e3 ++ e4) := by simp
    obtain ⟨r1, r2, r3⟩ := r.val
    have := hk (e ++ e2 ++ e3 ++ e4) rs ne4 ⟨by rw [← e6]; exact r.ne, r.ob, r.len, by rw [← e6]; exact r.wd, ?_⟩
    · rw [← e6] at this; exact this
    rw [← e6]
    have bo := vw_bounds f.wd
    refine ⟨by rw [List.length_map, r.len], r2, by rw [r3]; split <;> omega, ?_⟩
    -- the equation
    have key : BW ^ n * vw (os.map (·.val (env ++ e ++ e2 ++ e3))) = vw ((x :: xs).map (·.val env)) * vw Y + (m + BW * M) * vw q := by
      have hp : BW ^ n = BW * BW ^ (xs.map (·.val env)).length := by
        rw [Int.mul_comm, ← Int.pow_succ]
        congr 1
        simp at lx ⊢
        omega
      rw [hp, Int.mul_assoc, f2, Int.mul_add, Int.mul_add, em]
      simp only [List.map_cons, vw]
      rw [Int.add_mul, Int.add_mul, ← Int.mul_assoc, ← Int.mul_assoc]
      simp only [BW]
      omega
    have hd : vw q ∣ BW ^ n * vw (os.map (·.val (env ++ e ++ e2 ++ e3))) - vw ((x :: xs).map (·.val env)) * vw Y := ⟨m + BW * M, by rw [key, Int.mul_comm (vw q)]; omega⟩
    rw [r3]
    split
    · rw [Int.mul_comm]; exact hd
    · rw [Int.sub_mul, Int.mul_comm (vw (os.map _))]
      have : ∀ a b c : Int, a - b - c = a - c - b := by intro a b c; omega
      rw [this]
      exact Int.dvd_sub hd (Int.dvd_mul_right _ _)
end
end Eng
