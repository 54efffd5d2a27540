/-
  Numbers by words: sums and differences modulo m.
-/
import Derived.Test.YtakddcclpocejaaPL
namespace Eng
open Go

theorem vw_bounds : ∀ {l : List Int}, Wds l → 0 ≤ vw l ∧ vw l < BW ^ l.length
  | [], _ => by simp [vw]
  | x :: l, h => by
    obtain ⟨h1, h2⟩ := vw_bounds (l := l) fun y hy => h y (List.mem_cons_of_mem _ hy)
    obtain ⟨h3, h4⟩ := h x (List.mem_cons_self ..)
    simp only [vw, List.length_cons, Int.pow_succ, BW] at *
    omega
theorem vw_inj : ∀ {l m : List Int}, l.length = m.length → Wds l → Wds m → vw l = vw m → l = m
  | [], [], _, _, _, _ => rfl
  | [], _ :: _, h, _, _, _ => by simp at h
  | _ :: _, [], h, _, _, _ => by simp at h
  | x :: l, y :: m, h, hl, hm, he => by
    have h1 := hl x (List.mem_cons_self ..)
    have h2 := hm y (List.mem_cons_self ..)
    simp only [vw, Wd] at *
    have hxy : x = y := by omega
    subst hxy
    rw [vw_inj (by simpa using h) (fun z hz => hl z (List.mem_cons_of_mem _ hz)) (fun z hz => hm z (List.mem_cons_of_mem _ hz)) (by omega)]
def SumMod (a b m ys : List Int) : Prop := ys.length = a.length ∧ Wds ys ∧ (vw a < vw m → vw b < vw m → vw ys = if vw a + vw b < vw m then vw a + vw b else vw a + vw b - vw m)
def DifMod (a b m ys : List Int) : Prop := ys.length = a.length ∧ Wds ys ∧ (vw a < vw m → vw b < vw m → vw ys = if vw b ≤ vw a then vw a - vw b else vw a - vw b + vw m)

/-- The sum was too long: less m it is the sum modulo m. -/
theorem sum_less {a b m o o' : List Int} {c c' : Int} (wa : Wds a) (wb : Wds b) (wm : Wds m) (lb : b.length = a.length) (lm : m.length = a.length) (wo : Wds o) (wo' : Wds o') (ho : o.length = a.length) (ho' : o'.length = o.length)
    (hc : c = 0 ∨ c = 1) (hc' : c' = 0 ∨ c' = 1) (h : vw o + BW ^ a.length * c = vw a + vw b) (h' : vw o' - BW ^ o.length * c' = vw o - vw m) (hge : c = 1 ∨ vw m ≤ vw o) : SumMod a b m o' := by
  have ba := vw_bounds wa
  have bb := vw_bounds wb
  have bm := vw_bounds wm
  have bo := vw_bounds wo
  have bo' := vw_bounds wo'
  rw [lb] at bb
  rw [lm] at bm
  rw [ho] at bo h'
  rw [ho', ho] at bo'
  refine ⟨by omega, wo', fun h1 h2 => ?_⟩
  generalize BW ^ a.length = W at *
  rcases hc with rfl | rfl <;> rcases hc' with rfl | rfl <;> simp only [Int.mul_zero, Int.mul_one] at * <;> split <;> omega
theorem sum_same {a b m o : List Int} {c : Int} (wo : Wds o) (ho : o.length = a.length) (hc : c = 0) (h : vw o + BW ^ a.length * c = vw a + vw b) (hlt : vw o < vw m) : SumMod a b m o := by
  refine ⟨ho, wo, fun h1 h2 => ?_⟩
  subst hc
  simp only [Int.mul_zero] at h
  rw [if_pos (by omega)]
  omega
theorem dif_more {a b m o o' : List Int} {c c' : Int} (wa : Wds a) (wb : Wds b) (wm : Wds m) (wo : Wds o) (wo' : Wds o') (ho : o.length = a.length) (ho' : o'.length = o.length)
    (hc : c = 1) (hc' : c' = 0 ∨ c' = 1) (h : vw o - BW ^ a.length * c = vw a - vw b) (h' : vw o' + BW ^ o.length * c' = vw o + vw m) : DifMod a b m o' := by
  have ba := vw_bounds wa
  have bb := vw_bounds wb
  have bm := vw_bounds wm
  have bo := vw_bounds wo
  have bo' := vw_bounds wo'
  rw [ho] at bo h'
  rw [ho', ho] at bo'
  refine ⟨by omega, wo', fun h1 h2 => ?_⟩
  generalize BW ^ a.length = W at *
  subst hc
  rcases hc' with rfl | rfl <;> simp only [Int.mul_zero, Int.mul_one] at * <;> split <;> omega
theorem dif_same {a b m o : List Int} {c : Int} (wo : Wds o) (ho : o.length = a.length) (hc : c = 0) (h : vw o - BW ^ a.length * c = vw a - vw b) : DifMod a b m o := by
  refine ⟨ho, wo, fun h1 h2 => ?_⟩
  have bo := vw_bounds wo
  subst hc
  simp only [Int.mul_zero] at h
  rw [if_pos (by omega)]
  omega
theorem sum_one {a b m x y : List Int} (hx : SumMod a b m x) (hy : SumMod a b m y) (h1 : vw a < vw m) (h2 : vw b < vw m) : x = y := by
  obtain ⟨l1, w1, e1⟩ := hx
  obtain ⟨l2, w2, e2⟩ := hy
  exact vw_inj (by omega) w1 w2 ((e1 h1 h2).trans (e2 h1 h2).symm)
theorem dif_one {a b m x y : List Int} (hx : DifMod a b m x) (hy : DifMod a b m y) (h1 : vw a < vw m) (h2 : vw b < vw m) : x = y := by
  obtain ⟨l1, w1, e1⟩ := hx
  obtain ⟨l2, w2, e2⟩ := hy
  exact vw_inj (by omega) w1 w2 ((e1 h1 h2).trans (e2 h1 h2).symm)
end Eng
