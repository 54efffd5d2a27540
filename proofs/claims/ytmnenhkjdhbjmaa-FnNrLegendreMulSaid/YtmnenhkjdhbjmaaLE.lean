/-
  The symbol's inner rounds as plain arithmetic: what the rounds with rounded numbers keep about the numbers themselves. No program in sight.
-/
import Derived.Test.YtmnenhkjdhbjmaaEngD
import Derived.Test.YtmnenhkjdhbjmaaSym
namespace Eng
open Jac
theorem near_cong {P Q f g x y X Y k A s e : Int} (hP : 0 < P) (hx : Near (P * Q) s e x X) (hy : Near (P * Q) s e y Y) (hk : P * k = f * X + g * Y) (hA : P * A = f * x + g * y) : A % Q = k % Q := by
  obtain ⟨c, hc⟩ := Int.dvd_of_emod_eq_zero hx.lo
  obtain ⟨d, hd⟩ := Int.dvd_of_emod_eq_zero hy.lo
  have e1 : x = X + P * Q * c := by omega
  have e2 : y = Y + P * Q * d := by omega
  have e3 : P * A = P * (k + Q * (f * c + g * d)) := by
    rw [hA, Int.mul_add, hk, e1, e2]; grind
  have e4 := Int.eq_of_mul_eq_mul_left (show P ≠ 0 by omega) e3
  rw [e4, Int.add_mul_emod_self_left]

/-- What some rounds keep: X, Y stand for a, b; U, V for A, B. -/
structure LG (P s e X Y a b l0 U V f0 g0 f1 g1 A B l : Int) : Prop where
  g : GI P X Y U V f0 g0 f1 g1
  sum : X + Y ≤ P * (U + V)
  ea : P * A = f0 * a + g0 * b
  eb : P * B = f1 * a + g1 * b
  sy : J A B * l = J a b * l0
  ls : l = 1 ∨ l = -1

/-- How the rounded numbers stand to the numbers. -/
structure Nears (s e X Y a b : Int) : Prop where
  s1 : 1 ≤ s
  e0 : 0 ≤ e
  x : Near (2 ^ 32) s e a X
  y : Near (2 ^ 32) s e b Y
  big : e = 0 ∨ 2 ^ 31 * e ≤ s * (X + Y)

theorem LG.not_both {P s e X Y a b l0 U V f0 g0 f1 g1 A B l : Int} (h : LG P s e X Y a b l0 U V f0 g0 f1 g1 A B l) (hn : Nears s e X Y a b) (hP : P ≤ 2 ^ 30) : ¬ (A < 0 ∧ B < 0) := by
  rintro ⟨h1, h2⟩
  have hp := h.g.p
  have s1 := near_sum h.g.n0 hn.e0 hn.x hn.y h.g.ea
  have s2 := near_sum h.g.n1 hn.e0 hn.x hn.y h.g.eb
  rw [← h.ea] at s1
  rw [← h.eb] at s2
  have c1 : s * U - e ≤ A := by
    apply Int.le_of_mul_le_mul_left _ (show 0 < P by omega)
    rw [Int.mul_sub, Int.mul_left_comm P s U]; exact s1.1
  have c2 : s * V - e ≤ B := by
    apply Int.le_of_mul_le_mul_left _ (show 0 < P by omega)
    rw [Int.mul_sub, Int.mul_left_comm P s V]; exact s2.1
  have c3 : 2 * e ≤ s * U + s * V := by
    rw [← Int.mul_add]
    have hs := hn.s1
    have he := hn.e0
    have n1 : 0 ≤ s * (U + V) := Int.mul_nonneg (by omega) (by have := h.g.a; have := h.g.b; omega)
    rcases hn.big with h0 | h0
    · omega
    · have b1 : s * (X + Y) ≤ s * (P * (U + V)) := Int.mul_le_mul_of_nonneg_left h.sum (by omega)
      have b2 : P * (s * (U + V)) ≤ 2 ^ 30 * (s * (U + V)) := Int.mul_le_mul_of_nonneg_right hP n1
      rw [Int.mul_left_comm] at b1
      generalize s * (U + V) = T at *
      generalize P * T = W at *
      omega
  omega

def tw (w : Int) : Int := if w % 8 = 3 ∨ w % 8 = 5 then -1 else 1
def rw' (a b : Int) : Int := if a % 4 = 3 ∧ b % 4 = 3 then -1 else 1
theorem tw_cong {a b : Int} (h : a % 8 = b % 8) : tw a = tw b := by unfold tw; rw [h]
theorem tw_sq (a : Int) : tw a * tw a = 1 := by unfold tw; split <;> rfl
theorem rw_sq (a b : Int) : rw' a b * rw' a b = 1 := by unfold rw'; split <;> rfl
theorem pm_tw {l : Int} (h : l = 1 ∨ l = -1) (a : Int) : l * tw a = 1 ∨ l * tw a = -1 := by
  unfold tw; rcases h with rfl | rfl <;> split <;> simp
theorem pm_rw {l : Int} (h : l = 1 ∨ l = -1) (a b : Int) : l * rw' a b = 1 ∨ l * rw' a b = -1 := by
  unfold rw'; rcases h with rfl | rfl <;> split <;> simp

section
variable {P s e X Y a b l0 U V f0 g0 f1 g1 A B l : Int}
theorem LG.cong (h : LG P s e X Y a b l0 U V f0 g0 f1 g1 A B l) (hn : Nears s e X Y a b) {Q : Int} (hP : P * Q = 2 ^ 32) : A % Q = U % Q ∧ B % Q = V % Q := by
  have hp := h.g.p
  have hx := hn.x
  have hy := hn.y
  rw [← hP] at hx hy
  exact ⟨near_cong (by omega) hx hy h.g.ea h.ea, near_cong (by omega) hx hy h.g.eb h.eb⟩
theorem mod8 {A U Q R : Int} (hQ : Q = 8 * R) (h : A % Q = U % Q) : A % 8 = U % 8 := by
  have hd : (8 : Int) ∣ Q := ⟨R, hQ⟩
  rw [← Int.emod_emod_of_dvd A hd, h, Int.emod_emod_of_dvd U hd]
theorem LG.cong8 (h : LG P s e X Y a b l0 U V f0 g0 f1 g1 A B l) (hn : Nears s e X Y a b) {R : Int} (hP : P * (8 * R) = 2 ^ 32) : A % 8 = U % 8 ∧ B % 8 = V % 8 := by
  have h1 := h.cong hn hP
  exact ⟨mod8 rfl h1.1, mod8 rfl h1.2⟩

theorem LG.even (h : LG P s e X Y a b l0 U V f0 g0 f1 g1 A B l) (hn : Nears s e X Y a b) {R : Int} (hP : P * (8 * R) = 2 ^ 32) (he : U % 2 = 0) :
    LG (2 * P) s e X Y a b l0 (U / 2) V f0 g0 (2 * f1) (2 * g1) (A / 2) B (l * tw V) := by
  obtain ⟨cA, cB⟩ := h.cong8 hn hP
  obtain ⟨g, sum, ea, eb, sy, ls⟩ := h
  obtain ⟨k, hk⟩ : ∃ k, A = 2 * k := ⟨A / 2, by omega⟩
  have hk2 : A / 2 = k := by omega
  have hU : 2 * (U / 2) = U := by omega
  have hoB : B % 2 = 1 := by have := g.od; omega
  refine ⟨g.even he, ?_, ?_, ?_, ?_, pm_tw ls V⟩
  · have : 2 * P * (U / 2 + V) = P * (U + V) + P * V := by rw [Int.mul_comm 2 P, Int.mul_assoc, Int.mul_add 2, hU]; grind
    have := Int.mul_nonneg (show 0 ≤ P by have := g.p; omega) g.b
    omega
  · rw [← ea, hk2, hk, Int.mul_comm 2 P, Int.mul_assoc]
  · rw [Int.mul_assoc, eb, Int.mul_add]; simp only [Int.mul_assoc]
  · rw [← sy, hk2, hk, J_even hoB, ← tw_cong cB]
    unfold tw; split <;> simp [Int.mul_comm, Int.mul_neg]
theorem LG.odd (h : LG P s e X Y a b l0 U V f0 g0 f1 g1 A B l) (hn : Nears s e X Y a b) {R : Int} (hP : P * (8 * R) = 2 ^ 32) (ho : U % 2 = 1) (hle : V ≤ U) :
    LG (2 * P) s e X Y a b l0 ((U - V) / 2) V (f0 - f1) (g0 - g1) (2 * f1) (2 * g1) ((A - B) / 2) B (l * tw V) := by
  obtain ⟨cA, cB⟩ := h.cong8 hn hP
  obtain ⟨g, sum, ea, eb, sy, ls⟩ := h
  have hoV := g.od
  obtain ⟨k, hk⟩ : ∃ k, A - B = 2 * k := ⟨(A - B) / 2, by omega⟩
  have hk2 : (A - B) / 2 = k := by omega
  have hU : 2 * ((U - V) / 2 + V) = U + V := by omega
  have hoB : B % 2 = 1 := by omega
  refine ⟨g.odd ho hle, ?_, ?_, ?_, ?_, pm_tw ls V⟩
  · rw [Int.mul_comm 2 P, Int.mul_assoc, hU]; exact sum
  · have : 2 * P * k = P * A - P * B := by rw [← Int.mul_sub, hk, Int.mul_comm 2 P, Int.mul_assoc]
    rw [hk2, this, ea, eb, Int.sub_mul, Int.sub_mul]; omega
  · rw [Int.mul_assoc, eb, Int.mul_add]; simp only [Int.mul_assoc]
  · have hj : J A B = J (2 * k) B := J_dvd ⟨1, by omega⟩
    rw [← sy, hk2, hj, J_even hoB, ← tw_cong cB]
    unfold tw; split <;> simp [Int.mul_comm, Int.mul_neg]
theorem LG.swap (h : LG P s e X Y a b l0 U V f0 g0 f1 g1 A B l) (hn : Nears s e X Y a b) {R : Int} (hP : P * (8 * R) = 2 ^ 32) (hR : P ≤ 2 ^ 30) (ho : U % 2 = 1) (hlt : U < V) :
    LG (2 * P) s e X Y a b l0 ((V - U) / 2) U (f1 - f0) (g1 - g0) (2 * f0) (2 * g0) ((B - A) / 2) A (l * rw' V U * tw U) := by
  obtain ⟨cA, cB⟩ := h.cong8 hn hP
  have nb := h.not_both hn hR
  obtain ⟨g, sum, ea, eb, sy, ls⟩ := h
  have hoV := g.od
  obtain ⟨k, hk⟩ : ∃ k, B - A = 2 * k := ⟨(B - A) / 2, by omega⟩
  have hk2 : (B - A) / 2 = k := by omega
  have hU : 2 * ((V - U) / 2 + U) = U + V := by omega
  have hoB : B % 2 = 1 := by omega
  have hoA : A % 2 = 1 := by omega
  refine ⟨g.swap ho hlt, ?_, ?_, ?_, ?_, pm_tw (pm_rw ls _ _) U⟩
  · rw [Int.mul_comm 2 P, Int.mul_assoc, hU]; exact sum
  · have : 2 * P * k = P * B - P * A := by rw [← Int.mul_sub, hk, Int.mul_comm 2 P, Int.mul_assoc]
    rw [hk2, this, ea, eb, Int.sub_mul, Int.sub_mul]; omega
  · rw [Int.mul_assoc, ea, Int.mul_add]; simp only [Int.mul_assoc]
  · have hj : J B A = J (2 * k) A := J_dvd ⟨1, by omega⟩
    have hr := J_recip hoB hoA (by omega)
    rw [hj, J_even hoA] at hr
    rw [← sy, hk2, hr]
    have e1 : (if A % 8 = 3 ∨ A % 8 = 5 then (-1 : Int) else 1) = tw U := by rw [← tw_cong cA]; rfl
    have e2 : (if B % 4 = 3 ∧ A % 4 = 3 then (-1 : Int) else 1) = rw' V U := by
      unfold rw'
      by_cases h : V % 4 = 3 ∧ U % 4 = 3
      · rw [if_pos h, if_pos (by omega)]
      · rw [if_neg h, if_neg (by omega)]
    rw [e1, e2]
    have t1 := tw_sq U
    have t2 := rw_sq V U
    generalize tw U = T at *
    generalize rw' V U = W at *
    generalize J k A = Z at *
    grind
/-- At the start. -/
theorem LG.zero (hx : 0 ≤ X) (hy : 0 ≤ Y) (ho : Y % 2 = 1) (hl : l = 1 ∨ l = -1) : LG 1 s e X Y a b l X Y 1 0 0 1 a b l :=
  ⟨GI.zero hx hy ho, by omega, by omega, by omega, rfl, hl⟩

/-- At the end of a turn: the numbers without signs. -/
theorem LG.turn (h : LG (2 ^ 30) s e X Y a b l0 U V f0 g0 f1 g1 A B l) (hn : Nears s e X Y a b) :
    B % 2 = 1 ∧ J (ab' A) (ab' B) * (if A < 0 then (if V % 4 = 3 then -l else l) else l) = J a b * l0 := by
  have nb := h.not_both hn (by decide)
  obtain ⟨cA, cB⟩ := h.cong hn (Q := 4) (by decide)
  obtain ⟨g, sum, ea, eb, sy, ls⟩ := h
  have hoV := g.od
  have hoB : B % 2 = 1 := by omega
  refine ⟨hoB, ?_⟩
  have hb : ∀ z, J z (ab' B) = J z B := fun z => by
    unfold ab'
    split
    · exact J_negr ..
    · rfl
  rw [hb, ← sy]
  unfold ab'
  by_cases h0 : A < 0
  · rw [if_pos h0, if_pos h0, J_negl hoB, sg_half hoB (by omega), cB]
    split <;> simp [Int.mul_neg, Int.neg_mul]
  · rw [if_neg h0, if_neg h0]
end
end Eng
