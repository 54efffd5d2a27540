/-
  Elements as numbers times a power of 2: products and powers. No conditions.
-/
import Derived.Test.YtajhellohcibiaaDoorSA
namespace Eng
open Go
section
variable {n : Nat} {q : List Int}
/-- X stands for the number x. -/
def Rep (n : Nat) (q X : List Int) (x : Int) : Prop := vw q ∣ vw X - x * BW ^ n
theorem cancel_bw (hq1 : vw q % 2 = 1) {x : Int} (h : vw q ∣ x * BW ^ n) : vw q ∣ x := by
  rw [bw_two] at h
  exact odd_dvd_pow hq1 _ h
theorem rep_mul (hq1 : vw q % 2 = 1) {X Y Z : List Int} {x y : Int} (hx : Rep n q X x) (hy : Rep n q Y y) (h : MulM n q X Y Z) : Rep n q Z (x * y) := by
  obtain ⟨_, _, _, d, hd⟩ := h
  obtain ⟨a, ha⟩ := hx
  obtain ⟨b, hb⟩ := hy
  refine cancel_bw (n := n) hq1 ?_
  generalize BW ^ n = R at *
  generalize vw X = X at *
  generalize vw Y = Y at *
  generalize vw Z = Z at *
  generalize vw q = Q at *
  refine ⟨d + a * Y + x * R * b, ?_⟩
  have h1 : Z * R = X * Y + Q * d := by omega
  have h2 : X = x * R + Q * a := by omega
  have h3 : Y = y * R + Q * b := by omega
  have e : (Z - x * y * R) * R = Z * R - (x * R) * (y * R) := by grind
  rw [e, h1]
  have e2 : X * Y = (x * R) * (y * R) + Q * (a * Y + x * R * b) := by
    have : X * Y = x * R * Y + Q * a * Y := by rw [← Int.add_mul, ← h2]
    rw [this]
    have : x * R * Y = x * R * (y * R) + x * R * (Q * b) := by rw [← Int.mul_add, ← h3]
    rw [this]
    grind
  rw [e2]
  grind
theorem rep_pow (hq1 : vw q % 2 = 1) {X Z : List Int} {x : Int} {k : Nat} (hk : 1 ≤ k) (hx : Rep n q X x) (h : PowM n q X k Z) : Rep n q Z (x ^ k) := by
  obtain ⟨_, _, _, d, hd⟩ := h
  have hp : vw q ∣ vw X ^ k - (x * BW ^ n) ^ k := by
    have : ∀ (k : Nat) (a b c : Int), c ∣ a - b → c ∣ a ^ k - b ^ k := by
      intro k a b c h
      induction k with
      | zero => simp
      | succ k ih =>
        rw [Int.pow_succ, Int.pow_succ]
        have : a ^ k * a - b ^ k * b = (a ^ k - b ^ k) * a + b ^ k * (a - b) := by grind
        rw [this]
        exact Int.dvd_add (Int.dvd_mul_of_dvd_left ih) (Int.dvd_mul_of_dvd_right h)
    exact this k _ _ _ hx
  have e : vw q ∣ (vw Z - x ^ k * BW ^ n) * (BW ^ n) ^ (k - 1) := by
    obtain ⟨c, hc⟩ := hp
    refine ⟨d + c, ?_⟩
    have e1 : (x * BW ^ n) ^ k = x ^ k * BW ^ n * (BW ^ n) ^ (k - 1) := by
      rw [Int.mul_pow, Int.mul_assoc, Int.mul_comm (BW ^ n), ← Int.pow_succ, show (k - 1).succ = k by omega]
    rw [e1] at hc
    rw [Int.sub_mul, Int.mul_add]
    omega
  rw [bw_two, ← Int.pow_mul] at e
  rw [← bw_two] at e
  exact odd_dvd_pow hq1 _ e
theorem rep_eq {X Y : List Int} {x y : Int} (hX : Rep n q X x) (hY : Rep n q Y y) (lx : X.length = Y.length) (wx : Wds X) (wy : Wds Y) (bx : vw X < vw q) (bY : vw Y < vw q) (h : vw q ∣ x - y) : X = Y := by
  refine vw_inj lx wx wy ?_
  have b1 := vw_bounds wx
  have b2 := vw_bounds wy
  have hd : vw q ∣ vw X - vw Y := by
    have e : vw X - vw Y = (vw X - x * BW ^ n) - (vw Y - y * BW ^ n) + (x - y) * BW ^ n := by rw [Int.sub_mul]; omega
    rw [e]
    exact Int.dvd_add (Int.dvd_sub hX hY) (Int.dvd_mul_of_dvd_left h)
  obtain ⟨t, ht⟩ := hd
  rcases Int.lt_trichotomy t 0 with h | h | h
  · have : vw q * t ≤ vw q * (-1) := Int.mul_le_mul_of_nonneg_left (by omega) (by omega)
    omega
  · rw [h, Int.mul_zero] at ht; omega
  · have : vw q * 1 ≤ vw q * t := Int.mul_le_mul_of_nonneg_left (by omega) (by omega)
    omega
theorem rep_dvd (hq1 : vw q % 2 = 1) {X Y : List Int} {x y : Int} (hX : Rep n q X x) (hY : Rep n q Y y) (h : vw X = vw Y) : vw q ∣ x - y := by
  refine cancel_bw (n := n) hq1 ?_
  have := Int.dvd_sub hY hX
  rw [h] at this
  have e : vw Y - y * BW ^ n - (vw Y - x * BW ^ n) = (x - y) * BW ^ n := by rw [Int.sub_mul]; omega
  rwa [e] at this
end
end Eng
