/-
  The symbol of two odd numbers with signs, by Gauss' lemma: its rules. No conditions.
-/
import Derived.Test.YtmnenhkjdhbjmaaJac
namespace Jac
def sg (k : Nat) : Int := if k % 2 = 0 then 1 else -1
theorem sg_add (a b : Nat) : sg (a + b) = sg a * sg b := by
  unfold sg
  rcases (show a % 2 = 0 ∨ a % 2 = 1 by omega) with h | h <;> rcases (show b % 2 = 0 ∨ b % 2 = 1 by omega) with h' | h' <;> simp [Nat.add_mod, h, h']
theorem sg_mod {a b : Nat} (h : a % 2 = b % 2) : sg a = sg b := by unfold sg; rw [h]
theorem sg_sq (a : Nat) : sg a * sg a = 1 := by unfold sg; split <;> rfl
def jn (n a : Nat) : Int := if Nat.gcd n a = 1 then sg (mu n a) else 0
theorem jn_congr {n a b : Nat} (h : a % n = b % n) : jn n a = jn n b := by
  have hg : Nat.gcd n a = Nat.gcd n b := by rw [Nat.gcd_rec n a, Nat.gcd_rec n b, h]
  unfold jn
  by_cases h1 : Nat.gcd n a = 1
  · rw [if_pos h1, if_pos (by rw [← hg]; exact h1), mu_congr h]
  · rw [if_neg h1, if_neg (by rw [← hg]; exact h1)]
theorem gcd_mul_one {n a b : Nat} : Nat.gcd n (a * b) = 1 ↔ Nat.gcd n a = 1 ∧ Nat.gcd n b = 1 := by
  constructor
  · intro h
    exact ⟨Nat.Coprime.coprime_mul_right_right h, Nat.Coprime.coprime_mul_left_right h⟩
  · rintro ⟨h1, h2⟩
    exact Nat.Coprime.mul_right h1 h2
theorem jn_mul {n a b : Nat} (hn : n % 2 = 1) : jn n (a * b) = jn n a * jn n b := by
  unfold jn
  by_cases h1 : Nat.gcd n a = 1
  · by_cases h2 : Nat.gcd n b = 1
    · rw [if_pos (gcd_mul_one.2 ⟨h1, h2⟩), if_pos h1, if_pos h2, ← sg_add]
      exact sg_mod (mu_mul hn h1 h2)
    · rw [if_neg (fun h => h2 (gcd_mul_one.1 h).2), if_neg h2, Int.mul_zero]
  · rw [if_neg (fun h => h1 (gcd_mul_one.1 h).1), if_neg h1, Int.zero_mul]
theorem gcd_two {n : Nat} (hn : n % 2 = 1) : Nat.gcd n 2 = 1 := by
  rw [Nat.gcd_comm, Nat.gcd_rec, hn]; rfl
theorem jn_two {n : Nat} (hn : n % 2 = 1) : jn n 2 = if n % 8 = 3 ∨ n % 8 = 5 then -1 else 1 := by
  unfold jn
  rw [if_pos (gcd_two hn), mu_two hn]
  unfold sg
  rcases (show n % 8 = 1 ∨ n % 8 = 3 ∨ n % 8 = 5 ∨ n % 8 = 7 by omega) with h | h | h | h
  · rw [if_pos (by omega), if_neg (by omega)]
  · rw [if_neg (by omega), if_pos (by omega)]
  · rw [if_neg (by omega), if_pos (by omega)]
  · rw [if_pos (by omega), if_neg (by omega)]
theorem jn_recip {m n : Nat} (hm : m % 2 = 1) (hn : n % 2 = 1) : jn n m = jn m n * sg (n / 2 * (m / 2)) := by
  unfold jn
  by_cases h : Nat.gcd n m = 1
  · have h' : Nat.gcd m n = 1 := by rw [Nat.gcd_comm]; exact h
    rw [if_pos h, if_pos h', ← sg_add]
    refine sg_mod ?_
    have := recip hm hn h'
    omega
  · have h' : ¬ Nat.gcd m n = 1 := by rw [Nat.gcd_comm]; exact h
    rw [if_neg h, if_neg h', Int.zero_mul]
theorem jn_neg {n : Nat} (hn : n % 2 = 1) : jn n (n - 1) = sg (n / 2) := by
  have hg : Nat.gcd n (n - 1) = 1 := by
    have h1 : Nat.gcd n (n - 1) ∣ n := Nat.gcd_dvd_left ..
    have h2 : Nat.gcd n (n - 1) ∣ n - 1 := Nat.gcd_dvd_right ..
    have h3 := (Nat.dvd_sub h1 h2)
    rw [show n - (n - 1) = 1 by omega] at h3
    exact Nat.dvd_one.1 h3
  unfold jn
  rw [if_pos hg, mu_neg hn]
theorem sg_prod (a b : Nat) : sg (a * b) = if a % 2 = 1 ∧ b % 2 = 1 then -1 else 1 := by
  unfold sg
  rcases (show a % 2 = 0 ∨ a % 2 = 1 by omega) with h | h <;> rcases (show b % 2 = 0 ∨ b % 2 = 1 by omega) with h' | h' <;> simp [Nat.mul_mod, h, h']

/-- The symbol of a by b (b odd). -/
def J (a b : Int) : Int := jn b.natAbs (a % (b.natAbs : Int)).toNat
theorem odd_abs {b : Int} (hb : b % 2 = 1) : b.natAbs % 2 = 1 := by omega
theorem J_nat {b : Int} (hb : b % 2 = 1) (k : Nat) : J (k : Int) b = jn b.natAbs k := by
  unfold J
  have h0 : (0 : Int) < b.natAbs := by omega
  refine jn_congr ?_
  have : ((k : Int) % (b.natAbs : Int)).toNat = k % b.natAbs := by
    rw [← Int.natCast_emod, Int.toNat_natCast]
  rw [this, Nat.mod_mod]
theorem J_congr {a a' b : Int} (h : a % (b.natAbs : Int) = a' % (b.natAbs : Int)) : J a b = J a' b := by unfold J; rw [h]
theorem J_dvd {a a' b : Int} (h : b ∣ a - a') : J a b = J a' b := by
  refine J_congr ?_
  have : (b.natAbs : Int) ∣ a - a' := Int.natAbs_dvd.2 h
  exact Int.emod_eq_emod_iff_emod_sub_eq_zero.2 (Int.emod_eq_zero_of_dvd this)
/-- A number that stands for a and is not below 0. -/
theorem rep {b : Int} (hb : b % 2 = 1) (a : Int) : ∃ k : Nat, J a b = jn b.natAbs k ∧ b ∣ a - k := by
  have h0 : (0 : Int) < b.natAbs := by omega
  have hm := Int.emod_nonneg a (show (b.natAbs : Int) ≠ 0 by omega)
  refine ⟨(a % (b.natAbs : Int)).toNat, rfl, ?_⟩
  rw [Int.toNat_of_nonneg hm]
  have : (b.natAbs : Int) ∣ a - a % (b.natAbs : Int) := by
    refine ⟨a / b.natAbs, ?_⟩
    have := Int.mul_ediv_add_emod a (b.natAbs : Int)
    omega
  exact Int.natAbs_dvd.1 this
theorem J_mul {b : Int} (hb : b % 2 = 1) (a c : Int) : J (a * c) b = J a b * J c b := by
  obtain ⟨k, hk, dk⟩ := rep hb a
  obtain ⟨l, hl, dl⟩ := rep hb c
  rw [hk, hl, ← jn_mul (odd_abs hb), ← J_nat hb]
  refine J_dvd ?_
  obtain ⟨x, hx⟩ := dk
  obtain ⟨y, hy⟩ := dl
  refine ⟨x * c + k * y, ?_⟩
  have e1 : a = k + b * x := by omega
  have e2 : b * y = c - l := by omega
  rw [Int.natCast_mul, Int.mul_add, ← Int.mul_assoc b x, show b * x = a - k by omega, Int.mul_left_comm, e2, Int.sub_mul, Int.mul_sub]
  omega
theorem J_two {b : Int} (hb : b % 2 = 1) : J 2 b = if b % 8 = 3 ∨ b % 8 = 5 then -1 else 1 := by
  have := J_nat hb 2
  rw [show ((2 : Nat) : Int) = 2 from rfl] at this
  rw [this, jn_two (odd_abs hb)]
  by_cases h : b % 8 = 3 ∨ b % 8 = 5
  · rw [if_pos h, if_pos (by omega)]
  · rw [if_neg h, if_neg (by omega)]
theorem J_even {b : Int} (hb : b % 2 = 1) (a : Int) : J (2 * a) b = J a b * (if b % 8 = 3 ∨ b % 8 = 5 then -1 else 1) := by
  rw [J_mul hb, J_two hb, Int.mul_comm]
theorem J_neg1 {b : Int} (hb : b % 2 = 1) : J (-1) b = sg (b.natAbs / 2) := by
  have h0 : (0 : Int) < b.natAbs := by omega
  rw [← jn_neg (odd_abs hb), ← J_nat hb]
  refine J_congr ?_
  rw [show ((b.natAbs - 1 : Nat) : Int) = b.natAbs + -1 by omega, Int.add_emod_left]
theorem J_negl {b : Int} (hb : b % 2 = 1) (a : Int) : J (-a) b = J a b * sg (b.natAbs / 2) := by
  rw [show -a = -1 * a by omega, J_mul hb, J_neg1 hb, Int.mul_comm]
theorem J_negr (a b : Int) : J a (-b) = J a b := by unfold J; rw [Int.natAbs_neg]
theorem sg_half {b : Int} (hb : b % 2 = 1) (h0 : 0 ≤ b) : sg (b.natAbs / 2) = if b % 4 = 3 then -1 else 1 := by
  unfold sg
  by_cases h : b % 4 = 3
  · rw [if_pos h, if_neg (by omega)]
  · rw [if_neg h, if_pos (by omega)]
theorem J_recip {a b : Int} (ha : a % 2 = 1) (hb : b % 2 = 1) (hs : ¬ (a < 0 ∧ b < 0)) : J b a = J a b * (if a % 4 = 3 ∧ b % 4 = 3 then -1 else 1) := by
  have hr := jn_recip (m := a.natAbs) (n := b.natAbs) (odd_abs ha) (odd_abs hb)
  have hr' := jn_recip (m := b.natAbs) (n := a.natAbs) (odd_abs hb) (odd_abs ha)
  rcases Int.lt_or_le a 0 with h1 | h1
  · have h2 : 0 ≤ b := by omega
    have eb : J b a = jn a.natAbs b.natAbs := by rw [← J_nat ha, Int.natAbs_of_nonneg h2]
    have ea : J a b = jn b.natAbs a.natAbs * sg (b.natAbs / 2) := by
      rw [← J_nat hb, ← J_negl hb]; congr 1; omega
    rw [eb, ea, hr', Int.mul_assoc]
    congr 1
    rw [sg_prod, sg_half hb h2]
    by_cases h : b % 4 = 3
    · rw [if_pos h]
      by_cases h3 : a % 4 = 3
      · rw [if_neg (by omega), if_pos ⟨h3, h⟩]; rfl
      · rw [if_pos (by omega), if_neg (by omega)]; rfl
    · rw [if_neg h, if_neg (by omega), if_neg (by omega)]; rfl
  · have ea : J a b = jn b.natAbs a.natAbs := by rw [← J_nat hb, Int.natAbs_of_nonneg h1]
    rcases Int.lt_or_le b 0 with h2 | h2
    · have eb : J b a = jn a.natAbs b.natAbs * sg (a.natAbs / 2) := by
        rw [← J_nat ha, ← J_negl ha]; congr 1; omega
      rw [eb, ea, hr', Int.mul_assoc]
      congr 1
      rw [sg_prod, sg_half ha h1]
      by_cases h : a % 4 = 3
      · rw [if_pos h]
        by_cases h3 : b % 4 = 3
        · rw [if_neg (by omega), if_pos ⟨h, h3⟩]; rfl
        · rw [if_pos (by omega), if_neg (by omega)]; rfl
      · rw [if_neg h, if_neg (by omega), if_neg (by omega)]; rfl
    · have eb : J b a = jn a.natAbs b.natAbs := by rw [← J_nat ha, Int.natAbs_of_nonneg h2]
      rw [eb, ea, hr']
      congr 1
      rw [sg_prod]
      by_cases h : a % 4 = 3 ∧ b % 4 = 3
      · rw [if_pos h, if_pos (by omega)]
      · rw [if_neg h, if_neg (by omega)]
theorem J_zero {b : Int} (hb : b % 2 = 1) : J 0 b = if b.natAbs = 1 then 1 else 0 := by
  have := J_nat hb 0
  rw [show ((0 : Nat) : Int) = 0 from rfl] at this
  rw [this]
  unfold jn
  by_cases h : b.natAbs = 1
  · rw [if_pos (by rw [Nat.gcd_zero_right]; exact h), if_pos h, h]; rfl
  · rw [if_neg (by rw [Nat.gcd_zero_right]; exact h), if_neg h]
theorem J_tri {a b : Int} : J a b = 0 ∨ J a b = 1 ∨ J a b = -1 := by
  unfold J jn sg
  split
  · split <;> simp
  · simp
theorem J_sq {b : Int} (hb : b % 2 = 1) {k : Nat} (hc : Nat.gcd b.natAbs k = 1) : J (k * k) b = 1 := by
  rw [J_mul hb, J_nat hb]
  unfold jn
  rw [if_pos hc, sg_sq]
end Jac
