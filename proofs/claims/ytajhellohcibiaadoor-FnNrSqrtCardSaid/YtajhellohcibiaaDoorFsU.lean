/-
  Numbers modulo the prime; elements that stand for them; roots of unity. No conditions.
-/
import Derived.Test.YtajhellohcibiaaDoorFsD
import Derived.Test.YtajhellohcibiaaDoorSB2
import Derived.Test.YtajhellohcibiaaDoorPrimenr
namespace Go.Proofs.YtajhellohcibiaaDoor
open Go Eng Go.RowKit
set_option maxRecDepth 100000
theorem pr_q : NT.Pr (vw prime).toNat := by
  have : (vw prime).toNat = 21888242871839275222246405745257275088548364400416034343698204186575808495617 := by decide +kernel
  rw [this]
  exact NT.pr_nr
theorem q_mul {a b : Int} (h : vw prime ∣ a * b) : vw prime ∣ a ∨ vw prime ∣ b := by
  have hq : ((vw prime).toNat : Int) = vw prime := Int.toNat_of_nonneg (by decide)
  rw [← hq] at h ⊢
  have h := Int.ofNat_dvd_left.1 h
  rw [Int.natAbs_mul] at h
  rcases NT.pr_mul pr_q h with h | h
  · exact Or.inl (Int.ofNat_dvd_left.2 h)
  · exact Or.inr (Int.ofNat_dvd_left.2 h)
theorem small_zero {x : Int} (h0 : 0 ≤ x) (h : x < vw prime) (hd : vw prime ∣ x) : x = 0 := by
  have := Int.emod_eq_zero_of_dvd hd
  rwa [Int.emod_eq_of_lt h0 h] at this
theorem q_r {x : Int} (h : vw prime ∣ x * BW ^ 4) : vw prime ∣ x := by
  rw [bw_two] at h
  exact odd_dvd_pow q_odd _ h
theorem q_pow {x : Int} : ∀ {k : Nat}, vw prime ∣ x ^ k → vw prime ∣ x
  | 0, h => by
    exfalso
    have := Int.emod_eq_zero_of_dvd h
    rw [Int.pow_zero] at this
    exact absurd this (by decide)
  | k + 1, h => by
    rw [Int.pow_succ] at h
    rcases q_mul h with h | h
    · exact q_pow h
    · exact h
theorem chi_pos {x : Int} : 0 ≤ chi x ↔ x ^ 10944121435919637611123202872628637544274182200208017171849102093287904247808 % vw prime = 0 ∨ x ^ 10944121435919637611123202872628637544274182200208017171849102093287904247808 % vw prime = 1 := by
  unfold chi
  split
  · rename_i h
    exact ⟨fun _ => Or.inl h, fun _ => Int.le_refl _⟩
  · split
    · rename_i h
      exact ⟨fun _ => Or.inr h, fun _ => by decide⟩
    · rename_i h1 h2
      exact ⟨fun h => absurd h (by decide), fun h => by rcases h with h | h; exact absurd h h1; exact absurd h h2⟩
theorem chi_is {x : Int} : 0 ≤ chi x ↔ vw prime ∣ x ∨ vw prime ∣ x ^ 10944121435919637611123202872628637544274182200208017171849102093287904247808 - 1 := by
  rw [chi_pos]
  constructor
  · rintro (h | h)
    · exact Or.inl (q_pow (Int.dvd_of_emod_eq_zero h))
    · refine Or.inr (Int.dvd_of_emod_eq_zero ?_)
      rw [Int.sub_emod, h]
      decide
  · rintro (h | h)
    · left
      rw [show 10944121435919637611123202872628637544274182200208017171849102093287904247808 = (10944121435919637611123202872628637544274182200208017171849102093287904247808 - 1) + 1 from rfl, Int.pow_succ]
      exact Int.emod_eq_zero_of_dvd (Int.dvd_mul_of_dvd_right h)
    · right
      have := Int.emod_eq_emod_iff_emod_sub_eq_zero.2 (Int.emod_eq_zero_of_dvd h)
      rw [this]
      decide
theorem rep_of {xs : List Int} {x : Int} (h : vw prime ∣ x * BW ^ 4 - vw xs) : Rep 4 prime xs x := by
  have := Int.dvd_neg.2 h
  rwa [Int.neg_sub] at this
/-! ### numbers modulo the prime -/
def Cg (a b : Int) : Prop := vw prime ∣ a - b
theorem Cg.refl (a : Int) : Cg a a := by unfold Cg; rw [Int.sub_self]; exact Int.dvd_zero _
theorem Cg.of {a b : Int} (h : a = b) : Cg a b := h ▸ Cg.refl a
theorem Cg.symm {a b : Int} (h : Cg a b) : Cg b a := by
  have := Int.dvd_neg.2 h
  rwa [Int.neg_sub] at this
theorem Cg.trans {a b c : Int} (h : Cg a b) (k : Cg b c) : Cg a c := by
  have := Int.dvd_add h k
  rwa [show a - b + (b - c) = a - c by omega] at this
theorem Cg.mul {a b c d : Int} (h : Cg a b) (k : Cg c d) : Cg (a * c) (b * d) := by
  have e : a * c - b * d = (a - b) * c + b * (c - d) := by grind
  unfold Cg
  rw [e]
  exact Int.dvd_add (Int.dvd_mul_of_dvd_left h) (Int.dvd_mul_of_dvd_right k)
theorem Cg.pow {a b : Int} (h : Cg a b) : ∀ k : Nat, Cg (a ^ k) (b ^ k)
  | 0 => by rw [Int.pow_zero, Int.pow_zero]; exact Cg.refl 1
  | k + 1 => by rw [Int.pow_succ, Int.pow_succ]; exact (Cg.pow h k).mul h
theorem two_no : ¬ Cg 1 (-1) := by
  intro h
  have := Int.emod_eq_zero_of_dvd h
  revert this
  decide
theorem sq_one {a : Int} (h : Cg (a * a) 1) : Cg a 1 ∨ Cg a (-1) := by
  have e : a * a - 1 = (a - 1) * (a - (-1)) := by grind
  unfold Cg at h
  rw [e] at h
  exact q_mul h
theorem pow_two (d : Int) (k : Nat) : d ^ 2 ^ (k + 1) = d ^ 2 ^ k * d ^ 2 ^ k := by
  rw [← Int.pow_add]
  congr 1
  rw [Nat.pow_succ]
  omega
theorem one_up {d : Int} {i : Nat} (h : Cg (d ^ 2 ^ i) 1) : ∀ k : Nat, Cg (d ^ 2 ^ (i + k)) 1
  | 0 => h
  | k + 1 => by
    rw [← Nat.add_assoc, pow_two]
    exact (one_up h k).mul (one_up h k)
/-- Where a power by squares is -1 it is so once. -/
theorem minus_once {d : Int} {i j : Nat} (hj : Cg (d ^ 2 ^ j) (-1)) (hi : i < j) : ¬ Cg (d ^ 2 ^ i) (-1) := by
  intro h
  have h1 : Cg (d ^ 2 ^ (i + 1)) 1 := by
    rw [pow_two]
    exact h.mul h
  have h2 := one_up h1 (j - (i + 1))
  rw [show i + 1 + (j - (i + 1)) = j by omega] at h2
  exact two_no (h2.symm.trans hj)
theorem minus_some {d : Int} : ∀ {k : Nat}, Cg (d ^ 2 ^ k) 1 → ¬ Cg d 1 → ∃ j, j < k ∧ Cg (d ^ 2 ^ j) (-1)
  | 0, h, hn => by
    rw [Nat.pow_zero, Int.pow_succ, Int.pow_zero, Int.one_mul] at h
    exact absurd h hn
  | k + 1, h, hn => by
    rw [pow_two] at h
    rcases sq_one h with h | h
    · obtain ⟨j, hj, hd⟩ := minus_some h hn
      exact ⟨j, by omega, hd⟩
    · exact ⟨k, by omega, h⟩
def gW : List Int := [7164790868263648668, 11685701338293206998, 6216421865291908056, 1756667274303109607]
def gI : Int := 19103219067921713944291392827692070036145651957329286315305642004821462161904
theorem g_rep : Rep 4 prime gW gI := by
  unfold Rep
  exact Int.dvd_of_emod_eq_zero (by decide +kernel)
theorem g_wd : Wds gW := by
  intro x hx
  simp only [gW, List.mem_cons, List.not_mem_nil, or_false] at hx
  rcases hx with h | h | h | h <;> subst h <;> exact ⟨by decide, by decide⟩
theorem g_lt : vw gW < vw prime := by decide
def sqm : Nat → Int → Int
  | 0, x => x
  | k + 1, x => sqm k (x * x % 21888242871839275222246405745257275088548364400416034343698204186575808495617)
theorem q_num : vw prime = 21888242871839275222246405745257275088548364400416034343698204186575808495617 := by decide +kernel
theorem sqm_ok : ∀ (k : Nat) (x : Int), Cg (x ^ 2 ^ k) (sqm k x)
  | 0, x => by rw [Nat.pow_zero, Int.pow_succ, Int.pow_zero, Int.one_mul]; exact Cg.refl _
  | k + 1, x => by
    have h1 : Cg (x * x) (x * x % 21888242871839275222246405745257275088548364400416034343698204186575808495617) := by
      unfold Cg
      rw [q_num]
      exact Int.dvd_self_sub_emod
    have e : x ^ 2 ^ (k + 1) = (x * x) ^ 2 ^ k := by
      rw [pow_two, Int.mul_pow]
    rw [e]
    exact (h1.pow _).trans (sqm_ok k _)
/-- The root of unity: of order 2 to the power of 28. -/
theorem g_top : Cg (gI ^ 2 ^ 27) (-1) := by
  refine (sqm_ok 27 gI).trans ?_
  unfold Cg
  rw [q_num]
  exact Int.dvd_of_emod_eq_zero (by decide +kernel)
/-! ### elements -/
/-- Words of an element that stands for x. -/
def El (X : List Int) (x : Int) : Prop := X.length = 4 ∧ Wds X ∧ vw X < vw prime ∧ Rep 4 prime X x
theorem El.mul {X Y Z : List Int} {x y : Int} (hx : El X x) (hy : El Y y) (h : MulM 4 prime X Y Z) : El Z (x * y) := ⟨h.1, h.2.1, h.2.2.1, rep_mul q_odd hx.2.2.2 hy.2.2.2 h⟩
theorem El.cg {X : List Int} {x y : Int} (h : El X x) (k : Cg x y) : El X y := by
  refine ⟨h.1, h.2.1, h.2.2.1, ?_⟩
  have := Int.dvd_add h.2.2.2 (Int.dvd_mul_of_dvd_left (c := BW ^ 4) k)
  rwa [Int.sub_mul, show vw X - x * BW ^ 4 + (x * BW ^ 4 - y * BW ^ 4) = vw X - y * BW ^ 4 by omega] at this
theorem El.eq {X Y : List Int} {x y : Int} (h : El X x) (k : El Y y) : X = Y ↔ Cg x y := by
  constructor
  · rintro rfl
    exact rep_dvd q_odd h.2.2.2 k.2.2.2 rfl
  · intro hc
    exact rep_eq h.2.2.2 k.2.2.2 (h.1.trans k.1.symm) h.2.1 k.2.1 h.2.2.1 k.2.2.1 hc
theorem el_one : El one 1 := ⟨rfl, one_wd, one_lt, by unfold Rep; rw [Int.one_mul]; exact one_is⟩
theorem el_g : El gW gI := ⟨rfl, g_wd, g_lt, g_rep⟩
theorem el_neg {X r : List Int} {x : Int} (h : El X x) (hn : NegM 4 prime X r) : El r (-x) := by
  obtain ⟨lr, wr, vr⟩ := hn
  have b := vw_bounds h.2.1
  have h3 := h.2.2.1
  obtain ⟨c, hc⟩ := h.2.2.2
  by_cases h0 : vw X = 0
  · rw [if_pos h0] at vr
    refine ⟨lr, wr, by rw [vr]; exact q_pos, -c, ?_⟩
    rw [vr, Int.neg_mul, Int.mul_neg]
    rw [h0] at hc
    omega
  · rw [if_neg h0] at vr
    refine ⟨lr, wr, by rw [vr]; omega, 1 - c, ?_⟩
    rw [vr, Int.neg_mul, Int.mul_sub, Int.mul_one]
    omega
theorem el_zero {X : List Int} {x : Int} (h : El X x) : vw X = 0 ↔ vw prime ∣ x := by
  obtain ⟨_, wX, bX, c, hc⟩ := h
  constructor
  · intro h0
    refine q_r ⟨-c, ?_⟩
    rw [h0] at hc
    rw [Int.mul_neg]
    omega
  · rintro ⟨d, rfl⟩
    refine small_zero (vw_bounds wX).1 bX ⟨c + d * BW ^ 4, ?_⟩
    rw [Int.mul_add, ← hc, Int.mul_assoc]
    omega
theorem el_pow {X Z : List Int} {x : Int} {k : Nat} (hk : 1 ≤ k) (h : El X x) (hp : PowM 4 prime X k Z) : El Z (x ^ k) := ⟨hp.1, hp.2.1, hp.2.2.1, rep_pow q_odd hk h.2.2.2 hp⟩
/-! ### one step of the roots by tables -/
theorem step_ok {xm : Int} {S l T : Nat} (hl : 1 ≤ l) (hS : S + l ≤ 27) (hT : 2 ^ (28 - S) ∣ T) (h1 : Cg (xm ^ 2 ^ (27 - S) * gI ^ T) 1) : Cg ((xm ^ 2 ^ (27 - (S + l)) * gI ^ (T / 2 ^ l)) ^ 2 ^ l) 1 := by
  have hd : 2 ^ l ∣ T := Nat.dvd_trans (Nat.pow_dvd_pow 2 (by omega)) hT
  rw [Int.mul_pow, ← Int.pow_mul, ← Int.pow_mul, Nat.div_mul_cancel hd, ← Nat.pow_add, show 27 - (S + l) + l = 27 - S by omega]
  exact h1
theorem step_dvd {S l T s : Nat} (hS : S + l ≤ 27) (hT : 2 ^ (28 - S) ∣ T) (hs : 2 ^ (28 - l) ∣ s) : 2 ^ (28 - (S + l)) ∣ s + T / 2 ^ l := by
  refine Nat.dvd_add (Nat.dvd_trans (Nat.pow_dvd_pow 2 (by omega)) hs) ?_
  obtain ⟨c, rfl⟩ := hT
  refine ⟨c, ?_⟩
  have e : 2 ^ (28 - S) * c = 2 ^ (28 - (S + l)) * c * 2 ^ l := by
    rw [Nat.mul_right_comm, ← Nat.pow_add, show 28 - (S + l) + l = 28 - S by omega]
  rw [e, Nat.mul_div_cancel _ (Nat.two_pow_pos _)]
theorem step_one {xm : Int} {S l T s : Nat} (h : Cg (xm ^ 2 ^ (27 - (S + l)) * gI ^ (T / 2 ^ l) * gI ^ s) 1) : Cg (xm ^ 2 ^ (27 - (S + l)) * gI ^ (s + T / 2 ^ l)) 1 := by
  rw [Nat.add_comm s, Int.pow_add, ← Int.mul_assoc]
  exact h
end Go.Proofs.YtajhellohcibiaaDoor
