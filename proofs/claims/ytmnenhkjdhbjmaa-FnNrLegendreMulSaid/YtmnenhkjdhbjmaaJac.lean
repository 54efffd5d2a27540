/-
  Plain number theory, no program in sight: the Jacobi symbol by Gauss's lemma (in Schering's form, for every odd n), its multiplication law, 2, -1, reciprocity.
-/
namespace Jac

def sm (f : Nat → Nat) : Nat → Nat
  | 0 => 0
  | m + 1 => sm f m + f (m + 1)

theorem sm_congr {f g : Nat → Nat} : ∀ m, (∀ k, 1 ≤ k → k ≤ m → f k = g k) → sm f m = sm g m
  | 0, _ => rfl
  | m + 1, h => by rw [sm, sm, sm_congr m (fun k h1 h2 => h k h1 (by omega)), h (m + 1) (by omega) (by omega)]
theorem sm_add (f g : Nat → Nat) : ∀ m, sm (fun k => f k + g k) m = sm f m + sm g m
  | 0 => rfl
  | m + 1 => by rw [sm, sm, sm, sm_add f g m]; omega
theorem sm_mul (c : Nat) (f : Nat → Nat) : ∀ m, sm (fun k => c * f k) m = c * sm f m
  | 0 => rfl
  | m + 1 => by rw [sm, sm, sm_mul c f m, Nat.mul_add]
theorem sm_const (c : Nat) : ∀ m, sm (fun _ => c) m = m * c
  | 0 => by simp [sm]
  | m + 1 => by rw [sm, sm_const c m, Nat.succ_mul]
theorem sm_mod2 {f g : Nat → Nat} : ∀ m, (∀ k, 1 ≤ k → k ≤ m → f k % 2 = g k % 2) → sm f m % 2 = sm g m % 2
  | 0, _ => rfl
  | m + 1, h => by
    have h1 := sm_mod2 (f := f) (g := g) m (fun k h1 h2 => h k h1 (by omega))
    have h2 := h (m + 1) (by omega) (by omega)
    rw [sm, sm]; omega
theorem sm_swap (F : Nat → Nat → Nat) (m : Nat) : ∀ n, sm (fun k => sm (F k) m) n = sm (fun j => sm (fun k => F k j) n) m
  | 0 => by
    have : ∀ m, sm (fun j => sm (fun k => F k j) 0) m = 0 := by
      intro m
      induction m with
      | zero => rfl
      | succ m ih => rw [sm, ih]; rfl
    rw [this]; rfl
  | n + 1 => by
    rw [sm, sm_swap F m n, ← sm_add]
    rfl

theorem sm_list (f : Nat → Nat) : ∀ m, sm f m = ((List.range' 1 m).map f).sum
  | 0 => rfl
  | m + 1 => by
    rw [sm, sm_list f m, List.range'_concat]
    simp [Nat.add_comm]

theorem perm_of {α : Type} [DecidableEq α] : ∀ (l k : List α), l.Nodup → l ⊆ k → l.length = k.length → l.Perm k
  | [], k, _, _, h => by
    have : k = [] := List.eq_nil_of_length_eq_zero (by simpa using h.symm)
    subst this; exact List.Perm.refl _
  | x :: l, k, hn, hs, h => by
    have hx : x ∈ k := hs (by simp)
    have hp := List.perm_cons_erase hx
    rw [List.nodup_cons] at hn
    refine List.Perm.trans (List.Perm.cons x (perm_of l (k.erase x) hn.2 ?_ ?_)) hp.symm
    · intro y hy
      have : y ≠ x := fun e => hn.1 (e ▸ hy)
      exact (List.mem_erase_of_ne this).2 (hs (by simp [hy]))
    · rw [List.length_erase_of_mem hx]
      simp at h
      omega

/-- A sum over 1..m does not change when its places are permuted. -/
theorem sm_perm (f : Nat → Nat) (p : Nat → Nat) (m : Nat) (h1 : ∀ k, 1 ≤ k → k ≤ m → 1 ≤ p k ∧ p k ≤ m)
    (h2 : ∀ k j, 1 ≤ k → k ≤ m → 1 ≤ j → j ≤ m → p k = p j → k = j) : sm (fun k => f (p k)) m = sm f m := by
  rw [sm_list, sm_list]
  have e : (List.range' 1 m).map (fun k => f (p k)) = ((List.range' 1 m).map p).map f := by rw [List.map_map]; rfl
  rw [e]
  refine List.Perm.sum_nat (List.Perm.map f (perm_of _ _ ?_ ?_ (by simp)))
  · rw [List.nodup_iff_pairwise_ne, List.pairwise_map]
    refine List.Pairwise.imp_of_mem ?_ (List.nodup_iff_pairwise_ne.1 List.nodup_range')
    intro a b ha hb hab e
    rw [List.mem_range'_1] at ha hb
    exact hab (h2 a b (by omega) (by omega) (by omega) (by omega) e)
  · intro y hy
    rw [List.mem_map] at hy
    obtain ⟨k, hk, rfl⟩ := hy
    rw [List.mem_range'_1] at *
    have := h1 k (by omega) (by omega)
    omega

/-- 1 where a times k lies in the upper half modulo n. -/
def up (n a k : Nat) : Nat := if n / 2 < a * k % n then 1 else 0
/-- The least absolute residue of a times k. -/
def lo (n a k : Nat) : Nat := if n / 2 < a * k % n then n - a * k % n else a * k % n
def mu (n a : Nat) : Nat := sm (up n a) (n / 2)

theorem res_pos {n a k : Nat} (hc : Nat.Coprime n a) (h1 : 1 ≤ k) (h2 : k < n) : 0 < a * k % n := by
  refine Nat.pos_of_ne_zero fun h => ?_
  have := Nat.le_of_dvd (by omega) (hc.dvd_of_dvd_mul_left (Nat.dvd_of_mod_eq_zero h))
  omega

theorem lo_range {n a k : Nat} (hn : n % 2 = 1) (hc : Nat.Coprime n a) (h1 : 1 ≤ k) (h2 : k ≤ n / 2) : 1 ≤ lo n a k ∧ lo n a k ≤ n / 2 := by
  have hp := res_pos hc h1 (by omega)
  have hl := Nat.mod_lt (a * k) (show 0 < n by omega)
  unfold lo
  split <;> omega

theorem dvd_sub_of_mod {n x y : Nat} (h : x % n = y % n) : (n : Int) ∣ (x : Int) - (y : Int) := by
  apply Int.dvd_of_emod_eq_zero
  rw [Int.sub_emod, ← Int.natCast_emod, ← Int.natCast_emod, h]
  simp

theorem lo_inj {n a k j : Nat} (hn : n % 2 = 1) (hc : Nat.Coprime n a) (h1 : 1 ≤ k) (h2 : k ≤ n / 2) (h3 : 1 ≤ j) (h4 : j ≤ n / 2) (h : lo n a k = lo n a j) : k = j := by
  have hk := Nat.mod_lt (a * k) (show 0 < n by omega)
  have hj := Nat.mod_lt (a * j) (show 0 < n by omega)
  have hkp := res_pos hc h1 (show k < n by omega)
  have hjp := res_pos hc h3 (show j < n by omega)
  have key : a * k % n = a * j % n ∨ a * k % n + a * j % n = n := by
    unfold lo at h
    split at h <;> split at h <;> omega
  rcases key with e | e
  · have hd := dvd_sub_of_mod e
    rw [Int.natCast_mul, Int.natCast_mul, ← Int.mul_sub] at hd
    have hd2 : n ∣ a * ((k : Int) - (j : Int)).natAbs := by
      have := Int.natAbs_dvd_natAbs.2 hd
      rwa [Int.natAbs_mul, Int.natAbs_natCast, Int.natAbs_natCast] at this
    have hd3 := hc.dvd_of_dvd_mul_left hd2
    rcases Nat.eq_zero_or_pos ((k : Int) - (j : Int)).natAbs with h0 | h0
    · omega
    · have := Nat.le_of_dvd h0 hd3
      omega
  · exfalso
    have hd : n ∣ a * (k + j) := by
      apply Nat.dvd_of_mod_eq_zero
      rw [Nat.mul_add, Nat.add_mod, e, Nat.mod_self]
    have := Nat.le_of_dvd (by omega) (hc.dvd_of_dvd_mul_left hd)
    omega

theorem up_mul {n a b k : Nat} (hn : n % 2 = 1) (ha : Nat.Coprime n a) (hb : Nat.Coprime n b) (h1 : 1 ≤ k) (h2 : k ≤ n / 2) :
    up n (a * b) k % 2 = (up n b k + up n a (lo n b k)) % 2 := by
  have hl := Nat.mod_lt (b * k) (show 0 < n by omega)
  have hp := res_pos hb h1 (show k < n by omega)
  have e : a * b * k % n = a * (b * k % n) % n := by
    rw [Nat.mul_assoc, Nat.mul_mod, Nat.mul_mod a (b * k % n), Nat.mod_mod]
  generalize hr : b * k % n = r at *
  have hq := Nat.mod_lt (a * r) (show 0 < n by omega)
  have hqp := res_pos ha hp hl
  unfold up lo
  rw [e, hr]
  by_cases hbk : n / 2 < r
  · simp only [if_pos hbk]
    have e2 : a * (n - r) % n = n - a * r % n := by
      have h3 : (a * (n - r) + a * r) % n = 0 := by
        rw [← Nat.mul_add, Nat.sub_add_cancel (by omega), Nat.mul_mod_left]
      rw [Nat.add_mod] at h3
      have h4 := Nat.mod_lt (a * (n - r)) (show 0 < n by omega)
      generalize a * (n - r) % n = u at *
      generalize a * r % n = v at *
      rcases Nat.lt_or_ge (u + v) n with h5 | h5
      · rw [Nat.mod_eq_of_lt h5] at h3; omega
      · have : u + v - n < n := by omega
        rw [Nat.mod_eq_sub_mod h5, Nat.mod_eq_of_lt this] at h3
        omega
    rw [e2]
    generalize a * r % n = v at *
    split <;> split <;> omega
  · simp only [if_neg hbk]
    omega

theorem mu_mul {n a b : Nat} (hn : n % 2 = 1) (ha : Nat.Coprime n a) (hb : Nat.Coprime n b) : mu n (a * b) % 2 = (mu n a + mu n b) % 2 := by
  have h := sm_mod2 (f := up n (a * b)) (g := fun k => up n b k + up n a (lo n b k)) (n / 2) (fun k h1 h2 => up_mul hn ha hb h1 h2)
  have hp := sm_perm (up n a) (lo n b) (n / 2) (fun k h1 h2 => lo_range hn hb h1 h2) (fun k j h1 h2 h3 h4 => lo_inj hn hb h1 h2 h3 h4)
  unfold mu
  rw [h, sm_add, hp]
  omega

theorem mu_congr {n a b : Nat} (h : a % n = b % n) : mu n a = mu n b := by
  refine sm_congr _ fun k _ _ => ?_
  unfold up
  rw [Nat.mul_mod, h, ← Nat.mul_mod]

/-- Eisenstein's form: for odd a. -/
theorem mu_floor {n a : Nat} (hn : n % 2 = 1) (ha : a % 2 = 1) (hc : Nat.Coprime n a) : mu n a % 2 = sm (fun k => a * k / n) (n / 2) % 2 := by
  have h1 : ∀ k, 1 ≤ k → k ≤ n / 2 → (a * k / n + up n a k + lo n a k) % 2 = k % 2 := by
    intro k _ _
    have hd := Nat.div_add_mod (a * k) n
    have hl := Nat.mod_lt (a * k) (show 0 < n by omega)
    have e1 : (n * (a * k / n)) % 2 = (a * k / n) % 2 := by rw [Nat.mul_mod, hn]; simp
    have e2 : (a * k) % 2 = k % 2 := by rw [Nat.mul_mod, ha]; simp
    unfold up lo
    generalize a * k / n = q at *
    generalize a * k % n = r at *
    generalize n * q = nq at *
    generalize a * k = ak at *
    split <;> omega
  have h2 := sm_mod2 (n / 2) h1
  rw [sm_add, sm_add] at h2
  have hp := sm_perm (fun k => k) (lo n a) (n / 2) (fun k h1 h2 => lo_range hn hc h1 h2) (fun k j h1 h2 h3 h4 => lo_inj hn hc h1 h2 h3 h4)
  have hp' : sm (lo n a) (n / 2) = sm (fun k => k) (n / 2) := hp
  unfold mu
  omega

theorem count_le (n x : Nat) (hn : 0 < n) : ∀ m, sm (fun j => if n * j ≤ x then 1 else 0) m = min m (x / n)
  | 0 => by simp [sm]
  | m + 1 => by
    rw [sm, count_le n x hn m]
    have : n * (m + 1) ≤ x ↔ m + 1 ≤ x / n := by rw [Nat.le_div_iff_mul_le hn, Nat.mul_comm]
    split
    · rename_i h; have := this.1 h; omega
    · rename_i h; have : ¬ m + 1 ≤ x / n := fun h' => h (this.2 h'); omega

theorem recip {m n : Nat} (hm : m % 2 = 1) (hn : n % 2 = 1) (hc : Nat.Coprime m n) : (mu n m + mu m n) % 2 = (n / 2) * (m / 2) % 2 := by
  have f1 := mu_floor hn hm hc.symm
  have f2 := mu_floor hm hn hc
  have g1 : sm (fun k => m * k / n) (n / 2) = sm (fun k => sm (fun j => if n * j ≤ m * k then 1 else 0) (m / 2)) (n / 2) := by
    refine sm_congr _ fun k h1 h2 => ?_
    rw [count_le n _ (by omega)]
    have : m * k / n ≤ m / 2 := by
      rw [← Nat.lt_add_one_iff, Nat.div_lt_iff_lt_mul (by omega)]
      have e1 : m * (2 * k) ≤ m * (n - 1) := Nat.mul_le_mul_left _ (by omega)
      have e2 : (m / 2 + 1) * (2 * n) = (m + 1) * n := by
        have : 2 * (m / 2 + 1) = m + 1 := by omega
        rw [← this, Nat.mul_left_comm, Nat.mul_assoc]
      have e3 : m * (2 * k) = 2 * (m * k) := by rw [Nat.mul_left_comm]
      have e4 : (m / 2 + 1) * (2 * n) = 2 * ((m / 2 + 1) * n) := by rw [Nat.mul_left_comm]
      have e5 : m * (n - 1) + m = m * n := by rw [← Nat.mul_succ]; congr 1; omega
      have e6 : (m + 1) * n = m * n + n := Nat.succ_mul _ _
      omega
    omega
  have g2 : sm (fun j => n * j / m) (m / 2) = sm (fun j => sm (fun k => if m * k ≤ n * j then 1 else 0) (n / 2)) (m / 2) := by
    refine sm_congr _ fun k h1 h2 => ?_
    rw [count_le m _ (by omega)]
    have : n * k / m ≤ n / 2 := by
      rw [← Nat.lt_add_one_iff, Nat.div_lt_iff_lt_mul (by omega)]
      have e1 : n * (2 * k) ≤ n * (m - 1) := Nat.mul_le_mul_left _ (by omega)
      have e2 : (n / 2 + 1) * (2 * m) = (n + 1) * m := by
        have : 2 * (n / 2 + 1) = n + 1 := by omega
        rw [← this, Nat.mul_left_comm, Nat.mul_assoc]
      have e3 : n * (2 * k) = 2 * (n * k) := by rw [Nat.mul_left_comm]
      have e4 : (n / 2 + 1) * (2 * m) = 2 * ((n / 2 + 1) * m) := by rw [Nat.mul_left_comm]
      have e5 : n * (m - 1) + n = n * m := by rw [← Nat.mul_succ]; congr 1; omega
      have e6 : (n + 1) * m = n * m + m := Nat.succ_mul _ _
      omega
    omega
  rw [sm_swap (fun j k => if m * k ≤ n * j then 1 else 0)] at g2
  have tot : sm (fun k => m * k / n) (n / 2) + sm (fun j => n * j / m) (m / 2) = (n / 2) * (m / 2) := by
    rw [g1, g2, ← sm_add, ← sm_const (m / 2) (n / 2)]
    refine sm_congr _ fun k h1 h2 => ?_
    rw [← sm_add]
    refine Eq.trans (sm_congr (g := fun _ => 1) _ fun j h3 h4 => ?_) (by rw [sm_const, Nat.mul_one])
    have hne : n * j ≠ m * k := by
      intro e
      have hd : n ∣ k := hc.symm.dvd_of_dvd_mul_left ⟨j, e.symm⟩
      have := Nat.le_of_dvd (by omega) hd
      omega
    by_cases h : n * j ≤ m * k
    · rw [if_pos h, if_neg (by omega)]
    · rw [if_neg h, if_pos (by omega)]
  omega

theorem mu_two {n : Nat} (hn : n % 2 = 1) : mu n 2 = n / 2 - n / 2 / 2 := by
  have h : ∀ m, m ≤ n / 2 → sm (up n 2) m = m - n / 2 / 2 := by
    intro m
    induction m with
    | zero => intro _; simp [sm]
    | succ m ih =>
      intro hm
      rw [sm, ih (by omega)]
      unfold up
      rw [Nat.mod_eq_of_lt (show 2 * (m + 1) < n by omega)]
      split <;> omega
  exact h _ (Nat.le_refl _)

theorem mu_neg {n : Nat} (hn : n % 2 = 1) : mu n (n - 1) = n / 2 := by
  unfold mu
  rw [sm_congr (g := fun _ => 1) (n / 2), sm_const, Nat.mul_one]
  intro k h1 h2
  have e : (n - 1) * k % n = n - k := by
    have e1 : (n - 1) * k = (n - k) + n * (k - 1) := by
      have e2 : (n - 1) * k + k = n * k := by rw [← Nat.succ_mul]; congr 1; omega
      have e3 : n * (k - 1) + n = n * k := by rw [← Nat.mul_succ]; congr 1; omega
      omega
    rw [e1, Nat.add_mul_mod_self_left, Nat.mod_eq_of_lt (by omega)]
  unfold up
  rw [e, if_pos (by omega)]

theorem mu_one {n : Nat} (hn : n % 2 = 1) : mu n 1 = 0 := by
  unfold mu
  rw [sm_congr (g := fun _ => 0) (n / 2), sm_const, Nat.mul_zero]
  intro k h1 h2
  unfold up
  rw [Nat.one_mul, Nat.mod_eq_of_lt (by omega), if_neg (by omega)]
end Jac
