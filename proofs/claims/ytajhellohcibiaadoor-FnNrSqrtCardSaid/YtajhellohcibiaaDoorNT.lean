/-
  Plain number theory, no program in sight: primes, Fermat's little theorem, Pocklington's criterion.
-/
namespace NT

/-- A prime number. -/
def Pr (p : Nat) : Prop := 2 ≤ p ∧ ∀ d, d ∣ p → d = 1 ∨ d = p

theorem pr_coprime {p a : Nat} (hp : Pr p) (h : ¬ p ∣ a) : Nat.Coprime p a := by
  rcases hp.2 (Nat.gcd p a) (Nat.gcd_dvd_left p a) with h1 | h1
  · exact h1
  · exact absurd (h1 ▸ Nat.gcd_dvd_right p a) h

theorem pr_mul {p a b : Nat} (hp : Pr p) (h : p ∣ a * b) : p ∣ a ∨ p ∣ b := by
  by_cases ha : p ∣ a
  · exact .inl ha
  · exact .inr ((pr_coprime hp ha).dvd_of_dvd_mul_left h)

/-- Pascal's triangle. -/
def ch : Nat → Nat → Nat
  | _, 0 => 1
  | 0, _ + 1 => 0
  | n + 1, k + 1 => ch n k + ch n (k + 1)

theorem ch_zero (n : Nat) : ch n 0 = 1 := by cases n <;> rfl
theorem ch_succ (n k : Nat) : ch (n + 1) (k + 1) = ch n k + ch n (k + 1) := rfl
theorem ch_gt : ∀ n k, n < k → ch n k = 0
  | 0, 0, h => absurd h (by omega)
  | 0, _ + 1, _ => rfl
  | n + 1, 0, h => absurd h (by omega)
  | n + 1, k + 1, h => by rw [ch_succ, ch_gt n k (by omega), ch_gt n (k + 1) (by omega)]
theorem ch_self : ∀ n, ch n n = 1
  | 0 => rfl
  | n + 1 => by rw [ch_succ, ch_self n, ch_gt n (n + 1) (by omega)]
theorem ch_absorb : ∀ n k, (k + 1) * ch (n + 1) (k + 1) = (n + 1) * ch n k
  | 0, 0 => rfl
  | 0, k + 1 => by rw [ch_succ, ch_gt 0 (k + 1) (by omega), ch_gt 0 (k + 1 + 1) (by omega)]; simp
  | n + 1, 0 => by
    have h := ch_absorb n 0
    rw [ch_succ, Nat.mul_add, h, ch_zero, ch_zero]
    simp only [Nat.zero_add, Nat.mul_one]
    omega
  | n + 1, k + 1 => by
    have h1 := ch_absorb n k
    have h2 := ch_absorb n (k + 1)
    rw [ch_succ (n + 1) (k + 1), Nat.mul_add, h2, ch_succ n k, Nat.mul_add]
    have e : (k + 1 + 1) * (ch n k + ch n (k + 1)) = (k + 1) * ch (n + 1) (k + 1) + (ch n k + ch n (k + 1)) := by
      rw [ch_succ, Nat.succ_mul]
    rw [← Nat.mul_add, e, h1]
    simp only [Nat.add_mul, Nat.mul_add, Nat.one_mul]
    omega

theorem pr_dvd_ch {p k : Nat} (hp : Pr p) (h0 : 0 < k) (hk : k < p) : p ∣ ch p k := by
  obtain ⟨n, rfl⟩ : ∃ n, p = n + 1 := ⟨p - 1, by have := hp.1; omega⟩
  obtain ⟨j, rfl⟩ : ∃ j, k = j + 1 := ⟨k - 1, by omega⟩
  have h := ch_absorb n j
  rcases pr_mul hp (a := j + 1) (b := ch (n + 1) (j + 1)) (h ▸ Nat.dvd_mul_right _ _) with h1 | h1
  · exact absurd (Nat.le_of_dvd (by omega) h1) (by omega)
  · exact h1

/-- The sum of the first m terms of (x + 1)^n. -/
def bs (n x : Nat) : Nat → Nat
  | 0 => 0
  | m + 1 => bs n x m + ch n m * x ^ m

theorem bs_succ (n x : Nat) : ∀ m, bs (n + 1) x (m + 1) = bs n x (m + 1) + x * bs n x m
  | 0 => by simp [bs, ch_zero]
  | m + 1 => by
    rw [bs, bs_succ n x m, ch_succ]
    conv => rhs; rw [bs]
    conv => rhs; rhs; rw [bs]
    rw [Nat.add_mul, Nat.mul_add, Nat.pow_succ]
    have e : x * (ch n m * x ^ m) = ch n m * (x ^ m * x) := by rw [Nat.mul_left_comm, Nat.mul_comm x]
    rw [e]
    omega

theorem bs_gt (n x : Nat) : bs n x (n + 2) = bs n x (n + 1) := by
  rw [bs, ch_gt n (n + 1) (by omega)]; simp

theorem binom (x : Nat) : ∀ n, (x + 1) ^ n = bs n x (n + 1)
  | 0 => by simp [bs, ch]
  | n + 1 => by
    rw [bs_succ, bs_gt, ← binom x n, Nat.pow_succ, Nat.mul_add, Nat.mul_one, Nat.mul_comm _ x, Nat.add_comm]

theorem bs_mod {p x : Nat} (hp : Pr p) : ∀ m, m < p → bs p x (m + 1) % p = 1
  | 0, _ => by
    have := hp.1
    simp [bs, ch_zero]
    exact Nat.mod_eq_of_lt (by omega)
  | m + 1, h => by
    obtain ⟨c, hc⟩ := pr_dvd_ch hp (Nat.succ_pos m) h
    rw [bs, hc, Nat.mul_assoc, Nat.add_mul_mod_self_left]
    exact bs_mod hp m (by omega)

theorem fermat_succ {p : Nat} (hp : Pr p) (x : Nat) : (x + 1) ^ p % p = (x ^ p + 1) % p := by
  have h2 := hp.1
  obtain ⟨n, hn⟩ : ∃ n, p = n + 1 := ⟨p - 1, by omega⟩
  have h : bs p x p % p = 1 := by
    have h := bs_mod (x := x) hp n (by omega)
    have e : bs p x (n + 1) = bs p x p := by rw [← hn]
    rw [← e]; exact h
  rw [binom, bs, ch_self, Nat.one_mul, Nat.add_comm, Nat.add_mod, h]
  conv => rhs; rw [Nat.add_mod, Nat.mod_eq_of_lt (show 1 < p by omega)]

/-- Fermat's little theorem. -/
theorem fermat {p : Nat} (hp : Pr p) : ∀ a : Nat, a ^ p % p = a % p
  | 0 => by have := hp.1; rw [Nat.zero_pow (by omega)]
  | a + 1 => by rw [fermat_succ hp, Nat.add_mod, fermat hp a, ← Nat.add_mod]

theorem cancel {p a x y : Nat} (hc : Nat.Coprime p a) (h : a * x % p = a * y % p) : x % p = y % p := by
  have key : ∀ u v : Nat, u ≤ v → a * u % p = a * v % p → u % p = v % p := by
    intro u v huv h
    have h1 : p ∣ a * v - a * u := (Nat.dvd_of_mod_eq_zero (Nat.sub_mod_eq_zero_of_mod_eq h.symm))
    rw [← Nat.mul_sub] at h1
    obtain ⟨c, hcc⟩ := hc.dvd_of_dvd_mul_left h1
    have : v = u + p * c := by omega
    rw [this, Nat.add_mul_mod_self_left]
  rcases Nat.le_total x y with h1 | h1
  · exact key x y h1 h
  · exact (key y x h1 h.symm).symm

theorem fermat_one {p a : Nat} (hp : Pr p) (h : ¬ p ∣ a) : a ^ (p - 1) % p = 1 := by
  have h2 := hp.1
  have e : a * a ^ (p - 1) = a ^ p := by rw [Nat.mul_comm, ← Nat.pow_succ]; congr 1; omega
  have := cancel (pr_coprime hp h) (x := a ^ (p - 1)) (y := 1) (by rw [e, fermat hp, Nat.mul_one])
  rw [this]; exact Nat.mod_eq_of_lt (by omega)

theorem pow_mod_one {n a m : Nat} (h : a ^ m % n = 1 % n) (k : Nat) : a ^ (m * k) % n = 1 % n := by
  rw [Nat.pow_mul, Nat.pow_mod, h, ← Nat.pow_mod, Nat.one_pow]

theorem pow_gcd {n a : Nat} : ∀ m k : Nat, a ^ m % n = 1 % n → a ^ k % n = 1 % n → a ^ (Nat.gcd m k) % n = 1 % n := by
  intro m k
  induction m, k using Nat.gcd.induction with
  | H0 k => intro _ h; simpa using h
  | H1 m k _ ih =>
    intro hm hk
    rw [Nat.gcd_rec]
    refine ih ?_ hm
    have e : k = m * (k / m) + k % m := (Nat.div_add_mod k m).symm
    rw [e, Nat.pow_add, Nat.mul_mod, pow_mod_one hm, ← Nat.mul_mod, Nat.one_mul] at hk
    exact hk

theorem exists_pr (n : Nat) (h : 2 ≤ n) : ∃ p, Pr p ∧ p ∣ n := by
  induction n using Nat.strongRecOn with
  | _ n ih =>
    by_cases hd : ∃ d, d ∣ n ∧ d ≠ 1 ∧ d ≠ n
    · obtain ⟨d, hdn, h1, h2⟩ := hd
      have hpos : 0 < d := Nat.pos_of_dvd_of_pos hdn (by omega)
      have hle := Nat.le_of_dvd (by omega) hdn
      obtain ⟨p, hp, hpd⟩ := ih d (by omega) (by omega)
      exact ⟨p, hp, Nat.dvd_trans hpd hdn⟩
    · refine ⟨n, ⟨h, fun d hdn => ?_⟩, Nat.dvd_refl n⟩
      by_cases h1 : d = 1
      · exact .inl h1
      · by_cases h2 : d = n
        · exact .inr h2
        · exact absurd ⟨d, hdn, h1, h2⟩ hd

/-- Pocklington's step: a prime factor r of N is 1 more than a multiple of q^e. -/
theorem pock_step {N r q e a : Nat} (hr : Pr r) (hrN : r ∣ N) (hq : Pr q) (hqe : q ^ e ∣ N - 1) (hN : 2 ≤ N)
    (h1 : a ^ (N - 1) % N = 1) (h2 : Nat.gcd (a ^ ((N - 1) / q) % N + N - 1) N = 1) : q ^ e ∣ r - 1 := by
  have hr2 := hr.1
  have one_r : 1 % r = 1 := Nat.mod_eq_of_lt (by omega)
  have h1r : a ^ (N - 1) % r = 1 % r := by
    rw [← Nat.mod_mod_of_dvd _ hrN, h1]
  have hna : ¬ r ∣ a := by
    intro hd
    have : a ^ (N - 1) % r = 0 := by
      rw [Nat.pow_mod, Nat.mod_eq_zero_of_dvd hd, Nat.zero_pow (by omega)]; exact Nat.zero_mod r
    rw [this, one_r] at h1r
    omega
  have hg := pow_gcd (n := r) (a := a) (r - 1) (N - 1) (by rw [fermat_one hr hna, one_r]) h1r
  generalize hgg : Nat.gcd (r - 1) (N - 1) = g at hg
  have hgr : g ∣ r - 1 := hgg ▸ Nat.gcd_dvd_left _ _
  obtain ⟨h, hh⟩ : g ∣ N - 1 := hgg ▸ Nat.gcd_dvd_right _ _
  by_cases hqh : q ∣ h
  · exfalso
    obtain ⟨c, hc⟩ := hqh
    have e1 : (N - 1) / q = g * c := by
      rw [hh, hc, Nat.mul_left_comm]; exact Nat.mul_div_cancel_left _ (by have := hq.1; omega)
    have h3 : a ^ ((N - 1) / q) % r = 1 % r := by rw [e1]; exact pow_mod_one hg c
    have h4 : r ∣ a ^ ((N - 1) / q) % N + N - 1 := by
      have hle : 1 ≤ a ^ ((N - 1) / q) % N + N := by omega
      refine Nat.dvd_of_mod_eq_zero (Nat.sub_mod_eq_zero_of_mod_eq (m := a ^ ((N - 1) / q) % N + N) (n := 1) (k := r) ?_)
      obtain ⟨k, rfl⟩ := hrN
      rw [Nat.add_mul_mod_self_left, Nat.mod_mod_of_dvd _ (Nat.dvd_mul_right r k), h3]
    have := Nat.dvd_gcd h4 hrN
    rw [h2] at this
    have := Nat.le_of_dvd (by omega) this
    omega
  · have hc : Nat.Coprime (q ^ e) h := Nat.Coprime.pow_left e (pr_coprime hq hqh)
    exact Nat.dvd_trans (hc.dvd_of_dvd_mul_right (hh ▸ hqe)) hgr

theorem pr_of_big {N F : Nat} (hN : 2 ≤ N) (hF : N < (F + 1) * (F + 1)) (h : ∀ r, Pr r → r ∣ N → F ∣ r - 1) : Pr N := by
  have big : ∀ r, Pr r → r ∣ N → F + 1 ≤ r := by
    intro r hr hrN
    have := hr.1
    have := Nat.le_of_dvd (by omega) (h r hr hrN)
    omega
  refine ⟨hN, fun d hd => ?_⟩
  obtain ⟨c, hc⟩ := hd
  by_cases h1 : d = 1
  · exact .inl h1
  · by_cases h2 : c = 1
    · right; rw [hc, h2, Nat.mul_one]
    · exfalso
      have hd0 : d ≠ 0 := by rintro rfl; omega
      have hc0 : c ≠ 0 := by rintro rfl; omega
      obtain ⟨r, hr, hrd⟩ := exists_pr d (by omega)
      obtain ⟨s, hs, hsc⟩ := exists_pr c (by omega)
      have b1 := big r hr (Nat.dvd_trans hrd ⟨c, hc⟩)
      have b2 := big s hs (Nat.dvd_trans hsc ⟨d, by rw [hc, Nat.mul_comm]⟩)
      have l1 := Nat.le_of_dvd (by omega) hrd
      have l2 := Nat.le_of_dvd (by omega) hsc
      have := Nat.mul_le_mul (Nat.le_trans b1 l1) (Nat.le_trans b2 l2)
      omega

/-- a^e modulo n, by squaring, for the kernel to reckon. -/
def pm (n : Nat) : Nat → Nat → Nat → Nat → Nat
  | 0, _, _, acc => acc
  | f + 1, a, e, acc => pm n f (a * a % n) (e / 2) (bif Nat.beq (e % 2) 1 then acc * a % n else acc)

theorem pm_eq (n : Nat) : ∀ f a e acc, e < 2 ^ f → pm n f a e acc % n = acc * a ^ e % n
  | 0, a, e, acc, h => by
    obtain rfl : e = 0 := by simpa using h
    simp [pm]
  | f + 1, a, e, acc, h => by
    rw [pm, pm_eq n f _ _ _ (by rw [Nat.pow_succ] at h; omega)]
    have e1 : a ^ e = (a * a) ^ (e / 2) * a ^ (e % 2) := by
      rw [← Nat.pow_two, ← Nat.pow_mul, ← Nat.pow_add, Nat.div_add_mod]
    have e2 : ∀ u, u * (a * a % n) ^ (e / 2) % n = u * (a * a) ^ (e / 2) % n := by
      intro u
      rw [Nat.mul_mod, ← Nat.pow_mod, ← Nat.mul_mod]
    rw [e2, e1]
    have : e % 2 = 0 ∨ e % 2 = 1 := by omega
    rcases this with h0 | h0
    · rw [h0, show Nat.beq 0 1 = false from rfl, cond_false, Nat.pow_zero, Nat.mul_one]
    · rw [h0, show Nat.beq 1 1 = true from rfl, cond_true, Nat.pow_one]
      rw [Nat.mul_mod, Nat.mod_mod, ← Nat.mul_mod, Nat.mul_assoc, Nat.mul_comm a]

theorem pm_one {n f a e r : Nat} (he : e < 2 ^ f) (h : pm n f a e 1 % n = r) : a ^ e % n = r := by
  rw [← h, pm_eq n f a e 1 he, Nat.one_mul]

/-- No divisor from d on, for so many steps. -/
def nodiv (n : Nat) : Nat → Nat → Bool
  | 0, _ => true
  | f + 1, d => bif Nat.beq (n % d) 0 then false else nodiv n f (d + 1)

theorem nodiv_sound (n : Nat) : ∀ f d, nodiv n f d = true → ∀ k, d ≤ k → k < d + f → ¬ k ∣ n
  | 0, d, _, k, h1, h2 => by omega
  | f + 1, d, h, k, h1, h2 => by
    rw [nodiv] at h
    cases hb : Nat.beq (n % d) 0
    · rw [hb] at h
      by_cases hk : k = d
      · subst hk
        intro hd
        rw [Nat.mod_eq_zero_of_dvd hd] at hb
        simp at hb
      · exact nodiv_sound n f (d + 1) h k (by omega) (by omega)
    · rw [hb] at h; simp at h

theorem pr_small {n f : Nat} (hn : 2 ≤ n) (hf : n < (f + 2) * (f + 2)) (h : nodiv n f 2 = true) : Pr n := by
  refine ⟨hn, fun d hd => ?_⟩
  obtain ⟨c, hc⟩ := hd
  have hs := nodiv_sound n f 2 h
  have hd0 : d ≠ 0 := by rintro rfl; omega
  have hc0 : c ≠ 0 := by rintro rfl; omega
  by_cases h1 : d = 1
  · exact .inl h1
  · by_cases h2 : c = 1
    · right; rw [hc, h2, Nat.mul_one]
    · exfalso
      by_cases h3 : d < 2 + f
      · exact hs d (by omega) h3 ⟨c, hc⟩
      · by_cases h4 : c < 2 + f
        · exact hs c (by omega) h4 ⟨d, by rw [hc, Nat.mul_comm]⟩
        · have := Nat.mul_le_mul (show f + 2 ≤ d by omega) (show f + 2 ≤ c by omega)
          omega

theorem coprime_pow {q s e k : Nat} (hq : Pr q) (hs : Pr s) (h : q ≠ s) : Nat.Coprime (q ^ e) (s ^ k) := by
  refine Nat.Coprime.pow e k (pr_coprime hq fun hd => ?_)
  rcases hs.2 q hd with h1 | h1
  · have := hq.1; omega
  · exact h h1

/-- What the kernel reckons for one prime power of a certificate. -/
def pockOk (N q e a f : Nat) : Bool :=
  Nat.beq ((N - 1) % q ^ e) 0 && (Nat.ble N (2 ^ f) && (Nat.beq (pm N f a (N - 1) 1 % N) 1 && Nat.beq (Nat.gcd (pm N f a ((N - 1) / q) 1 % N + N - 1) N) 1))

theorem pock_of {N r q e a f : Nat} (hr : Pr r) (hrN : r ∣ N) (hN : 2 ≤ N) (hq : Pr q) (h : pockOk N q e a f = true) : q ^ e ∣ r - 1 := by
  unfold pockOk at h
  rw [Bool.and_eq_true, Bool.and_eq_true, Bool.and_eq_true] at h
  obtain ⟨h1, h2, h3, h4⟩ := h
  have h1 := Nat.eq_of_beq_eq_true h1
  have h2 := Nat.le_of_ble_eq_true h2
  have h3 := Nat.eq_of_beq_eq_true h3
  have h4 := Nat.eq_of_beq_eq_true h4
  refine pock_step (a := a) hr hrN hq (Nat.dvd_of_mod_eq_zero h1) hN (pm_one (by omega) h3) ?_
  rw [pm_one (f := f) (Nat.lt_of_le_of_lt (Nat.div_le_self _ _) (by omega)) rfl]
  exact h4
end NT
