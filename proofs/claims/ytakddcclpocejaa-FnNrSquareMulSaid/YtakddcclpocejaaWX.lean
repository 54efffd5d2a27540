/-
  Numbers by words: products of words, Montgomery's reduction, halves, bytes: as trees of facts, for any number of words.
-/
import Derived.Test.YtakddcclpocejaaWP
import Derived.Lib.Mul64
namespace Eng
open Go

/-! ### one product -/
theorem and_mask (a : Nat) (h : a < 18446744073709551616) : binEv .and .u64 (a : Int) 4294967295 = ((a % 4294967296 : Nat) : Int) := by
  show IntKind.u64.wrap (((BitVec.ofInt 64 (a : Int) &&& BitVec.ofInt 64 4294967295).toNat : Nat) : Int) = _
  have e : (BitVec.ofInt 64 (a : Int) &&& BitVec.ofInt 64 4294967295).toNat = a % 4294967296 := by
    rw [BitVec.toNat_and]
    have h1 : (BitVec.ofInt 64 (a : Int)).toNat = a := by
      rw [BitVec.ofInt_natCast, BitVec.toNat_ofNat]; exact Nat.mod_eq_of_lt h
    have h2 : (BitVec.ofInt 64 4294967295).toNat = 4294967295 := by decide
    rw [h1, h2]
    exact Nat.and_two_pow_sub_one_eq_mod a 32
  rw [e]
  exact wrap_nat _ (by omega)
theorem shr_nat (a k : Nat) (hk : k < 64) : binEv .shr .u64 (a : Int) (k : Int) = ((a / 2 ^ k : Nat) : Int) := by
  show Int.fdiv (a : Int) (2 ^ (min (k : Int).toNat 64)) = _
  rw [Int.toNat_natCast, Nat.min_eq_left (by omega), Int.fdiv_eq_ediv_of_nonneg _ (by exact Int.le_of_lt (Int.pow_pos (by decide)))]
  rw [Int.natCast_ediv, Int.natCast_pow]
  rfl
theorem mul_nat (a b : Nat) (h : a * b < 18446744073709551616) : binEv .mul .u64 (a : Int) (b : Int) = ((a * b : Nat) : Int) := by
  show IntKind.u64.wrap ((a : Int) * (b : Int)) = _
  rw [← Int.natCast_mul]
  exact wrap_nat _ h
theorem add_nat (a b : Nat) (h : a + b < 18446744073709551616) : binEv .add .u64 (a : Int) (b : Int) = ((a + b : Nat) : Int) := by
  show IntKind.u64.wrap ((a : Int) + (b : Int)) = _
  rw [← Int.natCast_add]
  exact wrap_nat _ h
theorem mul_wrap (a b : Nat) : binEv .mul .u64 (a : Int) (b : Int) = ((a * b % 18446744073709551616 : Nat) : Int) := by
  show IntKind.u64.wrap ((a : Int) * (b : Int)) = _
  rw [← Int.natCast_mul, IntKind.wrap_u64]
  omega

def mulT : Tree := (.dfn (.bin .and .u64) [(.var 0), (.lit 4294967295)] (.dfn (.bin .shr .u64) [(.var 0), (.lit 32)] (.dfn (.bin .and .u64) [(.var 1), (.lit 4294967295)] (.dfn (.bin .shr .u64) [(.var 1), (.lit 32)] (.dfn (.bin .mul .u64) [(.var 2), (.var 4)] (.dfn (.bin .mul .u64) [(.var 3), (.var 4)] (.dfn (.bin .shr .u64) [(.var 6), (.lit 32)] (.dfn (.bin .add .u64) [(.var 7), (.var 8)] (.dfn (.bin .and .u64) [(.var 9), (.lit 4294967295)] (.dfn (.bin .shr .u64) [(.var 9), (.lit 32)] (.dfn (.bin .mul .u64) [(.var 2), (.var 5)] (.dfn (.bin .add .u64) [(.var 10), (.var 12)] (.dfn (.bin .mul .u64) [(.var 3), (.var 5)] (.dfn (.bin .add .u64) [(.var 14), (.var 11)] (.dfn (.bin .shr .u64) [(.var 13), (.lit 32)] (.dfn (.bin .add .u64) [(.var 15), (.var 16)] (.dfn (.bin .mul .u64) [(.var 0), (.var 1)] (.fin (enc [.var 17, .var 18]) st0))))))))))))))))))
def Mul64 (xs ys : List Int) : Prop := ∃ h l, ys = [h, l] ∧ Wd h ∧ Wd l ∧ BW * h + l = xs.getD 0 0 * xs.getD 1 0
theorem mulT_ok {A : Ask} {env : List Int} (hl : env.length = 2) (hw : Wds env)
    (hk : ∀ (e : List Int) (os : List SI), Mul64 env (os.map (·.val (env ++ e))) → A.fin (enc os) st0 (env ++ e)) : mulT.holds A env := by
  obtain ⟨x, y, rfl⟩ : ∃ x y, env = [x, y] := by
    match env, hl with
    | [x, y], _ => exact ⟨x, y, rfl⟩
  obtain ⟨hx0, hx1⟩ := hw x (by simp)
  obtain ⟨hy0, hy1⟩ := hw y (by simp)
  obtain ⟨a, rfl⟩ := Int.eq_ofNat_of_zero_le hx0
  obtain ⟨b, rfl⟩ := Int.eq_ofNat_of_zero_le hy0
  have ha : a < 18446744073709551616 := by omega
  have hb : b < 18446744073709551616 := by omega
  obtain ⟨c0, c1, c2, c3⟩ := Lib.mul64_hi a b ha hb
  have p0 := Lib.half_mul_le (a := a / 4294967296) (b := b / 4294967296) (by omega) (by omega)
  have p1 := Lib.half_mul_le (a := a / 4294967296) (b := b % 4294967296) (by omega) (by omega)
  have p2 := Lib.half_mul_le (a := a % 4294967296) (b := b / 4294967296) (by omega) (by omega)
  have q1 : a / 4294967296 * (b % 4294967296) < 18446744073709551616 := by omega
  have q2 : a % 4294967296 * (b / 4294967296) < 18446744073709551616 := by omega
  have q3 : a / 4294967296 * (b / 4294967296) < 18446744073709551616 := by omega
  have q4 : a / 4294967296 * (b / 4294967296) + (a / 4294967296 * (b % 4294967296) + a % 4294967296 * (b % 4294967296) / 4294967296) / 4294967296 < 18446744073709551616 := by
    clear c2 c3
    omega
  have hlt : a * b / 18446744073709551616 < 18446744073709551616 := by
    apply Nat.div_lt_of_lt_mul
    have := Nat.mul_le_mul (show a ≤ 18446744073709551615 by omega) (show b ≤ 18446744073709551615 by omega)
    omega
  have q5 := hlt
  rw [← c3] at q5
  clear hw hx0 hy0 p0 p1 p2
  intro v2 h2
  have h2 : v2 = binEv .and .u64 (a : Int) 4294967295 := h2
  rw [and_mask a ha] at h2
  change Tree.holds A _ [(a : Int), (b : Int), v2]
  intro v3 h3
  have h3 : v3 = binEv .shr .u64 (a : Int) ((32 : Nat) : Int) := h3
  rw [shr_nat a 32 (by decide), show (2 : Nat) ^ 32 = 4294967296 from rfl] at h3
  change Tree.holds A _ [(a : Int), (b : Int), v2, v3]
  intro v4 h4
  have h4 : v4 = binEv .and .u64 (b : Int) 4294967295 := h4
  rw [and_mask b hb] at h4
  change Tree.holds A _ [(a : Int), (b : Int), v2, v3, v4]
  intro v5 h5
  have h5 : v5 = binEv .shr .u64 (b : Int) ((32 : Nat) : Int) := h5
  rw [shr_nat b 32 (by decide), show (2 : Nat) ^ 32 = 4294967296 from rfl] at h5
  change Tree.holds A _ [(a : Int), (b : Int), v2, v3, v4, v5]
  intro v6 h6
  have h6 : v6 = binEv .mul .u64 v2 v4 := h6
  rw [h2, h4, mul_nat _ _ c0] at h6
  change Tree.holds A _ [(a : Int), (b : Int), v2, v3, v4, v5, v6]
  intro v7 h7
  have h7 : v7 = binEv .mul .u64 v3 v4 := h7
  rw [h3, h4, mul_nat _ _ q1] at h7
  change Tree.holds A _ [(a : Int), (b : Int), v2, v3, v4, v5, v6, v7]
  intro v8 h8
  have h8 : v8 = binEv .shr .u64 v6 ((32 : Nat) : Int) := h8
  rw [h6, shr_nat _ 32 (by decide), show (2 : Nat) ^ 32 = 4294967296 from rfl] at h8
  change Tree.holds A _ [(a : Int), (b : Int), v2, v3, v4, v5, v6, v7, v8]
  intro v9 h9
  have h9 : v9 = binEv .add .u64 v7 v8 := h9
  rw [h7, h8, add_nat _ _ c1] at h9
  change Tree.holds A _ [(a : Int), (b : Int), v2, v3, v4, v5, v6, v7, v8, v9]
  intro v10 h10
  have h10 : v10 = binEv .and .u64 v9 4294967295 := h10
  rw [h9, and_mask _ c1] at h10
  change Tree.holds A _ [(a : Int), (b : Int), v2, v3, v4, v5, v6, v7, v8, v9, v10]
  intro v11 h11
  have h11 : v11 = binEv .shr .u64 v9 ((32 : Nat) : Int) := h11
  rw [h9, shr_nat _ 32 (by decide), show (2 : Nat) ^ 32 = 4294967296 from rfl] at h11
  change Tree.holds A _ [(a : Int), (b : Int), v2, v3, v4, v5, v6, v7, v8, v9, v10, v11]
  intro v12 h12
  have h12 : v12 = binEv .mul .u64 v2 v5 := h12
  rw [h2, h5, mul_nat _ _ q2] at h12
  change Tree.holds A _ [(a : Int), (b : Int), v2, v3, v4, v5, v6, v7, v8, v9, v10, v11, v12]
  intro v13 h13
  have h13 : v13 = binEv .add .u64 v10 v12 := h13
  rw [h10, h12, add_nat _ _ c2] at h13
  change Tree.holds A _ [(a : Int), (b : Int), v2, v3, v4, v5, v6, v7, v8, v9, v10, v11, v12, v13]
  intro v14 h14
  have h14 : v14 = binEv .mul .u64 v3 v5 := h14
  rw [h3, h5, mul_nat _ _ q3] at h14
  change Tree.holds A _ [(a : Int), (b : Int), v2, v3, v4, v5, v6, v7, v8, v9, v10, v11, v12, v13, v14]
  intro v15 h15
  have h15 : v15 = binEv .add .u64 v14 v11 := h15
  rw [h14, h11, add_nat _ _ q4] at h15
  change Tree.holds A _ [(a : Int), (b : Int), v2, v3, v4, v5, v6, v7, v8, v9, v10, v11, v12, v13, v14, v15]
  intro v16 h16
  have h16 : v16 = binEv .shr .u64 v13 ((32 : Nat) : Int) := h16
  rw [h13, shr_nat _ 32 (by decide), show (2 : Nat) ^ 32 = 4294967296 from rfl] at h16
  change Tree.holds A _ [(a : Int), (b : Int), v2, v3, v4, v5, v6, v7, v8, v9, v10, v11, v12, v13, v14, v15, v16]
  intro v17 h17
  have h17 : v17 = binEv .add .u64 v15 v16 := h17
  rw [h15, h16, add_nat _ _ q5, c3] at h17
  change Tree.holds A _ [(a : Int), (b : Int), v2, v3, v4, v5, v6, v7, v8, v9, v10, v11, v12, v13, v14, v15, v16, v17]
  intro v18 h18
  have h18 : v18 = binEv .mul .u64 (a : Int) (b : Int) := h18
  rw [mul_wrap] at h18
  clear h2 h3 h4 h5 h6 h7 h8 h9 h10 h11 h12 h13 h14 h15 h16 c0 c1 c2 c3 q1 q2 q3 q4 q5
  have w17 : Wd v17 := by rw [h17]; exact ⟨by omega, by omega⟩
  have w18 : Wd v18 := by rw [h18]; exact ⟨by omega, by omega⟩
  have e : BW * v17 + v18 = (a : Int) * (b : Int) := by
    rw [h17, h18, ← Int.natCast_mul]
    simp only [BW]
    omega
  exact hk [v2, v3, v4, v5, v6, v7, v8, v9, v10, v11, v12, v13, v14, v15, v16, v17, v18] [.var 17, .var 18] ⟨v17, v18, rfl, w17, w18, e⟩

/-! ### products and sums -/
def Madd0 (xs ys : List Int) : Prop := ∃ h l, ys = [h] ∧ Wd h ∧ Wd l ∧ BW * h + l = xs.getD 0 0 * xs.getD 1 0 + xs.getD 2 0
def Madd1 (xs ys : List Int) : Prop := ∃ h l, ys = [h, l] ∧ Wd h ∧ Wd l ∧ BW * h + l = xs.getD 0 0 * xs.getD 1 0 + xs.getD 2 0
def Madd2 (xs ys : List Int) : Prop := ∃ h l, ys = [h, l] ∧ Wd h ∧ Wd l ∧ BW * h + l = xs.getD 0 0 * xs.getD 1 0 + xs.getD 2 0 + xs.getD 3 0
def madd0T : Tree := (.hav 20 [(.var 0), (.var 1)] 2 (.dfn .addS [(.var 4), (.var 2), (.lit 0)] (.dfn .addC [(.var 4), (.var 2), (.lit 0)] (.dfn .addS [(.var 3), (.lit 0), (.var 6)] (.dfn .addC [(.var 3), (.lit 0), (.var 6)] (.fin (enc [.var 7]) st0))))))
def madd1T : Tree := (.hav 20 [(.var 0), (.var 1)] 2 (.dfn .addS [(.var 4), (.var 2), (.lit 0)] (.dfn .addC [(.var 4), (.var 2), (.lit 0)] (.dfn .addS [(.var 3), (.lit 0), (.var 6)] (.dfn .addC [(.var 3), (.lit 0), (.var 6)] (.fin (enc [.var 7, .var 5]) st0))))))
def madd2T : Tree := (.hav 20 [(.var 0), (.var 1)] 2 (.dfn .addS [(.var 2), (.var 3), (.lit 0)] (.dfn .addC [(.var 2), (.var 3), (.lit 0)] (.dfn .addS [(.var 4), (.lit 0), (.var 7)] (.dfn .addC [(.var 4), (.lit 0), (.var 7)] (.dfn .addS [(.var 5), (.var 6), (.lit 0)] (.dfn .addC [(.var 5), (.var 6), (.lit 0)] (.dfn .addS [(.var 8), (.lit 0), (.var 11)] (.dfn .addC [(.var 8), (.lit 0), (.var 11)] (.fin (enc [.var 12, .var 10]) st0))))))))))
/-- A product of two words leaves room. -/
theorem mul_room {x y : Int} (hx : Wd x) (hy : Wd y) : 0 ≤ x * y ∧ x * y ≤ BW * BW - 2 * BW + 1 := by
  obtain ⟨h1, h2⟩ := hx
  obtain ⟨h3, h4⟩ := hy
  refine ⟨Int.mul_nonneg h1 h3, ?_⟩
  have := Int.mul_le_mul (show x ≤ BW - 1 by simp only [BW]; omega) (show y ≤ BW - 1 by simp only [BW]; omega) h3 (by simp only [BW]; decide)
  have e : (BW - 1) * (BW - 1) = BW * BW - 2 * BW + 1 := by simp only [BW]; rfl
  omega
theorem wd0 : Wd 0 := ⟨by decide, by decide⟩
theorem madd0T_ok {A : Ask} (h20 : ∀ xs ys, A.post 20 xs ys → Mul64 xs ys) (hp : ∀ xs, Wds xs → A.pre 20 xs) {env : List Int} (hl : env.length = 3) (hw : Wds env)
    (hk : ∀ (e : List Int) (os : List SI), Madd0 env (os.map (·.val (env ++ e))) → A.fin (enc os) st0 (env ++ e)) : madd0T.holds A env := by
  obtain ⟨x, y, c, rfl⟩ : ∃ x y c, env = [x, y, c] := by
    match env, hl with
    | [x, y, c], _ => exact ⟨x, y, c, rfl⟩
  have wx := hw x (by simp)
  have wy := hw y (by simp)
  have wc := hw c (by simp)
  have hm := mul_room wx wy
  refine ⟨hp _ fun z hz => hw z (by simp [SI.val] at hz ⊢; omega), fun ys _ h => ?_⟩
  obtain ⟨hi, lo, rfl, whi, wlo, e⟩ := h20 _ _ h
  have e : BW * hi + lo = x * y := e
  intro s hs k hk2
  obtain ⟨ws, bk, es⟩ := add_step (x := lo) (y := c) (c := 0) wlo wc (.inl rfl) hs hk2
  intro r hr j hj
  obtain ⟨wr, bj, er⟩ := add_step (x := hi) (y := 0) (c := k) whi wd0 bk hr hj
  have := hk [hi, lo, s, k, r, j] [.var 7] ⟨r, s, rfl, wr, ws, by
    show BW * r + s = x * y + c
    generalize x * y = p at *
    simp only [Wd, BW] at *
    rcases bj with h | h <;> rcases bk with h' | h' <;> omega⟩
  exact this
theorem madd1T_ok {A : Ask} (h20 : ∀ xs ys, A.post 20 xs ys → Mul64 xs ys) (hp : ∀ xs, Wds xs → A.pre 20 xs) {env : List Int} (hl : env.length = 3) (hw : Wds env)
    (hk : ∀ (e : List Int) (os : List SI), Madd1 env (os.map (·.val (env ++ e))) → A.fin (enc os) st0 (env ++ e)) : madd1T.holds A env := by
  obtain ⟨x, y, c, rfl⟩ : ∃ x y c, env = [x, y, c] := by
    match env, hl with
    | [x, y, c], _ => exact ⟨x, y, c, rfl⟩
  have wx := hw x (by simp)
  have wy := hw y (by simp)
  have wc := hw c (by simp)
  have hm := mul_room wx wy
  refine ⟨hp _ fun z hz => hw z (by simp [SI.val] at hz ⊢; omega), fun ys _ h => ?_⟩
  obtain ⟨hi, lo, rfl, whi, wlo, e⟩ := h20 _ _ h
  have e : BW * hi + lo = x * y := e
  intro s hs k hk2
  obtain ⟨ws, bk, es⟩ := add_step (x := lo) (y := c) (c := 0) wlo wc (.inl rfl) hs hk2
  intro r hr j hj
  obtain ⟨wr, bj, er⟩ := add_step (x := hi) (y := 0) (c := k) whi wd0 bk hr hj
  have := hk [hi, lo, s, k, r, j] [.var 7, .var 5] ⟨r, s, rfl, wr, ws, by
    show BW * r + s = x * y + c
    generalize x * y = p at *
    simp only [Wd, BW] at *
    rcases bj with h | h <;> rcases bk with h' | h' <;> omega⟩
  exact this
theorem madd2T_ok {A : Ask} (h20 : ∀ xs ys, A.post 20 xs ys → Mul64 xs ys) (hp : ∀ xs, Wds xs → A.pre 20 xs) {env : List Int} (hl : env.length = 4) (hw : Wds env)
    (hk : ∀ (e : List Int) (os : List SI), Madd2 env (os.map (·.val (env ++ e))) → A.fin (enc os) st0 (env ++ e)) : madd2T.holds A env := by
  obtain ⟨x, y, c, d, rfl⟩ : ∃ x y c d, env = [x, y, c, d] := by
    match env, hl with
    | [x, y, c, d], _ => exact ⟨x, y, c, d, rfl⟩
  have wx := hw x (by simp)
  have wy := hw y (by simp)
  have wc := hw c (by simp)
  have wd := hw d (by simp)
  have hm := mul_room wx wy
  refine ⟨hp _ fun z hz => hw z (by simp [SI.val] at hz ⊢; omega), fun ys _ h => ?_⟩
  obtain ⟨hi, lo, rfl, whi, wlo, e⟩ := h20 _ _ h
  have e : BW * hi + lo = x * y := e
  intro s hs k hk2
  obtain ⟨ws, bk, es⟩ := add_step (x := c) (y := d) (c := 0) wc wd (.inl rfl) hs hk2
  intro r hr j hj
  obtain ⟨wr, bj, er⟩ := add_step (x := hi) (y := 0) (c := k) whi wd0 bk hr hj
  intro t ht m hm2
  obtain ⟨wt, bm, et⟩ := add_step (x := lo) (y := s) (c := 0) wlo ws (.inl rfl) ht hm2
  intro g hg i hi2
  obtain ⟨wg, bi, eg⟩ := add_step (x := r) (y := 0) (c := m) wr wd0 bm hg hi2
  have := hk [hi, lo, s, k, r, j, t, m, g, i] [.var 12, .var 10] ⟨g, t, rfl, wg, wt, by
    show BW * g + t = x * y + c + d
    generalize x * y = p at *
    simp only [Wd, BW] at *
    rcases bj with h | h <;> rcases bk with h' | h' <;> rcases bm with h'' | h'' <;> rcases bi with h3 | h3 <;> omega⟩
  exact this

section
variable {A : Ask} {n : Nat} {q : List Int}

/-! ### Montgomery's reduction -/
structure MAsk (A : Ask) : Prop where
  pre : ∀ id xs, 20 ≤ id → id < 23 → Wds xs → A.pre id xs
  m0 : ∀ xs ys, A.post 21 xs ys → Madd0 xs ys
  m2 : ∀ xs ys, A.post 22 xs ys → Madd2 xs ys

def maddCh (k : List SI → SI → Nat → Tree) (m : SI) : List SI → List SI → SI → Nat → List SI → Tree
  | q :: qs, z :: zs, c, ne, outs => .hav 22 [m, q, z, c] 2 (maddCh k m qs zs (.var ne) (ne + 2) (outs ++ [.var (ne + 1)]))
  | _, _, c, ne, outs => k outs c ne
theorem wds_cons {x : Int} {l : List Int} (h : Wd x) (k : Wds l) : Wds (x :: l) := fun y hy => by
  rcases List.mem_cons.1 hy with rfl | hy
  · exact h
  · exact k y hy
theorem wds_nil : Wds [] := fun x hx => by cases hx

structure MchOk (env : List Int) (outs : List SI) (Q Z : List Int) (m c : Int) (n : Nat) (e : List Int) (os : List SI) (c' : SI) (ne' : Nat) : Prop where
  ne : ne' = (env ++ e).length
  cb : Bd ne' c'
  ob : ∀ z ∈ os, Bd ne' z
  cw : Wd (c'.val (env ++ e))
  val : ∃ d : List Int, os.map (·.val (env ++ e)) = outs.map (·.val env) ++ d ∧ Wds d ∧ d.length = n ∧ vw d + BW ^ n * c'.val (env ++ e) = vw Z + m * vw Q + c

theorem maddCh_ok (hA : MAsk A) {k : List SI → SI → Nat → Tree} {m : SI} : ∀ (qs zs : List SI) (c : SI) (ne : Nat) (outs : List SI) (env : List Int), qs.length = zs.length → ne = env.length → Bd ne m → (∀ x ∈ qs, Bd ne x) → (∀ y ∈ zs, Bd ne y) → Bd ne c →
    (∀ z ∈ outs, Bd ne z) → Wd (m.val env) → Wds (qs.map (·.val env)) → Wds (zs.map (·.val env)) → Wd (c.val env) →
    (∀ (e : List Int) (os : List SI) (c' : SI) (ne' : Nat), MchOk env outs (qs.map (·.val env)) (zs.map (·.val env)) (m.val env) (c.val env) qs.length e os c' ne' → (k os c' ne').holds A (env ++ e)) →
    (maddCh k m qs zs c ne outs).holds A env
  | [], [], c, ne, outs, env, _, hne, _, _, _, hc, ho, _, _, _, wc, hk => by
    have := hk [] outs c ne ⟨by simpa using hne, hc, ho, by simpa using wc, [], by simp, wds_nil, rfl, by simp [vw]⟩
    simp only [List.append_nil] at this
    exact this
  | q :: qs, z :: zs, c, ne, outs, env, hl, hne, hm, hx, hy, hc, ho, wm, wx, wy, wc, hk => by
    have bx := hx q (List.mem_cons_self ..)
    have by' := hy z (List.mem_cons_self ..)
    obtain ⟨wx0, wx⟩ := Wds.tail (by simpa using wx)
    obtain ⟨wy0, wy⟩ := Wds.tail (by simpa using wy)
    refine ⟨hA.pre _ _ (by decide) (by decide) (wds_cons wm (wds_cons wx0 (wds_cons wy0 (wds_cons wc wds_nil)))), fun ys _ h => ?_⟩
    obtain ⟨hi, lo, rfl, whi, wlo, e⟩ := hA.m2 _ _ h
    have e : BW * hi + lo = m.val env * q.val env + z.val env + c.val env := e
    have hne2 : ne + 2 = (env ++ [hi, lo]).length := by simp [hne]
    have mm : m.val (env ++ [hi, lo]) = m.val env := val_more (by rw [← hne]; exact hm)
    have mx : qs.map (·.val (env ++ [hi, lo])) = qs.map (·.val env) := vals_more fun z hz => by rw [← hne]; exact hx z (List.mem_cons_of_mem _ hz)
    have my : zs.map (·.val (env ++ [hi, lo])) = zs.map (·.val env) := vals_more fun z hz => by rw [← hne]; exact hy z (List.mem_cons_of_mem _ hz)
    have mo : outs.map (·.val (env ++ [hi, lo])) = outs.map (·.val env) := vals_more fun z hz => by rw [← hne]; exact ho z hz
    have e2 : env ++ [hi, lo] = env ++ [hi] ++ [lo] := by simp
    have vh : (SI.var ne).val (env ++ [hi, lo]) = hi := by rw [e2, val_more (x := .var ne) (by show ne < _; simp [hne])]; exact val_end hne
    have vl : (SI.var (ne + 1)).val (env ++ [hi, lo]) = lo := by rw [e2]; exact val_end (by simp [hne])
    refine maddCh_ok hA qs zs (.var ne) (ne + 2) (outs ++ [.var (ne + 1)]) (env ++ [hi, lo]) (by simpa using hl) hne2 (hm.more (by omega)) (fun z hz => (hx z (List.mem_cons_of_mem _ hz)).more (by omega)) (fun z hz => (hy z (List.mem_cons_of_mem _ hz)).more (by omega))
      (show ne < ne + 2 by omega) ?_ (by rw [mm]; exact wm) (by rw [mx]; exact wx) (by rw [my]; exact wy) (by rw [vh]; exact whi) ?_
    · intro z hz
      rcases List.mem_append.1 hz with h | h
      · exact (ho z h).more (by omega)
      · simp at h; subst h; show ne + 1 < ne + 2; omega
    · intro e' os c' ne' hq
      rw [mm, mx, my, vh] at hq
      have := hk ([hi, lo] ++ e') os c' ne' ?_
      · rw [← List.append_assoc] at this; exact this
      · obtain ⟨q1, q2, q3, q4, dd, q5, q6, q7, q8⟩ := hq
        have ee : env ++ ([hi, lo] ++ e') = env ++ [hi, lo] ++ e' := by rw [List.append_assoc]
        refine ⟨by rw [ee]; exact q1, q2, q3, by rw [ee]; exact q4, lo :: dd, ?_, wds_cons wlo q6, by simp [q7], ?_⟩
        · rw [ee, q5, List.map_append, mo, List.map_cons, List.map_nil, vl, List.append_assoc]
          rfl
        · rw [ee]
          simp only [vw, List.map_cons, List.length_cons, Int.pow_succ]
          rw [Int.mul_comm (BW ^ qs.length) BW, Int.mul_assoc, Int.mul_add (m.val env), Int.mul_left_comm (m.val env)]
          generalize BW ^ qs.length * c'.val (env ++ [hi, lo] ++ e') = T at *
          generalize m.val env * vw (qs.map (·.val env)) = U at *
          generalize m.val env * q.val env = V at *
          simp only [BW] at *
          omega
  | [], _ :: _, _, _, _, _, h, _, _, _, _, _, _, _, _, _, _, _ => by simp at h
  | _ :: _, [], _, _, _, _, h, _, _, _, _, _, _, _, _, _, _, _ => by simp at h
end
end Eng
