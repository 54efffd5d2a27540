/-
  The symbol: what its loops say, its end, a product's symbol. No conditions.
-/
import Derived.Test.YtmnenhkjdhbjmaaLH
import Derived.Test.YtmnenhkjdhbjmaaEngD
namespace Eng
open Go Jac
section
variable {n : Nat}
/-- What the inner loop says. -/
def LgnP (xs ys : List Int) : Prop := ∃ U V f0 g0 f1 g1 v', ys = [pack f0 g0, pack f1 g1, V, v'] ∧ Wd V ∧ GI (2 ^ 30) ((bk 3 xs).getD 0 0) ((bk 3 xs).getD 1 0) U V f0 g0 f1 g1 ∧ (v' = 1 ∨ v' = -1) ∧
    ∀ s e a b, Nears s e ((bk 3 xs).getD 0 0) ((bk 3 xs).getD 1 0) a b → ∃ A B, LG (2 ^ 30) s e ((bk 3 xs).getD 0 0) ((bk 3 xs).getD 1 0) a b ((bk 3 xs).getD 2 0) U V f0 g0 f1 g1 A B v'
theorem lgn_of {l : List Int} {X Y v : Int} {ys : List Int} (h : LgnP (l ++ [1, 4294967296, X, Y, v]) ys) : ∃ U V f0 g0 f1 g1 v', ys = [pack f0 g0, pack f1 g1, V, v'] ∧ Wd V ∧ GI (2 ^ 30) X Y U V f0 g0 f1 g1 ∧ (v' = 1 ∨ v' = -1) ∧
    ∀ s e a b, Nears s e X Y a b → ∃ A B, LG (2 ^ 30) s e X Y a b v U V f0 g0 f1 g1 A B v' := by
  rw [show l ++ [1, 4294967296, X, Y, v] = (l ++ [1, 4294967296]) ++ [X, Y, v] by simp] at h
  unfold LgnP at h
  rw [bk_end (k := 3) (l := l ++ [1, 4294967296]) (m := [X, Y, v]) rfl] at h
  exact h
theorem lgn_to {l : List Int} {X Y v : Int} {ys : List Int} (h : InL (2 ^ 30) X Y v ys) (c0 c1 V v' : Int) (hy : ∃ U, ys = [c0, c1, U, V, v']) : LgnP (l ++ [1, 4294967296, X, Y, v]) [c0, c1, V, v'] := by
  rw [show l ++ [1, 4294967296, X, Y, v] = (l ++ [1, 4294967296]) ++ [X, Y, v] by simp]
  unfold LgnP
  rw [bk_end (k := 3) (l := l ++ [1, 4294967296]) (m := [X, Y, v]) rfl]
  obtain ⟨U, V', f0, g0, f1, g1, w, e, wU, wV, hG, hv, hall⟩ := h
  obtain ⟨U', e'⟩ := hy
  rw [e] at e'
  simp only [List.cons.injEq, and_true] at e'
  obtain ⟨rfl, rfl, rfl, rfl, rfl⟩ := e'
  exact ⟨U, V', f0, g0, f1, g1, w, rfl, wV, hG, hv, hall⟩
/-- What the outer loop says. -/
def LgoP (n : Nat) (xs ys : List Int) : Prop := ∃ a b s v', ys = a ++ b ++ s ++ [v'] ∧ a.length = n ∧ b.length = n ∧ s.length = n ∧ Wds b ∧ vw b % 2 = 1 ∧ (v' = 1 ∨ v' = -1) ∧
  J 0 (vw b) * v' = J (vw (xs.take n)) (vw ((xs.drop n).take n)) * xs.getD (3 * n + 2) 0
def lgO (k : SI → Nat → Tree) : List SI → SI → Nat → Tree
  | x :: xs, c, ne => .dfn (.bin .or .u64) [c, x] (lgO k xs (.var ne) (ne + 1))
  | [], c, ne => k c ne
theorem lgO_ok {A : Ask} {k : SI → Nat → Tree} : ∀ (xs : List SI) (c : SI) (ne : Nat) (env : List Int), ne = env.length → (∀ x ∈ xs, Bd ne x) → Bd ne c → Wds (xs.map (·.val env)) → Wd (c.val env) →
    (∀ (e : List Int) (c' : SI) (ne' : Nat), ne' = (env ++ e).length → (c'.val (env ++ e) = 0 ↔ c.val env = 0 ∧ ∀ x ∈ xs.map (·.val env), x = 0) → (k c' ne').holds A (env ++ e)) → (lgO k xs c ne).holds A env
  | [], c, ne, env, hne, _, bc, _, _, hk => by
    have := hk [] c ne (by simpa using hne) (by simp)
    rw [List.append_nil] at this
    exact this
  | x :: xs, c, ne, env, hne, hx, bc, wx, wc, hk => by
    obtain ⟨wx0, wx'⟩ := Wds.tail (by simpa using wx)
    intro t ht
    have ht : t = binEv .or .u64 (c.val env) (x.val env) := ht
    obtain ⟨o1, o2⟩ := or_zero wc wx0
    rw [← ht] at o1 o2
    have mx : xs.map (·.val (env ++ [t])) = xs.map (·.val env) := vals_more fun z hz => by rw [← hne]; exact hx z (List.mem_cons_of_mem _ hz)
    have vt : (SI.var ne).val (env ++ [t]) = t := val_end hne
    refine lgO_ok xs (.var ne) (ne + 1) (env ++ [t]) (by simp [hne]) (fun z hz => (hx z (List.mem_cons_of_mem _ hz)).more (by omega)) (show ne < ne + 1 by omega) (by rw [mx]; exact wx') (by rw [vt]; exact o1) fun e c' ne' he ho => ?_
    rw [mx, vt, o2] at ho
    have := hk ([t] ++ e) c' ne' (by rw [← List.append_assoc]; exact he) (by rw [← List.append_assoc, ho]; simp only [List.map_cons, List.mem_cons, forall_eq_or_imp, and_assoc])
    rw [← List.append_assoc] at this
    exact this
def legT (n : Nat) (q : List Int) : Tree :=
  .hav 78 (vr 0 n ++ ls q ++ zeros n ++ [.lit 0, .lit 0, .lit 1]) (3 * n + 1) (.dfn (.cmp .eql) [.var (2 * n), .lit 1] (.br (4 * n + 1)
    (lgO (fun c ne => .dfn (.cmp .eql) [c, .lit 0] (.br ne (.fin (enc [.var (4 * n)]) st0) (.fin (enc [.lit 0]) st0))) (vr (2 * n + 2) (n - 2)) (.var (2 * n + 1)) (4 * n + 2)) (.fin (enc [.lit 0]) st0)))
theorem legT_ok {A : Ask} {q env : List Int} (hn : 2 ≤ n) (lq : q.length = n) (hl : env.length = n) (hp : A.pre 78 (env ++ q ++ List.replicate n 0 ++ [0, 0, 1])) (hm : ∀ ys, A.post 78 (env ++ q ++ List.replicate n 0 ++ [0, 0, 1]) ys → LgoP n (env ++ q ++ List.replicate n 0 ++ [0, 0, 1]) ys)
    (hk : ∀ (e : List Int) (o : SI), o.val (env ++ e) = J (vw env) (vw q) → A.fin (enc [o]) st0 (env ++ e)) : (legT n q).holds A env := by
  have v0 : (vr 0 n ++ ls q ++ zeros n ++ [SI.lit 0, SI.lit 0, SI.lit 1]).map (·.val env) = env ++ q ++ List.replicate n 0 ++ [0, 0, 1] := by
    rw [List.map_append, List.map_append, List.map_append, one_vr hl, ls_vals, zeros_val]; rfl
  unfold legT
  refine ⟨by rw [v0]; exact hp, fun ys hy h => ?_⟩
  rw [v0] at h
  obtain ⟨a, b, s, v, rfl, la, lb, ls', wb, ob, hv, hJ⟩ := hm _ h
  have x1 : (env ++ q ++ List.replicate n 0 ++ [0, 0, 1] : List Int).take n = env := by rw [List.append_assoc, List.append_assoc, take_app hl]
  have x2 : ((env ++ q ++ List.replicate n 0 ++ [0, 0, 1] : List Int).drop n).take n = q := by rw [List.append_assoc, List.append_assoc, drop_app hl, take_app lq]
  have x3 : (env ++ q ++ List.replicate n 0 ++ [0, 0, 1] : List Int).getD (3 * n + 2) 0 = 1 := by
    have := getD_at (env := env ++ q ++ List.replicate n 0) (l := [0, 0, 1]) (ne := 3 * n) (by simp [hl, lq]; omega) 2
    rw [this]; rfl
  rw [x1, x2, x3, Int.mul_one, J_zero ob] at hJ
  obtain ⟨b0, b1, r, rfl⟩ : ∃ b0 b1 r, b = b0 :: b1 :: r := by
    match b, lb with
    | [], h => simp at h; omega
    | [_], h => simp at h; omega
    | b0 :: b1 :: r, _ => exact ⟨b0, b1, r, rfl⟩
  have lr : r.length = n - 2 := by simp at lb; omega
  obtain ⟨w0, wt⟩ := Wds.tail wb
  obtain ⟨w1, wr⟩ := Wds.tail wt
  have hone : (vw (b0 :: b1 :: r)).natAbs = 1 ↔ b0 = 1 ∧ ∀ x ∈ b1 :: r, x = 0 := by
    rw [← vw_all wt]
    have h1 := (vw_bounds wb).1
    have h2 := (vw_bounds wt).1
    have e : vw (b0 :: b1 :: r) = b0 + BW * vw (b1 :: r) := rfl
    obtain ⟨g1, g2⟩ := w0
    simp only [BW] at e
    omega
  generalize hE : env ++ (a ++ (b0 :: b1 :: r) ++ s ++ [v]) = E
  have lE : E.length = 4 * n + 1 := by rw [← hE]; simp only [List.length_append, hl, la, lb, ls', List.length_cons, List.length_nil]; omega
  have gE : ∀ (k : Nat) (m : List Int), k < n → (SI.var (2 * n + k)).val (E ++ m) = (b0 :: b1 :: r).getD k 0 := fun k m hk => by
    show (E ++ m).getD (2 * n + k) 0 = _
    rw [← hE, show env ++ (a ++ (b0 :: b1 :: r) ++ s ++ [v]) ++ m = (env ++ a) ++ ((b0 :: b1 :: r) ++ (s ++ [v] ++ m)) by simp only [List.append_assoc]]
    rw [getD_at (by simp only [List.length_append, hl, la]; omega) k, at_old (by rw [lb]; exact hk)]
  have vE : ∀ m : List Int, (SI.var (4 * n)).val (E ++ m) = v := fun m => by
    show (E ++ m).getD (4 * n) 0 = _
    rw [← hE, show env ++ (a ++ (b0 :: b1 :: r) ++ s ++ [v]) ++ m = (env ++ a ++ (b0 :: b1 :: r) ++ s) ++ ([v] ++ m) by simp only [List.append_assoc]]
    exact getD_at (ne := 4 * n) (by simp only [List.length_append, hl, la, lb, ls']; omega) 0
  have fin : ∀ (m : List Int) (o : SI), o.val (E ++ m) = J (vw env) (vw q) → A.fin (enc [o]) st0 (E ++ m) := fun m o ho => by
    have := hk (a ++ (b0 :: b1 :: r) ++ s ++ [v] ++ m) o ?_
    · rw [← List.append_assoc, hE] at this; exact this
    · rw [← List.append_assoc, hE]; exact ho
  refine hold_dfn0 (v := b01 (decide (b0 = 1))) ?_ ?_
  · have g0 := gE 0 [] (by omega)
    rw [List.append_nil] at g0
    show b01 (cmpEv .eql ((SI.var (2 * n)).val E) 1) = _
    rw [show (SI.var (2 * n)).val E = b0 from g0]
    rfl
  refine ⟨fun h1 => ?_, fun h1 => ?_⟩
  · rw [at_end lE.symm] at h1
    have h0 : b0 = 1 := of_decide_eq_true ((b01_one _).1 h1)
    have vrr : ∀ m : List Int, (vr (2 * n + 2) (n - 2)).map (·.val (E ++ m)) = r := fun m => by
      rw [← hE, show env ++ (a ++ (b0 :: b1 :: r) ++ s ++ [v]) ++ m = (env ++ a ++ [b0, b1]) ++ (r ++ (s ++ [v] ++ m)) by simp]
      rw [← List.append_assoc _ r]
      exact vals_mid (by simp only [List.length_append, hl, la, List.length_cons, List.length_nil]; omega) lr.symm
    refine lgO_ok _ _ _ _ (by simp [lE]) (vr_bd (by omega)) (show 2 * n + 1 < 4 * n + 2 by omega) (by rw [vrr]; exact wr) (by rw [gE 1 _ (by omega)]; exact w1) ?_
    intro e c' ne' he hc
    rw [vrr, gE 1 _ (by omega)] at hc
    have hc : c'.val (E ++ [b01 (decide (b0 = 1))] ++ e) = 0 ↔ ∀ x ∈ b1 :: r, x = 0 := by rw [hc]; simp
    refine hold_dfn0 (v := b01 (decide (c'.val (E ++ [b01 (decide (b0 = 1))] ++ e) = 0))) rfl ?_
    generalize hz : decide (c'.val (E ++ [b01 (decide (b0 = 1))] ++ e) = 0) = z
    have e3 : E ++ [b01 (decide (b0 = 1))] ++ e ++ [b01 z] = E ++ ([b01 (decide (b0 = 1))] ++ e ++ [b01 z]) := by simp
    refine ⟨fun h2 => ?_, fun h2 => ?_⟩
    · rw [at_end he] at h2
      rw [← hz] at h2
      have h2 := hc.1 (of_decide_eq_true ((b01_one _).1 h2))
      rw [e3]
      refine fin _ _ ?_
      rw [vE, ← hJ, if_pos (hone.2 ⟨h0, h2⟩)]; omega
    · rw [at_end he] at h2
      rw [← hz] at h2
      have h2 : ¬ ∀ x ∈ b1 :: r, x = 0 := fun h => (of_decide_eq_false ((b01_zero _).1 h2)) (hc.2 h)
      rw [e3]
      refine fin _ _ ?_
      rw [← hJ, if_neg (fun h => h2 (hone.1 h).2)]; simp [SI.val]
  · rw [at_end lE.symm] at h1
    have h0 : ¬ b0 = 1 := of_decide_eq_false ((b01_zero _).1 h1)
    refine fin _ _ ?_
    rw [← hJ, if_neg (fun h => h0 (hone.1 h).1)]; simp [SI.val]

/-! ### products -/
theorem J_bw {q : Int} (hq : q % 2 = 1) (n : Nat) : J (BW ^ n) q = 1 := by
  have e : BW ^ n = ((2 ^ (32 * n) : Nat) : Int) * ((2 ^ (32 * n) : Nat) : Int) := by
    rw [bw_pow2, show 64 * n = 32 * n + 32 * n by omega, Int.pow_add]; simp
  rw [e, J_sq hq]
  exact Nat.Coprime.pow_right _ (gcd_two (odd_abs hq))
theorem J_prod {q X Y Z : List Int} (hq : vw q % 2 = 1) (h : MulM n q X Y Z) : J (vw Z) (vw q) = J (vw X) (vw q) * J (vw Y) (vw q) := by
  have h4 := h.2.2.2
  have e1 : J (vw Z * BW ^ n) (vw q) = J (vw X * vw Y) (vw q) := J_dvd h4
  rw [J_mul hq, J_mul hq, J_bw hq, Int.mul_one] at e1
  exact e1
theorem J_one {q o : Int} (hq : q % 2 = 1) (h : q ∣ o - BW ^ n) : J o q = 1 := by rw [J_dvd h, J_bw hq]
theorem mul_small {a b q : Int} : binEv .mul .i64 (J a q) (J b q) = J a q * J b q := by
  show IntKind.i64.wrap _ = _
  rcases (J_tri : J a q = 0 ∨ J a q = 1 ∨ J a q = -1) with h | h | h <;> rcases (J_tri : J b q = 0 ∨ J b q = 1 ∨ J b q = -1) with h' | h' | h' <;> rw [h, h'] <;> rfl
end
end Eng
