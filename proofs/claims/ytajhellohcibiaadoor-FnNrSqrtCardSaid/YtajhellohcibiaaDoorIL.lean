/-
  The inverse as a power, by Fermat; what stands in an environment that grows. No conditions.
-/
import Derived.Test.YtajhellohcibiaaDoorEngD
import Derived.Test.YtajhellohcibiaaDoorNT
namespace Eng
open Go
section
variable {n : Nat}
theorem int_of_mod {p x y : Nat} (h : x % p = y % p) : (p : Int) ∣ (x : Int) - (y : Int) := by
  have : ((x : Int)) % (p : Int) = (y : Int) % (p : Int) := by exact_mod_cast h
  exact Int.dvd_of_emod_eq_zero (by rw [Int.sub_emod, this, Int.sub_self, Int.zero_emod])
theorem fermat_int {p x : Nat} (hp : NT.Pr p) (h : ¬ p ∣ x) : (p : Int) ∣ (x : Int) ^ (p - 1) - 1 := by
  have h2 : 1 < p := hp.1
  have := int_of_mod (p := p) (x := x ^ (p - 1)) (y := 1) (by rw [NT.fermat_one hp h, Nat.mod_eq_of_lt h2])
  rw [Int.natCast_pow] at this
  exact this
theorem two_ndvd {p k : Nat} (hp : NT.Pr p) (ho : p % 2 = 1) : ¬ p ∣ 2 ^ k := by
  induction k with
  | zero => intro h; rw [Nat.pow_zero] at h; have := Nat.le_of_dvd (by decide) h; have := hp.1; omega
  | succ k ih =>
    intro h
    rw [Nat.pow_succ] at h
    rcases NT.pr_mul hp h with h | h
    · exact ih h
    · have := Nat.le_of_dvd (by decide) h
      have := hp.1
      omega
theorem inv_pow {q X Z : List Int} {p : Nat} (hp : NT.Pr p) (ho : p % 2 = 1) (hq : vw q = p) (wX : Wds X) (bX : vw X < vw q) (h0 : vw X ≠ 0) (h : PowM n q X (p - 2) Z) : vw q ∣ vw X * vw Z - BW ^ n * BW ^ n := by
  obtain ⟨_, wZ, _, ha⟩ := h
  have p2 := hp.1
  have p3 : 3 ≤ p := by omega
  obtain ⟨x, ex⟩ := Int.eq_ofNat_of_zero_le (vw_bounds wX).1
  rw [hq, ex] at bX
  rw [ex] at h0 ha
  have hx : ¬ p ∣ x := fun hd => by
    have := Nat.le_of_dvd (by omega) hd
    omega
  have hb := fermat_int hp hx
  have hR : ¬ p ∣ 2 ^ (64 * n) := two_ndvd hp ho
  have hc := fermat_int hp hR
  rw [ex, hq, bw_pow2]
  rw [hq, bw_pow2] at ha
  rw [Int.natCast_pow] at hc
  have e1 : ((2 : Nat) : Int) = 2 := rfl
  rw [e1] at hc
  generalize (2 : Int) ^ (64 * n) = R at *
  generalize vw Z = z at *
  have e2 : (x : Int) ^ (p - 1) = x * x ^ (p - 2) := by rw [Int.mul_comm, ← Int.pow_succ]; congr 1; omega
  have e3 : R ^ (p - 1) = R * R * R ^ (p - 3) := by rw [Int.mul_comm (R * R), ← Int.mul_assoc, ← Int.pow_succ, ← Int.pow_succ]; congr 1; omega
  rw [e2] at hb
  rw [e3] at hc
  rw [show p - 2 - 1 = p - 3 by omega] at ha
  generalize R ^ (p - 3) = T at *
  generalize (x : Int) ^ (p - 2) = S at *
  generalize (x : Int) = X at *
  generalize (p : Int) = P at *
  obtain ⟨a, ha⟩ := ha
  obtain ⟨b, hb⟩ := hb
  obtain ⟨c, hc⟩ := hc
  refine ⟨R * R * (X * a) + R * R * b - X * z * c, ?_⟩
  have h1 : P * (R * R * (X * a) + R * R * b - X * z * c) = R * R * (X * (P * a)) + R * R * (P * b) - X * z * (P * c) := by grind
  rw [h1, ← ha, ← hb, ← hc]
  grind

/-! ### an environment that grows -/
theorem bk_drop {k j : Nat} {xs : List Int} (h : xs.length = j + k) : bk k xs = xs.drop j := by
  unfold bk
  rw [h, Nat.add_sub_cancel]
theorem drop_getD {j i : Nat} {xs : List Int} : (xs.drop j).getD i 0 = xs.getD (j + i) 0 := by
  rw [List.getD_eq_getElem?_getD, List.getD_eq_getElem?_getD, List.getElem?_drop]
theorem keep {E ys v : List Int} {i m : Nat} (h : i + m ≤ E.length) (k : (vr i m).map (·.val E) = v) : (vr i m).map (·.val (E ++ ys)) = v := by rw [vals_more (vr_bd h), k]
theorem fin_take {A : Ask} {κ : K} {env E : List Int} {os : List SI} (hE : E.take κ.m = env) (h : A.post κ.id env (os.map (·.val E))) : (A.to κ).fin (enc os) st0 E := by
  show A.post κ.id (E.take κ.m) ((dec (enc os)).map (·.val E))
  rw [dec_enc, hE]
  exact h
theorem var_new {E : List Int} {x : Int} {i : Nat} (h : i = E.length) : (E ++ [x]).getD i 0 = x := at_end h
theorem one_of {xs : List Int} {x : Int} (h : xs = [x]) : xs.headD 0 = x := by rw [h]; rfl

/-! ### all words 0 -/
def zwT : List SI → Nat → Tree
  | [], _ => .fin (enc [.lit 1]) st0
  | x :: xs, ne => .dfn (.cmp .neq) [x, .lit 0] (.br ne (.fin (enc [.lit 0]) st0) (zwT xs (ne + 1)))
theorem vw_cons_zero {x : Int} {l : List Int} (hx : Wd x) (hl : Wds l) : vw (x :: l) = 0 ↔ x = 0 ∧ vw l = 0 := by
  have h1 := (vw_bounds hl).1
  have h2 := hx.1
  show x + BW * vw l = 0 ↔ _
  have : BW = 18446744073709551616 := rfl
  rw [this]
  omega
theorem zwT_ok {A : Ask} : ∀ (xs : List SI) (ne : Nat) (env : List Int), ne = env.length → (∀ x ∈ xs, Bd ne x) → Wds (xs.map (·.val env)) →
    (∀ (e : List Int) (o : SI), (o.val (env ++ e) = b01 (decide (vw (xs.map (·.val env)) = 0))) → A.fin (enc [o]) st0 (env ++ e)) → (zwT xs ne).holds A env
  | [], ne, env, _, _, _, hk => by
    have := hk [] (.lit 1) rfl
    rw [List.append_nil] at this
    exact this
  | x :: xs, ne, env, hne, hx, wx, hk => by
    have wx1 : Wd (x.val env) := wx _ (by simp)
    have wxs : Wds (xs.map (·.val env)) := fun y hy => wx y (by simp at hy ⊢; exact .inr hy)
    have key := vw_cons_zero wx1 wxs
    refine hold_dfn0 (v := b01 (decide (x.val env ≠ 0))) ?_ ?_
    · show b01 (x.val env != 0) = _
      congr 1
      by_cases h : x.val env = 0 <;> simp [h]
    have g : (env ++ [b01 (decide (x.val env ≠ 0))]).getD ne 0 = b01 (decide (x.val env ≠ 0)) := at_end hne
    refine ⟨fun h => ?_, fun h => ?_⟩
    · rw [g] at h
      have h0 : x.val env ≠ 0 := of_decide_eq_true ((b01_one _).1 h)
      refine hk _ (.lit 0) ?_
      rw [List.map_cons, decide_eq_false (fun h => h0 (key.1 h).1)]
      rfl
    · rw [g] at h
      have h0 : ¬ x.val env ≠ 0 := of_decide_eq_false ((b01_zero _).1 h)
      have h0 : x.val env = 0 := by omega
      have hv : xs.map (·.val (env ++ [b01 (decide (x.val env ≠ 0))])) = xs.map (·.val env) := vals_more (by rw [← hne]; exact fun y hy => hx y (List.mem_cons_of_mem _ hy))
      refine zwT_ok xs (ne + 1) _ (by simp [hne]) (fun y hy => (hx y (List.mem_cons_of_mem _ hy)).more (by omega)) (by rw [hv]; exact wxs) fun e o ho => ?_
      rw [hv] at ho
      rw [List.append_assoc] at ho ⊢
      refine hk _ o ?_
      rw [ho, List.map_cons]
      congr 1
      rw [decide_eq_decide]
      exact ⟨fun h => key.2 ⟨h0, h⟩, fun h => (key.1 h).2⟩
end
end Eng
