/-
  Encodings: a word of eight bytes, as a tree of facts and as a number. No conditions.
-/
import Derived.Test.YtnhhjhkeiplmpaaDoorEngD
namespace Eng
open Go
/-- The number of bytes, the lowest first. -/
def leV : List Int → Int
  | [] => 0
  | b :: r => b + 256 * leV r
/-- The number of bytes, the highest first. -/
def beV (l : List Int) : Int := leV l.reverse
def By (x : Int) : Prop := 0 ≤ x ∧ x < 256
def beCh : List Nat → Nat → SI → Nat → Tree
  | i :: is, k, acc, ne => .dfn (.conv .u64) [.var i] (.dfn (.bin .shl .u64) [.var ne, .lit (k : Int)] (.dfn (.bin .or .u64) [acc, .var (ne + 1)] (beCh is (k + 8) (.var (ne + 2)) (ne + 3))))
  | [], _, acc, _ => .fin (enc [acc]) st0
theorem beCh_ok {A : Ask} : ∀ (is : List Nat) (k : Nat) (acc : SI) (ne : Nat) (env : List Int) (a : Nat), k + 8 * is.length ≤ 64 → ne = env.length → Bd ne acc → (∀ i ∈ is, i < ne ∧ By (env.getD i 0)) → acc.val env = (a : Int) → a < 2 ^ k →
    (∀ (e : List Int) (o : SI), o.val (env ++ e) = (a : Int) + 2 ^ k * leV (is.map fun i => env.getD i 0) → A.fin (enc [o]) st0 (env ++ e)) → (beCh is k acc ne).holds A env
  | [], k, acc, ne, env, a, _, _, _, _, va, _, hk => by
    have := hk [] acc (by rw [List.append_nil, va]; simp [leV])
    rw [List.append_nil] at this
    exact this
  | i :: is, k, acc, ne, env, a, hlen, hne, bacc, hi, va, ha, hk => by
    have hlen : k + 8 * (is.length + 1) ≤ 64 := hlen
    obtain ⟨hin, hby⟩ := hi i (List.mem_cons_self ..)
    obtain ⟨b, hb⟩ := Int.eq_ofNat_of_zero_le hby.1
    have hb256 : b < 256 := by have := hby.2; omega
    have hkp : 2 ^ (k + 8) = 2 ^ k * 256 := Nat.pow_add 2 k 8
    have h64 : 2 ^ (k + 8) ≤ 2 ^ 64 := Nat.pow_le_pow_right (by decide) (by omega)
    have hbk : b * 2 ^ k + 2 ^ k ≤ 2 ^ (k + 8) := by
      rw [hkp, Nat.mul_comm (2 ^ k) 256]
      have := Nat.mul_le_mul_right (2 ^ k) (show b + 1 ≤ 256 by omega)
      rw [Nat.add_mul, Nat.one_mul] at this
      exact this
    have hp := Nat.two_pow_pos k
    refine hold_dfn0 (v := (b : Int)) ?_ ?_
    · show IntKind.u64.wrap (env.getD i 0) = _
      rw [hb, IntKind.wrap_u64]; omega
    refine hold_dfn (v := ((b * 2 ^ k : Nat) : Int)) ?_ ?_
    · show binEv .shl .u64 ((SI.var ne).val _) (k : Int) = _
      rw [var_at0 hne]
      show binEv .shl .u64 (b : Int) (k : Int) = _
      rw [ev_shl _ _ (by omega), Nat.mod_eq_of_lt (by omega)]
    refine hold_dfn (v := ((a + 2 ^ k * b : Nat) : Int)) ?_ ?_
    · show binEv .or .u64 (acc.val _) ((SI.var (ne + 1)).val _) = _
      rw [val_more (by rw [← hne]; exact bacc), va, var_at hne]
      show binEv .or .u64 (a : Int) ((b * 2 ^ k : Nat) : Int) = _
      rw [ev_or _ _ (by omega) (by omega), Nat.mul_comm b, nat_or_low ha]
    have mem : ∀ j ∈ is, (env ++ ([(b : Int)] ++ [((b * 2 ^ k : Nat) : Int)] ++ [((a + 2 ^ k * b : Nat) : Int)])).getD j 0 = env.getD j 0 := fun j hj => at_old (by rw [← hne]; exact (hi j (List.mem_cons_of_mem _ hj)).1)
    refine beCh_ok is (k + 8) (.var (ne + 2)) (ne + 3) _ (a + 2 ^ k * b) (by omega) (by simp [hne]) (show ne + 2 < ne + 3 by omega) (fun j hj => ⟨by have := (hi j (List.mem_cons_of_mem _ hj)).1; omega, by rw [mem j hj]; exact (hi j (List.mem_cons_of_mem _ hj)).2⟩) ?_ ?_ ?_
    · rw [var_at hne]; rfl
    · rw [Nat.mul_comm (2 ^ k) b]; omega
    · intro e o ho
      rw [List.map_congr_left mem] at ho
      rw [List.append_assoc] at ho ⊢
      refine hk _ o ?_
      rw [ho]
      simp only [List.map_cons, leV]
      rw [hb, Int.pow_add]
      generalize leV (is.map fun i => env.getD i 0) = T
      have : ((a + 2 ^ k * b : Nat) : Int) = (a : Int) + 2 ^ k * (b : Int) := by simp
      rw [this, Int.mul_add, Int.mul_assoc]
      show (a : Int) + 2 ^ k * (b : Int) + 2 ^ k * (256 * T) = _
      omega
def be64T : Tree := .dfn (.conv .u64) [.var 7] (beCh [6, 5, 4, 3, 2, 1, 0] 8 (.var 8) 9)
theorem be64T_ok {A : Ask} {env : List Int} (hl : env.length = 8) (hb : ∀ x ∈ env, By x) (hk : ∀ (e : List Int) (o : SI), o.val (env ++ e) = beV env → A.fin (enc [o]) st0 (env ++ e)) : be64T.holds A env := by
  have get : ∀ i, i < 8 → By (env.getD i 0) := fun i hi => by
    rw [List.getD_eq_getElem?_getD, List.getElem?_eq_getElem (by omega)]
    exact hb _ (List.getElem_mem _)
  obtain ⟨b, h7⟩ := Int.eq_ofNat_of_zero_le (get 7 (by omega)).1
  have hlt := (get 7 (by omega)).2
  refine hold_dfn0 (v := (b : Int)) ?_ ?_
  · show IntKind.u64.wrap (env.getD 7 0) = _
    rw [h7, IntKind.wrap_u64]; omega
  have old : ∀ i, i < 8 → (env ++ [(b : Int)]).getD i 0 = env.getD i 0 := fun i hi => at_old (by omega)
  refine beCh_ok _ 8 (.var 8) 9 _ b (by decide) (by simp [hl]) (by decide : 8 < 9) (fun i hi => ?_) (val_end hl.symm) (by omega) ?_
  · have h8 : i < 8 := by simp at hi; omega
    exact ⟨by omega, by rw [old i h8]; exact get i h8⟩
  · intro e o ho
    rw [List.append_assoc] at ho ⊢
    refine hk _ o ?_
    rw [ho]
    match env, hl, h7, old with
    | [x0, x1, x2, x3, x4, x5, x6, x7], _, h7, old =>
      have h7 : x7 = (b : Int) := h7
      simp only [List.map_cons, List.map_nil, old 6 (by omega), old 5 (by omega), old 4 (by omega), old 3 (by omega), old 2 (by omega), old 1 (by omega), old 0 (by omega)]
      subst h7
      show (b : Int) + 2 ^ 8 * (x6 + 256 * (x5 + 256 * (x4 + 256 * (x3 + 256 * (x2 + 256 * (x1 + 256 * (x0 + 256 * 0))))))) = (b : Int) + 256 * (x6 + 256 * (x5 + 256 * (x4 + 256 * (x3 + 256 * (x2 + 256 * (x1 + 256 * (x0 + 256 * 0)))))))
      omega
end Eng
