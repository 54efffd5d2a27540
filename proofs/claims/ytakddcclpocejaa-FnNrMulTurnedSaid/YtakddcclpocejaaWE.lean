/-
  Numbers by words: the law on equality, as a tree of facts, for any number of words.
-/
import Derived.Test.YtakddcclpocejaaWP
namespace Eng
open Go

section
variable {A : Ask} {n : Nat} {q : List Int}
structure WEq (A : Ask) (n : Nat) : Prop where
  eq : ∀ xs ys, A.post 2 xs ys → ys = [b01 (decide (xs.take n = xs.drop n))]
  ne : ∀ xs ys, A.post 3 xs ys → ∃ y, ys = [y] ∧ (y = 0 ↔ xs.take n = xs.drop n)

def eqF (n : Nat) : Tree := difT (fun o ne => .dfn (.cmp .eql) [o, .lit 0] (.fin (enc [.var ne]) st0)) (vr 0 n).reverse (vr n n).reverse (2 * n)
def neF (n : Nat) : Tree := difT (fun o _ => .fin (enc [o]) st0) (vr 0 n).reverse (vr n n).reverse (2 * n)
theorem map_rev_eq {env : List Int} {xs ys : List SI} : (xs.reverse.map (·.val env) = ys.reverse.map (·.val env)) ↔ (xs.map (·.val env) = ys.map (·.val env)) := by
  rw [List.map_reverse, List.map_reverse]
  exact ⟨fun h => by simpa using h, fun h => by rw [h]⟩
theorem rev_ne (hn : n ≠ 0) {i : Nat} : (vr i n).reverse ≠ [] := by
  intro h
  have := congrArg List.length h
  simp [vr] at this
  exact hn this
theorem eqF_ok (hn : n ≠ 0) {env : List Int} (hl : env.length = 2 * n) (hw : Wds env)
    (hk : ∀ (e : List Int) (o : SI), o.val (env ++ e) = b01 (decide (env.take n = env.drop n)) → A.fin (enc [o]) st0 (env ++ e)) : (eqF n).holds A env := by
  obtain ⟨h1, h2⟩ := two_vr hl
  refine difT_ok _ _ _ env (rev_ne hn) (by simp [vr]) hl.symm (rev_bd (by omega)) (rev_bd (by omega)) (by rw [List.map_reverse, h1]; exact wds_rev (hw.take n)) (by rw [List.map_reverse, h2]; exact wds_rev (hw.drop n)) fun e o ne' g1 g2 g3 g4 => ?_
  rw [map_rev_eq, h1, h2] at g4
  intro t ht
  have ht : t = b01 (o.val (env ++ e) == 0) := ht
  have := hk (e ++ [t]) (.var ne') (by
    rw [← List.append_assoc, val_end g1, ht]
    congr 1
    rw [Bool.eq_iff_iff, beq_iff_eq, decide_eq_true_eq]
    exact g4)
  rw [← List.append_assoc] at this
  exact this
theorem neF_ok (hn : n ≠ 0) {env : List Int} (hl : env.length = 2 * n) (hw : Wds env)
    (hk : ∀ (e : List Int) (o : SI), (o.val (env ++ e) = 0 ↔ env.take n = env.drop n) → A.fin (enc [o]) st0 (env ++ e)) : (neF n).holds A env := by
  obtain ⟨h1, h2⟩ := two_vr hl
  refine difT_ok _ _ _ env (rev_ne hn) (by simp [vr]) hl.symm (rev_bd (by omega)) (rev_bd (by omega)) (by rw [List.map_reverse, h1]; exact wds_rev (hw.take n)) (by rw [List.map_reverse, h2]; exact wds_rev (hw.drop n)) fun e o ne' g1 g2 g3 g4 => ?_
  rw [map_rev_eq, h1, h2] at g4
  exact hk e o g4

def lawEqT (n : Nat) (q : List Int) : Tree :=
  chkT q (vr 0 n) (2 * n) (chkT q (vr n n) (2 * n + 1) (.dfn (.eqs n) (vr 0 n ++ vr n n) (.hav 2 (vr 0 n ++ vr n n) 1 (.dfn (.cmp .eql) [.var (2 * n + 3), .var (2 * n + 2)]
    (.br (2 * n + 4) (.dfn (.eqs n) (vr 0 n ++ vr n n) (.hav 3 (vr 0 n ++ vr n n) 1 (.dfn (.cmp .eql) [.var (2 * n + 6), .lit 0] (.dfn (.cmp .eql) [.var (2 * n + 7), .var (2 * n + 5)]
      (.br (2 * n + 8) (.hav 2 (vr 0 n ++ vr 0 n) 1 (.fin (enc [.var (2 * n + 9)]) st0)) (.fin (enc [.lit 0]) st0)))))) (.fin (enc [.lit 0]) st0))))))
theorem beq_dec (l m : List Int) : (l == m) = decide (l = m) := by
  rw [Bool.eq_iff_iff, beq_iff_eq, decide_eq_true_eq]
theorem lawEqT_ok (hA : WAsk A n q) (hE : WEq A n) (hq : WQ n q) {env : List Int} (hl : env.length = 2 * n) (hw : Wds env)
    (hfin : ∀ (e : List Int) (o : SI), o.val (env ++ e) = 1 → A.fin (enc [o]) st0 (env ++ e)) : (lawEqT n q).holds A env := by
  obtain ⟨h1, h2⟩ := two_vr hl
  have la : (env.take n).length = n := by simp; omega
  have lb : (env.drop n).length = n := by simp; omega
  have wa := hw.take n
  have wb := hw.drop n
  generalize env.take n = a at *
  generalize env.drop n = b at *
  refine chkT_ok hA hq vr_length hl.symm (by rw [h1]; exact wa) (fun e => hfin e (.lit 1) rfl) fun ha v => ?_
  have k1 : (vr 0 n).map (·.val (env ++ [v])) = a := by rw [vals_more (vr_bd (by omega)), h1]
  have k2 : (vr n n).map (·.val (env ++ [v])) = b := by rw [vals_more (vr_bd (by omega)), h2]
  refine chkT_ok hA hq vr_length (by simp [hl]) (by rw [k2]; exact wb) (fun e => by rw [List.append_assoc]; exact hfin _ (.lit 1) rfl) fun hb v' => ?_
  have l1 : (env ++ [v]).length = 2 * n + 1 := by simp [hl]
  have k1 : (vr 0 n).map (·.val (env ++ [v] ++ [v'])) = a := by rw [vals_more (vr_bd (by omega)), k1]
  have k2 : (vr n n).map (·.val (env ++ [v] ++ [v'])) = b := by rw [vals_more (vr_bd (by omega)), k2]
  have l2 : (env ++ [v] ++ [v']).length = 2 * n + 2 := by simp [hl]
  have e2 : ∀ e, env ++ [v] ++ [v'] ++ e = env ++ ([v] ++ [v'] ++ e) := by simp
  generalize env ++ [v] ++ [v'] = E at *
  have mk : ∀ e : List Int, (vr 0 n).map (·.val (E ++ e)) = a ∧ (vr n n).map (·.val (E ++ e)) = b := fun e => ⟨by rw [vals_more (vr_bd (by omega)), k1], by rw [vals_more (vr_bd (by omega)), k2]⟩
  intro x hx
  have hx : x = b01 (((vr 0 n ++ vr n n).map (·.val E)).take n == ((vr 0 n ++ vr n n).map (·.val E)).drop n) := hx
  rw [vals_app k1 k2, take_app la, drop_app la, beq_dec] at hx
  refine ⟨by rw [vals_app (mk _).1 (mk _).2]; exact hA.pre _ _ (by decide) (Wds.append wa wb), fun ys _ hp => ?_⟩
  rw [vals_app (mk _).1 (mk _).2] at hp
  have hp := hE.eq _ _ hp
  rw [take_app la, drop_app la, ← hx] at hp
  subst hp
  intro y hy
  have hy : y = b01 ((E ++ [x] ++ [x]).getD (2 * n + 3) 0 == (E ++ [x] ++ [x]).getD (2 * n + 2) 0) := hy
  have g1 : (E ++ [x] ++ [x]).getD (2 * n + 3) 0 = x := at_end (by simp [l2])
  have g2 : (E ++ [x] ++ [x]).getD (2 * n + 2) 0 = x := by rw [at_old (by simp [l2])]; exact at_end l2.symm
  rw [g1, g2, beq_self_eq_true] at hy
  have hy : y = 1 := hy
  subst hy
  have gy : (E ++ [x] ++ [x] ++ [1]).getD (2 * n + 4) 0 = 1 := at_end (by simp [l2])
  refine ⟨fun _ => ?_, fun h => by rw [gy] at h; exact absurd h (by decide)⟩
  intro x' hx'
  have e3 : ∀ e, E ++ [x] ++ [x] ++ [1] ++ e = E ++ ([x] ++ [x] ++ [1] ++ e) := by simp
  have hx' : x' = b01 (((vr 0 n ++ vr n n).map (·.val (E ++ [x] ++ [x] ++ [1]))).take n == ((vr 0 n ++ vr n n).map (·.val (E ++ [x] ++ [x] ++ [1]))).drop n) := hx'
  rw [show E ++ [x] ++ [x] ++ [(1 : Int)] = E ++ ([x] ++ [x] ++ [1]) by simp, vals_app (mk _).1 (mk _).2, take_app la, drop_app la, beq_dec, ← hx] at hx'
  subst hx'
  rw [e3]
  refine ⟨by rw [vals_app (mk _).1 (mk _).2]; exact hA.pre _ _ (by decide) (Wds.append wa wb), fun ys _ hp => ?_⟩
  rw [vals_app (mk _).1 (mk _).2] at hp
  obtain ⟨z, rfl, hz⟩ := hE.ne _ _ hp
  rw [take_app la, drop_app la] at hz
  intro t ht
  have lE2 : (E ++ ([x'] ++ [x'] ++ [1] ++ [x'])).length = 2 * n + 6 := by simp [l2]
  have ht : t = b01 ((E ++ ([x'] ++ [x'] ++ [1] ++ [x']) ++ [z]).getD (2 * n + 6) 0 == 0) := ht
  rw [at_end lE2.symm] at ht
  have htx : t = x' := by
    rw [ht, hx]
    congr 1
    rw [Bool.eq_iff_iff, beq_iff_eq, decide_eq_true_eq]
    exact hz
  intro s hs
  have hs : s = b01 ((E ++ ([x'] ++ [x'] ++ [1] ++ [x']) ++ [z] ++ [t]).getD (2 * n + 7) 0 == (E ++ ([x'] ++ [x'] ++ [1] ++ [x']) ++ [z] ++ [t]).getD (2 * n + 5) 0) := hs
  have g3 : (E ++ ([x'] ++ [x'] ++ [1] ++ [x']) ++ [z] ++ [t]).getD (2 * n + 7) 0 = t := at_end (by simp [l2])
  have g4 : (E ++ ([x'] ++ [x'] ++ [1] ++ [x']) ++ [z] ++ [t]).getD (2 * n + 5) 0 = x' := by
    rw [at_old (by simp [l2]), at_old (by simp [l2]), show E ++ ([x'] ++ [x'] ++ [1] ++ [x']) = E ++ ([x'] ++ [x'] ++ [1]) ++ [x'] by simp]
    exact at_end (by simp [l2])
  rw [g3, g4, htx, beq_self_eq_true] at hs
  have hs : s = 1 := hs
  subst hs
  have gs : (E ++ ([x'] ++ [x'] ++ [1] ++ [x']) ++ [z] ++ [t] ++ [1]).getD (2 * n + 8) 0 = 1 := at_end (by simp [l2])
  have e4 : ∀ e, E ++ ([x'] ++ [x'] ++ [1] ++ [x']) ++ [z] ++ [t] ++ [1] ++ e = E ++ ([x'] ++ [x'] ++ [1] ++ [x'] ++ [z] ++ [t] ++ [1] ++ e) := by simp
  have e5 : E ++ ([x'] ++ [x'] ++ [1] ++ [x']) ++ [z] ++ [t] ++ [(1 : Int)] = E ++ ([x'] ++ [x'] ++ [1] ++ [x'] ++ [z] ++ [t] ++ [1]) := by simp
  refine ⟨fun _ => ?_, fun h => by rw [gs] at h; exact absurd h (by decide)⟩
  rw [e5]
  refine ⟨by rw [vals_app (mk _).1 (mk _).1]; exact hA.pre _ _ (by decide) (Wds.append wa wa), fun ys _ hp => ?_⟩
  rw [vals_app (mk _).1 (mk _).1] at hp
  have hp := hE.eq _ _ hp
  rw [take_app la, drop_app la, decide_eq_true rfl] at hp
  subst hp
  have := hfin ([v] ++ [v'] ++ ([x'] ++ [x'] ++ [1] ++ [x'] ++ [z] ++ [t] ++ [1] ++ [b01 true])) (.var (2 * n + 9)) (by
    rw [← e2, ← List.append_assoc E]
    exact val_end (by simp [l2]))
  rw [← e2, ← List.append_assoc E] at this
  exact this
end
end Eng
