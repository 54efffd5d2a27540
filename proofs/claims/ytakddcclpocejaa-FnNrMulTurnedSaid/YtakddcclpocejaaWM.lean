/-
  Numbers by words: the field's sums and differences and the reference's, as trees of facts, for any number of words.
-/
import Derived.Test.YtakddcclpocejaaWL
namespace Eng
open Go

theorem vals_new {env ys : List Int} {i m : Nat} (hi : i = env.length) (hm : m = ys.length) : (vr i m).map (·.val (env ++ ys)) = ys := by
  subst hi; subst hm
  rw [vr_vals (by simp), List.drop_left, List.take_length]
theorem b01_one (t : Bool) : b01 t = 1 ↔ t = true := by cases t <;> simp [b01]
theorem b01_zero (t : Bool) : b01 t = 0 ↔ t = false := by cases t <;> simp [b01]
theorem wd_b01 (t : Bool) : Wd (b01 t) := by cases t <;> exact ⟨by decide, by decide⟩
theorem Wds.append {l m : List Int} (h : Wds l) (k : Wds m) : Wds (l ++ m) := fun x hx => (List.mem_append.1 hx).elim (h x) (k x)
theorem Wds.take {l : List Int} (h : Wds l) (n : Nat) : Wds (l.take n) := fun x hx => h x (List.mem_of_mem_take hx)
theorem Wds.drop {l : List Int} (h : Wds l) (n : Nat) : Wds (l.drop n) := fun x hx => h x (List.mem_of_mem_drop hx)
theorem wds_vr {env : List Int} {i n : Nat} (h : Wds env) (hi : i + n ≤ env.length) : Wds ((vr i n).map (·.val env)) := by
  rw [vr_vals hi]; exact (h.drop i).take n

/-! ### comparisons -/
theorem mul_pos_le {P x y : Int} (hP : 0 < P) (h : x < y) : P * x + P ≤ P * y := by
  have h1 := Int.mul_le_mul_of_nonneg_left (show x + 1 ≤ y by omega) (show 0 ≤ P by omega)
  rw [Int.mul_add, Int.mul_one] at h1
  exact h1
theorem cmp_high {a b P x y : Int} (ha : 0 ≤ a) (ha' : a < P) (hb : 0 ≤ b) (hb' : b < P) : (a + P * x < b + P * y) ↔ (x < y ∨ (x = y ∧ a < b)) := by
  rcases Int.lt_trichotomy x y with h | h | h
  · have := mul_pos_le (P := P) (by omega) h
    exact ⟨fun _ => .inl h, fun _ => by omega⟩
  · subst h
    constructor
    · intro h; exact .inr ⟨rfl, by omega⟩
    · rintro (h | ⟨_, h⟩) <;> omega
  · have := mul_pos_le (P := P) (by omega) h
    constructor
    · intro _; omega
    · rintro (h' | ⟨h', _⟩) <;> omega

def lessR : List SI → List SI → Nat → Tree
  | x :: xs, y :: ys, ne => .dfn (.cmp .neq) [x, y] (.br ne (.dfn (.cmp .lss) [x, y] (.fin (enc [.var (ne + 1)]) st0)) (lessR xs ys (ne + 1)))
  | _, _, _ => .fin (enc [.lit 0]) st0
def smallR : List SI → List SI → Nat → Tree
  | [x], [y], ne => .dfn (.cmp .lss) [x, y] (.fin (enc [.var ne]) st0)
  | x :: xs, y :: ys, ne => .dfn (.cmp .lss) [x, y] (.br ne (.fin (enc [.lit 1]) st0) (.dfn (.cmp .eql) [x, y] (.br (ne + 1) (smallR xs ys (ne + 2)) (.fin (enc [.lit 0]) st0))))
  | _, _, _ => .bad 50
def sameT : List SI → List SI → Nat → Tree
  | x :: xs, y :: ys, ne => .dfn (.cmp .neq) [x, y] (.br ne (.fin (enc [.lit 0]) st0) (sameT xs ys (ne + 1)))
  | _, _, _ => .fin (enc [.lit 1]) st0

theorem vw_rev_cons {x : Int} {l : List Int} : vw (x :: l).reverse = vw l.reverse + BW ^ l.length * x := by
  rw [List.reverse_cons, vw_snoc, List.length_reverse]
theorem wds_rev {l : List Int} (h : Wds l) : Wds l.reverse := fun x hx => h x (List.mem_reverse.1 hx)
theorem rev_lt {x y : Int} {l m : List Int} (hl : l.length = m.length) (wl : Wds l) (wm : Wds m) : (vw (x :: l).reverse < vw (y :: m).reverse) ↔ (x < y ∨ (x = y ∧ vw l.reverse < vw m.reverse)) := by
  have h1 := vw_bounds (wds_rev wl)
  have h2 := vw_bounds (wds_rev wm)
  rw [List.length_reverse] at h1 h2
  rw [← hl] at h2
  rw [vw_rev_cons, vw_rev_cons, ← hl]
  exact cmp_high h1.1 h1.2 h2.1 h2.2

section
variable {A : Ask}

theorem lessR_ok : ∀ (xs ys : List SI) (ne : Nat) (env : List Int), xs.length = ys.length → ne = env.length → (∀ x ∈ xs, Bd ne x) → (∀ y ∈ ys, Bd ne y) → Wds (xs.map (·.val env)) → Wds (ys.map (·.val env)) →
    (∀ (e : List Int) (o : SI), o.val (env ++ e) = b01 (decide (vw (xs.map (·.val env)).reverse < vw (ys.map (·.val env)).reverse)) → A.fin (enc [o]) st0 (env ++ e)) → (lessR xs ys ne).holds A env
  | [], [], ne, env, _, _, _, _, _, _, hk => by
    have := hk [] (.lit 0) rfl
    simp only [List.append_nil] at this
    exact this
  | x :: xs, y :: ys, ne, env, hl, hne, hx, hy, wx, wy, hk => by
    have bx := hx x (List.mem_cons_self ..)
    have by' := hy y (List.mem_cons_self ..)
    obtain ⟨wx0, wx⟩ := Wds.tail (by simpa using wx)
    obtain ⟨wy0, wy⟩ := Wds.tail (by simpa using wy)
    rw [hne] at bx by'
    have hlt := rev_lt (x := x.val env) (y := y.val env) (by simpa using hl) wx wy
    have hk : ∀ (e : List Int) (o : SI), o.val (env ++ e) = b01 (decide (x.val env < y.val env ∨ (x.val env = y.val env ∧ vw (xs.map (·.val env)).reverse < vw (ys.map (·.val env)).reverse))) → A.fin (enc [o]) st0 (env ++ e) :=
      fun e o ho => hk e o (by rw [ho]; congr 1; rw [decide_eq_decide]; exact hlt.symm)
    intro t ht
    have ht : t = b01 (x.val env != y.val env) := ht
    have vt : (env ++ [t]).getD ne 0 = t := at_end hne
    have mx : xs.map (·.val (env ++ [t])) = xs.map (·.val env) := vals_more fun z hz => by rw [← hne]; exact hx z (List.mem_cons_of_mem _ hz)
    have my : ys.map (·.val (env ++ [t])) = ys.map (·.val env) := vals_more fun z hz => by rw [← hne]; exact hy z (List.mem_cons_of_mem _ hz)
    refine ⟨fun h1 => ?_, fun h0 => ?_⟩
    · rw [vt, ht, b01_one, bne_iff_ne] at h1
      intro s hs
      have hs : s = b01 (decide (x.val (env ++ [t]) < y.val (env ++ [t]))) := hs
      rw [val_more bx, val_more by'] at hs
      have := hk ([t] ++ [s]) (.var (ne + 1)) (by
        rw [← List.append_assoc, val_end (by simp [hne]), hs]
        congr 1
        rw [decide_eq_decide]
        exact ⟨fun h => .inl h, fun h => h.elim id fun h => absurd h.1 h1⟩)
      rw [← List.append_assoc] at this
      exact this
    · rw [vt, ht, b01_zero, bne_eq_false_iff_eq] at h0
      refine lessR_ok xs ys (ne + 1) (env ++ [t]) (by simpa using hl) (by simp [hne]) (fun z hz => (hx z (List.mem_cons_of_mem _ hz)).more (by omega)) (fun z hz => (hy z (List.mem_cons_of_mem _ hz)).more (by omega))
        (by rw [mx]; exact wx) (by rw [my]; exact wy) fun e o ho => ?_
      rw [mx, my] at ho
      have := hk ([t] ++ e) o (by
        rw [← List.append_assoc, ho]
        congr 1
        rw [decide_eq_decide]
        exact ⟨fun h => .inr ⟨h0, h⟩, fun h => h.elim (fun h => by omega) (·.2)⟩)
      rw [← List.append_assoc] at this
      exact this
  | [], _ :: _, _, _, h, _, _, _, _, _, _ => by simp at h
  | _ :: _, [], _, _, h, _, _, _, _, _, _ => by simp at h

theorem smallR_ok : ∀ (xs ys : List SI) (ne : Nat) (env : List Int), xs ≠ [] → xs.length = ys.length → ne = env.length → (∀ x ∈ xs, Bd ne x) → (∀ y ∈ ys, Bd ne y) → Wds (xs.map (·.val env)) → Wds (ys.map (·.val env)) →
    (∀ (e : List Int) (o : SI), o.val (env ++ e) = b01 (decide (vw (xs.map (·.val env)).reverse < vw (ys.map (·.val env)).reverse)) → A.fin (enc [o]) st0 (env ++ e)) → (smallR xs ys ne).holds A env
  | [], _, _, _, h, _, _, _, _, _, _, _ => absurd rfl h
  | [x], [y], ne, env, _, hl, hne, hx, hy, wx, wy, hk => by
    intro t ht
    have ht : t = b01 (decide (x.val env < y.val env)) := ht
    refine hk [t] (.var ne) ?_
    rw [val_end hne, ht]
    simp [vw]
  | x :: x' :: xs, y :: y' :: ys, ne, env, _, hl, hne, hx, hy, wx, wy, hk => by
    have bx := hx x (List.mem_cons_self ..)
    have by' := hy y (List.mem_cons_self ..)
    obtain ⟨wx0, wx⟩ := Wds.tail (by simpa using wx)
    obtain ⟨wy0, wy⟩ := Wds.tail (by simpa using wy)
    rw [hne] at bx by'
    have hlt := rev_lt (x := x.val env) (y := y.val env) (l := (x' :: xs).map (·.val env)) (m := (y' :: ys).map (·.val env)) (by simpa using hl) (by simpa using wx) (by simpa using wy)
    have hk : ∀ (e : List Int) (o : SI), o.val (env ++ e) = b01 (decide (x.val env < y.val env ∨ (x.val env = y.val env ∧ vw ((x' :: xs).map (·.val env)).reverse < vw ((y' :: ys).map (·.val env)).reverse))) → A.fin (enc [o]) st0 (env ++ e) :=
      fun e o ho => hk e o (by rw [ho]; congr 1; rw [decide_eq_decide]; exact hlt.symm)
    intro t ht
    have ht : t = b01 (decide (x.val env < y.val env)) := ht
    have vt : (env ++ [t]).getD ne 0 = t := at_end hne
    refine ⟨fun h1 => ?_, fun h0 => ?_⟩
    · rw [vt, ht, b01_one, decide_eq_true_eq] at h1
      refine hk [t] (.lit 1) ?_
      rw [decide_eq_true (.inl h1)]
      rfl
    · rw [vt, ht, b01_zero, decide_eq_false_iff_not] at h0
      intro s hs
      have hs : s = b01 (x.val (env ++ [t]) == y.val (env ++ [t])) := hs
      rw [val_more bx, val_more by'] at hs
      have vs : (env ++ [t] ++ [s]).getD (ne + 1) 0 = s := at_end (by simp [hne])
      have env2 : env ++ [t] ++ [s] = env ++ ([t] ++ [s]) := by simp
      have mx : (x' :: xs).map (·.val (env ++ [t] ++ [s])) = (x' :: xs).map (·.val env) := by rw [env2]; exact vals_more fun z hz => by rw [← hne]; exact hx z (List.mem_cons_of_mem _ hz)
      have my : (y' :: ys).map (·.val (env ++ [t] ++ [s])) = (y' :: ys).map (·.val env) := by rw [env2]; exact vals_more fun z hz => by rw [← hne]; exact hy z (List.mem_cons_of_mem _ hz)
      refine ⟨fun h1 => ?_, fun h2 => ?_⟩
      · rw [vs, hs, b01_one, beq_iff_eq] at h1
        refine smallR_ok (x' :: xs) (y' :: ys) (ne + 2) (env ++ [t] ++ [s]) (by simp) (by simpa using hl) (by simp [hne]) (fun z hz => (hx z (List.mem_cons_of_mem _ hz)).more (by omega)) (fun z hz => (hy z (List.mem_cons_of_mem _ hz)).more (by omega))
          (by rw [mx]; exact wx) (by rw [my]; exact wy) fun e o ho => ?_
        rw [mx, my] at ho
        have := hk ([t] ++ [s] ++ e) o (by
          rw [← List.append_assoc, ← env2, ho]
          congr 1
          rw [decide_eq_decide]
          exact ⟨fun h => .inr ⟨h1, h⟩, fun h => h.elim (fun h => by omega) (·.2)⟩)
        rw [← List.append_assoc, ← env2] at this
        exact this
      · rw [vs, hs, b01_zero, beq_eq_false_iff_ne] at h2
        have := hk ([t] ++ [s]) (.lit 0) (by
          rw [decide_eq_false]
          · rfl
          · rintro (h | ⟨h, _⟩)
            · exact h0 h
            · exact h2 h)
        rw [← env2] at this
        exact this
  | _ :: _, [], _, _, _, h, _, _, _, _, _, _ => by simp at h
  | [_], _ :: _ :: _, _, _, _, h, _, _, _, _, _, _ => by simp at h
  | _ :: _ :: _, [_], _, _, _, h, _, _, _, _, _, _ => by simp at h

theorem sameT_ok : ∀ (xs ys : List SI) (ne : Nat) (env : List Int), xs.length = ys.length → ne = env.length → (∀ x ∈ xs, Bd ne x) → (∀ y ∈ ys, Bd ne y) →
    (∀ (e : List Int) (o : SI), o.val (env ++ e) = b01 (decide (xs.map (·.val env) = ys.map (·.val env))) → A.fin (enc [o]) st0 (env ++ e)) → (sameT xs ys ne).holds A env
  | [], [], ne, env, _, _, _, _, hk => by
    have := hk [] (.lit 1) rfl
    simp only [List.append_nil] at this
    exact this
  | x :: xs, y :: ys, ne, env, hl, hne, hx, hy, hk => by
    have bx := hx x (List.mem_cons_self ..)
    have by' := hy y (List.mem_cons_self ..)
    rw [hne] at bx by'
    have hk : ∀ (e : List Int) (o : SI), o.val (env ++ e) = b01 (decide (x.val env = y.val env ∧ xs.map (·.val env) = ys.map (·.val env))) → A.fin (enc [o]) st0 (env ++ e) :=
      fun e o ho => hk e o (by rw [ho]; congr 1; rw [decide_eq_decide, List.map_cons, List.map_cons, List.cons.injEq])
    intro t ht
    have ht : t = b01 (x.val env != y.val env) := ht
    have vt : (env ++ [t]).getD ne 0 = t := at_end hne
    have mx : xs.map (·.val (env ++ [t])) = xs.map (·.val env) := vals_more fun z hz => by rw [← hne]; exact hx z (List.mem_cons_of_mem _ hz)
    have my : ys.map (·.val (env ++ [t])) = ys.map (·.val env) := vals_more fun z hz => by rw [← hne]; exact hy z (List.mem_cons_of_mem _ hz)
    refine ⟨fun h1 => ?_, fun h0 => ?_⟩
    · rw [vt, ht, b01_one, bne_iff_ne] at h1
      refine hk [t] (.lit 0) ?_
      rw [decide_eq_false (fun h => h1 h.1)]
      rfl
    · rw [vt, ht, b01_zero, bne_eq_false_iff_eq] at h0
      refine sameT_ok xs ys (ne + 1) (env ++ [t]) (by simpa using hl) (by simp [hne]) (fun z hz => (hx z (List.mem_cons_of_mem _ hz)).more (by omega)) (fun z hz => (hy z (List.mem_cons_of_mem _ hz)).more (by omega)) fun e o ho => ?_
      rw [mx, my] at ho
      have := hk ([t] ++ e) o (by
        rw [← List.append_assoc, ho]
        congr 1
        rw [decide_eq_decide]
        exact ⟨fun h => ⟨h0, h⟩, fun h => h.2⟩)
      rw [← List.append_assoc] at this
      exact this
  | [], _ :: _, _, _, h, _, _, _, _ => by simp at h
  | _ :: _, [], _, _, h, _, _, _, _ => by simp at h
end
end Eng
