/-
  Numbers by words: straight lines of sums and differences with carries, comparisons, as trees of facts; for any number of words.
-/
import Derived.Test.YtakddcclpocejaaPM
namespace Eng
open Go

def Bd (n : Nat) : SI → Prop
  | .lit _ => True
  | .var i => i < n
def vr (i n : Nat) : List SI := (List.range n).map fun j => .var (i + j)
def ls (q : List Int) : List SI := q.map .lit

theorem val_more {env e : List Int} {x : SI} (h : Bd env.length x) : x.val (env ++ e) = x.val env := by
  cases x with
  | lit n => rfl
  | var i => exact at_old h
theorem vals_more {env e : List Int} {xs : List SI} (h : ∀ x ∈ xs, Bd env.length x) : xs.map (·.val (env ++ e)) = xs.map (·.val env) :=
  List.map_congr_left fun x hx => val_more (h x hx)
theorem Bd.more {n m : Nat} {x : SI} (h : Bd n x) (hm : n ≤ m) : Bd m x := by
  cases x with
  | lit _ => trivial
  | var i => exact Nat.lt_of_lt_of_le h hm
theorem val_var {env : List Int} {i : Nat} : (SI.var i).val env = env.getD i 0 := rfl
theorem val_end {env : List Int} {x : Int} {n : Nat} (h : n = env.length) : (SI.var n).val (env ++ [x]) = x := at_end h
theorem vr_bd {i n m : Nat} (h : i + n ≤ m) : ∀ x ∈ vr i n, Bd m x := by
  intro x hx
  obtain ⟨j, hj, rfl⟩ := List.mem_map.1 hx
  have := List.mem_range.1 hj
  show i + j < m
  omega
theorem ls_bd {q : List Int} {m : Nat} : ∀ x ∈ ls q, Bd m x := by
  intro x hx
  obtain ⟨j, hj, rfl⟩ := List.mem_map.1 hx
  trivial
theorem ls_vals {q env : List Int} : (ls q).map (·.val env) = q := by simp [ls, SI.val, Function.comp_def]
theorem vr_length {i n : Nat} : (vr i n).length = n := by simp [vr]
theorem vr_vals {env : List Int} {i n : Nat} (h : i + n ≤ env.length) : (vr i n).map (·.val env) = (env.drop i).take n := by
  apply List.ext_getElem?
  intro j
  simp only [vr, List.map_map, List.getElem?_map]
  rcases Nat.lt_or_ge j n with hj | hj
  · rw [List.getElem?_range hj, List.getElem?_take_of_lt hj, List.getElem?_drop]
    simp only [Option.map_some, Function.comp, SI.val]
    rw [List.getD_eq_getElem?_getD, List.getElem?_eq_getElem (by omega)]
    rfl
  · rw [List.getElem?_eq_none (by simp; omega), List.getElem?_eq_none (by simp; omega)]
    rfl

theorem sub_step {x y c d k : Int} (hx : Wd x) (hy : Wd y) (hc : c = 0 ∨ c = 1) (hd : d = ((x.toNat + 18446744073709551616 - y.toNat - c.toNat) % 18446744073709551616 : Nat)) (hk : k = b01 (decide (x.toNat < y.toNat + c.toNat))) :
    Wd d ∧ (k = 0 ∨ k = 1) ∧ d - BW * k = x - y - c := by
  obtain ⟨h1, h2⟩ := hx
  obtain ⟨h3, h4⟩ := hy
  simp only [Wd, BW]
  by_cases h : x.toNat < y.toNat + c.toNat
  · rw [decide_eq_true h] at hk
    have hk : k = 1 := hk
    subst hk
    rcases hc with rfl | rfl <;> simp at h hd ⊢ <;> omega
  · rw [decide_eq_false h] at hk
    have hk : k = 0 := hk
    subst hk
    rcases hc with rfl | rfl <;> simp at h hd ⊢ <;> omega
theorem add_step {x y c d k : Int} (hx : Wd x) (hy : Wd y) (hc : c = 0 ∨ c = 1) (hd : d = ((x.toNat + y.toNat + c.toNat) % 18446744073709551616 : Nat)) (hk : k = b01 (decide (18446744073709551616 ≤ x.toNat + y.toNat + c.toNat))) :
    Wd d ∧ (k = 0 ∨ k = 1) ∧ d + BW * k = x + y + c := by
  obtain ⟨h1, h2⟩ := hx
  obtain ⟨h3, h4⟩ := hy
  simp only [Wd, BW]
  by_cases h : 18446744073709551616 ≤ x.toNat + y.toNat + c.toNat
  · rw [decide_eq_true h] at hk
    have hk : k = 1 := hk
    subst hk
    rcases hc with rfl | rfl <;> simp at h hd ⊢ <;> omega
  · rw [decide_eq_false h] at hk
    have hk : k = 0 := hk
    subst hk
    rcases hc with rfl | rfl <;> simp at h hd ⊢ <;> omega

def subCh (k : List SI → SI → Nat → Tree) : List SI → List SI → SI → Nat → List SI → Tree
  | x :: xs, y :: ys, c, ne, outs => .dfn .subD [x, y, c] (.dfn .subB [x, y, c] (subCh k xs ys (.var (ne + 1)) (ne + 2) (outs ++ [.var ne])))
  | _, _, c, ne, outs => k outs c ne
def addCh (k : List SI → SI → Nat → Tree) : List SI → List SI → SI → Nat → List SI → Tree
  | x :: xs, y :: ys, c, ne, outs => .dfn .addS [x, y, c] (.dfn .addC [x, y, c] (addCh k xs ys (.var (ne + 1)) (ne + 2) (outs ++ [.var ne])))
  | _, _, c, ne, outs => k outs c ne

/-- What a chain has come to. -/
structure ChOk (sg : Int) (env : List Int) (outs : List SI) (X Y : List Int) (c : Int) (n : Nat) (e : List Int) (os : List SI) (c' : SI) (ne' : Nat) : Prop where
  ne : ne' = (env ++ e).length
  cb : Bd ne' c'
  ob : ∀ z ∈ os, Bd ne' z
  bit : c'.val (env ++ e) = 0 ∨ c'.val (env ++ e) = 1
  val : ∃ d : List Int, os.map (·.val (env ++ e)) = outs.map (·.val env) ++ d ∧ Wds d ∧ d.length = n ∧ vw d + sg * (BW ^ n * c'.val (env ++ e)) = vw X + sg * (vw Y + c)

theorem Wds.tail {x : Int} {l : List Int} (h : Wds (x :: l)) : Wd x ∧ Wds l := ⟨h x (List.mem_cons_self ..), fun y hy => h y (List.mem_cons_of_mem _ hy)⟩

theorem subCh_ok {A : Ask} {k : List SI → SI → Nat → Tree} : ∀ (xs ys : List SI) (c : SI) (ne : Nat) (outs : List SI) (env : List Int), xs.length = ys.length → ne = env.length → (∀ x ∈ xs, Bd ne x) → (∀ y ∈ ys, Bd ne y) → Bd ne c →
    (∀ z ∈ outs, Bd ne z) → Wds (xs.map (·.val env)) → Wds (ys.map (·.val env)) → (c.val env = 0 ∨ c.val env = 1) →
    (∀ (e : List Int) (os : List SI) (c' : SI) (ne' : Nat), ChOk (-1) env outs (xs.map (·.val env)) (ys.map (·.val env)) (c.val env) xs.length e os c' ne' → (k os c' ne').holds A (env ++ e)) →
    (subCh k xs ys c ne outs).holds A env
  | [], [], c, ne, outs, env, _, hne, _, _, hc, ho, _, _, hb, hk => by
    have := hk [] outs c ne ⟨by simpa using hne, hc, ho, by simpa using hb, [], by simp, (fun x hx => by cases hx), rfl, by simp [vw]⟩
    simp only [List.append_nil] at this
    exact this
  | x :: xs, y :: ys, c, ne, outs, env, hl, hne, hx, hy, hc, ho, wx, wy, hb, hk => by
    have bx := hx x (List.mem_cons_self ..)
    have by' := hy y (List.mem_cons_self ..)
    obtain ⟨wx0, wx⟩ := Wds.tail (by simpa using wx)
    obtain ⟨wy0, wy⟩ := Wds.tail (by simpa using wy)
    rw [hne] at bx by' hc
    intro d hd
    intro b hb2
    have hd : d = (((x.val env).toNat + 18446744073709551616 - (y.val env).toNat - (c.val env).toNat) % 18446744073709551616 : Nat) := hd
    have hb2 : b = b01 (decide ((x.val (env ++ [d])).toNat < (y.val (env ++ [d])).toNat + (c.val (env ++ [d])).toNat)) := hb2
    rw [val_more bx, val_more by', val_more hc] at hb2
    obtain ⟨wd, bb, e⟩ := sub_step wx0 wy0 hb hd hb2
    have hne2 : ne + 2 = (env ++ [d] ++ [b]).length := by simp [hne]
    have env2 : env ++ [d] ++ [b] = env ++ ([d] ++ [b]) := by simp
    have mx : xs.map (·.val (env ++ [d] ++ [b])) = xs.map (·.val env) := by rw [env2]; exact vals_more fun z hz => by rw [← hne]; exact hx z (List.mem_cons_of_mem _ hz)
    have my : ys.map (·.val (env ++ [d] ++ [b])) = ys.map (·.val env) := by rw [env2]; exact vals_more fun z hz => by rw [← hne]; exact hy z (List.mem_cons_of_mem _ hz)
    have mo : outs.map (·.val (env ++ [d] ++ [b])) = outs.map (·.val env) := by rw [env2]; exact vals_more fun z hz => by rw [← hne]; exact ho z hz
    have vb : (SI.var (ne + 1)).val (env ++ [d] ++ [b]) = b := val_end (by simp [hne])
    have vd : (SI.var ne).val (env ++ [d] ++ [b]) = d := by rw [val_more (x := .var ne) (by show ne < _; simp [hne])]; exact val_end hne
    refine subCh_ok xs ys (.var (ne + 1)) (ne + 2) (outs ++ [.var ne]) (env ++ [d] ++ [b]) (by simpa using hl) hne2 (fun z hz => (hx z (List.mem_cons_of_mem _ hz)).more (by omega)) (fun z hz => (hy z (List.mem_cons_of_mem _ hz)).more (by omega))
      (show ne + 1 < ne + 2 by omega) ?_ (by rw [mx]; exact wx) (by rw [my]; exact wy) (by rw [vb]; exact bb) ?_
    · intro z hz
      rcases List.mem_append.1 hz with h | h
      · exact (ho z h).more (by omega)
      · simp at h; subst h; show ne < ne + 2; omega
    · intro e' os c' ne' hq
      rw [mx, my, vb] at hq
      have := hk ([d] ++ [b] ++ e') os c' ne' ?_
      · simpa using this
      · obtain ⟨q1, q2, q3, q4, dd, q5, q6, q7, q8⟩ := hq
        have ee : env ++ ([d] ++ [b] ++ e') = env ++ [d] ++ [b] ++ e' := by simp
        refine ⟨by rw [ee]; exact q1, q2, q3, by rw [ee]; exact q4, d :: dd, ?_, ?_, by simp [q7], ?_⟩
        · rw [ee, q5, List.map_append, mo, List.map_cons, List.map_nil, vd, List.append_assoc]
          rfl
        · intro z hz
          rcases List.mem_cons.1 hz with rfl | hz
          · exact wd
          · exact q6 z hz
        · rw [ee]
          simp only [vw, List.map_cons, List.length_cons, Int.pow_succ]
          rw [Int.mul_comm (BW ^ xs.length) BW, Int.mul_assoc]
          generalize BW ^ xs.length * c'.val (env ++ [d] ++ [b] ++ e') = T at *
          simp only [BW] at *
          omega
  | [], _ :: _, _, _, _, _, h, _, _, _, _, _, _, _, _, _ => by simp at h
  | _ :: _, [], _, _, _, _, h, _, _, _, _, _, _, _, _, _ => by simp at h
theorem addCh_ok {A : Ask} {k : List SI → SI → Nat → Tree} : ∀ (xs ys : List SI) (c : SI) (ne : Nat) (outs : List SI) (env : List Int), xs.length = ys.length → ne = env.length → (∀ x ∈ xs, Bd ne x) → (∀ y ∈ ys, Bd ne y) → Bd ne c →
    (∀ z ∈ outs, Bd ne z) → Wds (xs.map (·.val env)) → Wds (ys.map (·.val env)) → (c.val env = 0 ∨ c.val env = 1) →
    (∀ (e : List Int) (os : List SI) (c' : SI) (ne' : Nat), ChOk 1 env outs (xs.map (·.val env)) (ys.map (·.val env)) (c.val env) xs.length e os c' ne' → (k os c' ne').holds A (env ++ e)) →
    (addCh k xs ys c ne outs).holds A env
  | [], [], c, ne, outs, env, _, hne, _, _, hc, ho, _, _, hb, hk => by
    have := hk [] outs c ne ⟨by simpa using hne, hc, ho, by simpa using hb, [], by simp, (fun x hx => by cases hx), rfl, by simp [vw]⟩
    simp only [List.append_nil] at this
    exact this
  | x :: xs, y :: ys, c, ne, outs, env, hl, hne, hx, hy, hc, ho, wx, wy, hb, hk => by
    have bx := hx x (List.mem_cons_self ..)
    have by' := hy y (List.mem_cons_self ..)
    obtain ⟨wx0, wx⟩ := Wds.tail (by simpa using wx)
    obtain ⟨wy0, wy⟩ := Wds.tail (by simpa using wy)
    rw [hne] at bx by' hc
    intro d hd
    intro b hb2
    have hd : d = (((x.val env).toNat + (y.val env).toNat + (c.val env).toNat) % 18446744073709551616 : Nat) := hd
    have hb2 : b = b01 (decide (18446744073709551616 ≤ (x.val (env ++ [d])).toNat + (y.val (env ++ [d])).toNat + (c.val (env ++ [d])).toNat)) := hb2
    rw [val_more bx, val_more by', val_more hc] at hb2
    obtain ⟨wd, bb, e⟩ := add_step wx0 wy0 hb hd hb2
    have hne2 : ne + 2 = (env ++ [d] ++ [b]).length := by simp [hne]
    have env2 : env ++ [d] ++ [b] = env ++ ([d] ++ [b]) := by simp
    have mx : xs.map (·.val (env ++ [d] ++ [b])) = xs.map (·.val env) := by rw [env2]; exact vals_more fun z hz => by rw [← hne]; exact hx z (List.mem_cons_of_mem _ hz)
    have my : ys.map (·.val (env ++ [d] ++ [b])) = ys.map (·.val env) := by rw [env2]; exact vals_more fun z hz => by rw [← hne]; exact hy z (List.mem_cons_of_mem _ hz)
    have mo : outs.map (·.val (env ++ [d] ++ [b])) = outs.map (·.val env) := by rw [env2]; exact vals_more fun z hz => by rw [← hne]; exact ho z hz
    have vb : (SI.var (ne + 1)).val (env ++ [d] ++ [b]) = b := val_end (by simp [hne])
    have vd : (SI.var ne).val (env ++ [d] ++ [b]) = d := by rw [val_more (x := .var ne) (by show ne < _; simp [hne])]; exact val_end hne
    refine addCh_ok xs ys (.var (ne + 1)) (ne + 2) (outs ++ [.var ne]) (env ++ [d] ++ [b]) (by simpa using hl) hne2 (fun z hz => (hx z (List.mem_cons_of_mem _ hz)).more (by omega)) (fun z hz => (hy z (List.mem_cons_of_mem _ hz)).more (by omega))
      (show ne + 1 < ne + 2 by omega) ?_ (by rw [mx]; exact wx) (by rw [my]; exact wy) (by rw [vb]; exact bb) ?_
    · intro z hz
      rcases List.mem_append.1 hz with h | h
      · exact (ho z h).more (by omega)
      · simp at h; subst h; show ne < ne + 2; omega
    · intro e' os c' ne' hq
      rw [mx, my, vb] at hq
      have := hk ([d] ++ [b] ++ e') os c' ne' ?_
      · simpa using this
      · obtain ⟨q1, q2, q3, q4, dd, q5, q6, q7, q8⟩ := hq
        have ee : env ++ ([d] ++ [b] ++ e') = env ++ [d] ++ [b] ++ e' := by simp
        refine ⟨by rw [ee]; exact q1, q2, q3, by rw [ee]; exact q4, d :: dd, ?_, ?_, by simp [q7], ?_⟩
        · rw [ee, q5, List.map_append, mo, List.map_cons, List.map_nil, vd, List.append_assoc]
          rfl
        · intro z hz
          rcases List.mem_cons.1 hz with rfl | hz
          · exact wd
          · exact q6 z hz
        · rw [ee]
          simp only [vw, List.map_cons, List.length_cons, Int.pow_succ]
          rw [Int.mul_comm (BW ^ xs.length) BW, Int.mul_assoc]
          generalize BW ^ xs.length * c'.val (env ++ [d] ++ [b] ++ e') = T at *
          simp only [BW] at *
          omega
  | [], _ :: _, _, _, _, _, h, _, _, _, _, _, _, _, _, _ => by simp at h
  | _ :: _, [], _, _, _, _, h, _, _, _, _, _, _, _, _, _ => by simp at h
end Eng
