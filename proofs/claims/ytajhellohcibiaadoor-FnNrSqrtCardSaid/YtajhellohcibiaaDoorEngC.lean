/-
  Numbers by words: sums, differences, products by Montgomery, bytes. No conditions.
-/
import Derived.Test.YtajhellohcibiaaDoorEngB
import Derived.ProofKit
import Derived.OpenShut
import Derived.Lib.Mul64
section
/-
  Numbers by words: the reference's sum and difference, as trees of facts, for any number of words.
-/
namespace Eng
open Go

def BW : Int := 18446744073709551616
def vw : List Int → Int
  | [] => 0
  | x :: l => x + 18446744073709551616 * vw l
theorem vw_snoc (l : List Int) (x : Int) : vw (l ++ [x]) = vw l + BW ^ l.length * x := by
  induction l with
  | nil => simp [vw]
  | cons y l ih =>
    simp only [List.cons_append, vw, ih, List.length_cons, Int.pow_succ]
    rw [Int.mul_add]
    simp only [BW]
    have : (18446744073709551616 : Int) * ((18446744073709551616 : Int) ^ l.length * x) = (18446744073709551616 : Int) ^ l.length * 18446744073709551616 * x := by
      rw [← Int.mul_assoc, Int.mul_comm 18446744073709551616]
    omega
theorem vw_take {a : List Int} {i : Nat} (h : i < a.length) : vw (a.take (i + 1)) = vw (a.take i) + BW ^ i * a.getD i 0 := by
  have : a.take (i + 1) = a.take i ++ [a.getD i 0] := by
    rw [List.take_add_one, List.getD_eq_getElem?_getD, List.getElem?_eq_getElem h]
    rfl
  rw [this, vw_snoc, List.length_take, Nat.min_eq_left (by omega)]
def Wd (x : Int) : Prop := 0 ≤ x ∧ x < 18446744073709551616
def Wds (l : List Int) : Prop := ∀ x, x ∈ l → Wd x
theorem Wds.get {l : List Int} (h : Wds l) (i : Nat) : Wd (l.getD i 0) := by
  rw [List.getD_eq_getElem?_getD]
  cases hi : l[i]? with
  | none => exact ⟨by simp, by simp⟩
  | some x => exact h x (List.mem_of_getElem? hi)
theorem wrap_add {x y : Int} (hx : Wd x) (hy : Wd y) : IntKind.u64.wrap (x + y) = x + y ∧ x + y < 18446744073709551616 ∨ IntKind.u64.wrap (x + y) = x + y - 18446744073709551616 ∧ 18446744073709551616 ≤ x + y := by
  obtain ⟨h1, h2⟩ := hx
  obtain ⟨h3, h4⟩ := hy
  rw [IntKind.wrap_u64]
  omega
theorem wrap_sub {x y : Int} (hx : Wd x) (hy : Wd y) : IntKind.u64.wrap (x - y) = x - y ∧ y ≤ x ∨ IntKind.u64.wrap (x - y) = x - y + 18446744073709551616 ∧ x < y := by
  obtain ⟨h1, h2⟩ := hx
  obtain ⟨h3, h4⟩ := hy
  rw [IntKind.wrap_u64]
  omega

def plusT (n : Nat) : Nat → Nat → Int → Nat → List Nat → Tree
  | 0, _, c, _, outs => .fin (enc (outs.map SI.var ++ [.lit c])) st0
  | rem + 1, i, c, ne, outs => .dfn (.bin .add .u64) [.var i, .lit c] (.dfn (.cmp .lss) [.var ne, .lit c] (.dfn (.bin .add .u64) [.var ne, .var (n + i)]
      (.br (ne + 1) (plusT n rem (i + 1) 1 (ne + 3) (outs ++ [ne + 2]))
        (.dfn (.cmp .lss) [.var (ne + 2), .var ne] (.br (ne + 3) (plusT n rem (i + 1) 1 (ne + 4) (outs ++ [ne + 2])) (plusT n rem (i + 1) 0 (ne + 4) (outs ++ [ne + 2])))))))
def lessenT (n : Nat) : Nat → Nat → Int → Nat → List Nat → Tree
  | 0, _, c, _, outs => .fin (enc (outs.map SI.var ++ [.lit c])) st0
  | rem + 1, i, c, ne, outs => .dfn (.bin .sub .u64) [.var i, .lit c] (.dfn (.cmp .lss) [.var i, .lit c] (.dfn (.bin .sub .u64) [.var ne, .var (n + i)]
      (.br (ne + 1) (lessenT n rem (i + 1) 1 (ne + 3) (outs ++ [ne + 2]))
        (.dfn (.cmp .lss) [.var ne, .var (n + i)] (.br (ne + 3) (lessenT n rem (i + 1) 1 (ne + 4) (outs ++ [ne + 2])) (lessenT n rem (i + 1) 0 (ne + 4) (outs ++ [ne + 2])))))))

def Plus (a b ys : List Int) : Prop := ∃ o c, ys = o ++ [c] ∧ o.length = a.length ∧ (c = 0 ∨ c = 1) ∧ Wds o ∧ vw o + BW ^ a.length * c = vw a + vw b
def Lessen (a b ys : List Int) : Prop := ∃ o c, ys = o ++ [c] ∧ o.length = a.length ∧ (c = 0 ∨ c = 1) ∧ Wds o ∧ vw o - BW ^ a.length * c = vw a - vw b

theorem at_a {a b e : List Int} {i : Nat} (h : i < a.length) : (a ++ b ++ e).getD i 0 = a.getD i 0 := by
  rw [List.getD_eq_getElem?_getD, List.getD_eq_getElem?_getD, List.append_assoc, List.getElem?_append_left h]
theorem at_b {a b e : List Int} {n i : Nat} (ha : a.length = n) (h : i < b.length) : (a ++ b ++ e).getD (n + i) 0 = b.getD i 0 := by
  subst ha
  rw [List.getD_eq_getElem?_getD, List.getD_eq_getElem?_getD, List.append_assoc, List.getElem?_append_right (by omega), Nat.add_sub_cancel_left, List.getElem?_append_left h]
theorem at_end {l : List Int} {x : Int} {n : Nat} (h : n = l.length) : (l ++ [x]).getD n 0 = x := by
  subst h
  simp [List.getD_eq_getElem?_getD]
theorem at_old {l m : List Int} {n : Nat} (h : n < l.length) : (l ++ m).getD n 0 = l.getD n 0 := by
  rw [List.getD_eq_getElem?_getD, List.getD_eq_getElem?_getD, List.getElem?_append_left h]
theorem map_old {l m : List Int} {o : List Nat} (h : ∀ x ∈ o, x < l.length) : o.map (fun x => (l ++ m).getD x 0) = o.map fun x => l.getD x 0 :=
  List.map_congr_left fun x hx => at_old (h x hx)

theorem plusT_ok {A : Ask} {n : Nat} {a b : List Int} (ha : a.length = n) (hb : b.length = n) (wa : Wds a) (wb : Wds b)
    (hfin : ∀ (τ : List SI) (ext : List Int), Plus a b (τ.map (·.val (a ++ b ++ ext))) → A.fin (enc τ) st0 (a ++ b ++ ext)) :
    ∀ (rem i : Nat) (c : Int) (ne : Nat) (outs : List Nat) (ext : List Int), i + rem = n → ne = (a ++ b ++ ext).length → (c = 0 ∨ c = 1) → (∀ x ∈ outs, x < ne) → outs.length = i →
      Wds (outs.map fun x => (a ++ b ++ ext).getD x 0) → vw (outs.map fun x => (a ++ b ++ ext).getD x 0) + BW ^ i * c = vw (a.take i) + vw (b.take i) →
      (plusT n rem i c ne outs).holds A (a ++ b ++ ext)
  | 0, i, c, ne, outs, ext, hi, hne, hc, ho, hol, hw, hv => by
    refine hfin _ _ ⟨outs.map fun x => (a ++ b ++ ext).getD x 0, c, ?_, by simp [hol, ha, ← hi], hc, hw, ?_⟩
    · simp [SI.val, Function.comp_def]
    · rw [ha, ← show i = n by omega, hv, List.take_of_length_le (by omega), List.take_of_length_le (by omega)]
  | rem + 1, i, c, ne, outs, ext, hi, hne, hc, ho, hol, hw, hv => by
    intro x hx
    have hx : x = IntKind.u64.wrap ((a ++ b ++ ext).getD i 0 + c) := hx
    rw [at_a (by omega)] at hx
    intro t ht
    have ht : t = b01 (decide ((a ++ b ++ ext ++ [x]).getD ne 0 < c)) := ht
    rw [at_end hne] at ht
    intro y hy
    have hy : y = IntKind.u64.wrap ((a ++ b ++ ext ++ [x] ++ [t]).getD ne 0 + (a ++ b ++ ext ++ [x] ++ [t]).getD (n + i) 0) := hy
    have e1 : a ++ b ++ ext ++ [x] ++ [t] = a ++ b ++ (ext ++ [x] ++ [t]) := by simp
    rw [at_old (by simp at hne ⊢; omega), at_end hne, e1, at_b ha (by omega)] at hy
    have hA := wa.get i
    have hB := wb.get i
    have hC : Wd c := by rcases hc with rfl | rfl <;> exact ⟨by decide, by decide⟩
    have hX : Wd x := by rw [hx]; rcases wrap_add hA hC with h | h <;> (simp only [Wd] at *; omega)
    have hY : Wd y := by rw [hy]; rcases wrap_add hX hB with h | h <;> (simp only [Wd] at *; omega)
    have go : ∀ (c' : Int) (e : List Int) (ne' : Nat), ne' = (a ++ b ++ (ext ++ [x] ++ [t] ++ [y] ++ e)).length → (c' = 0 ∨ c' = 1) → y + BW * c' = a.getD i 0 + b.getD i 0 + c →
        (plusT n rem (i + 1) c' ne' (outs ++ [ne + 2])).holds A (a ++ b ++ (ext ++ [x] ++ [t] ++ [y] ++ e)) := by
      intro c' e ne' hne' hc' hsum
      have e2 : a ++ b ++ (ext ++ [x] ++ [t] ++ [y] ++ e) = (a ++ b ++ ext) ++ ([x] ++ [t] ++ [y] ++ e) := by simp
      have e3 : (outs ++ [ne + 2]).map (fun z => (a ++ b ++ (ext ++ [x] ++ [t] ++ [y] ++ e)).getD z 0) = (outs.map fun z => (a ++ b ++ ext).getD z 0) ++ [y] := by
        rw [List.map_append, e2, map_old (by rw [← hne]; exact ho)]
        congr 1
        simp only [List.map_cons, List.map_nil]
        congr 1
        rw [show a ++ b ++ ext ++ ([x] ++ [t] ++ [y] ++ e) = a ++ b ++ ext ++ [x] ++ [t] ++ [y] ++ e by simp, at_old (by simp at hne ⊢; omega), at_end (by simp at hne ⊢; omega)]
      refine plusT_ok ha hb wa wb hfin rem (i + 1) c' ne' (outs ++ [ne + 2]) _ (by omega) hne' hc' ?_ (by simp [hol]) ?_ ?_
      · intro z hz
        rcases List.mem_append.1 hz with h | h
        · have := ho z h
          rw [hne', e2]
          simp only [List.length_append] at hne ⊢
          omega
        · simp at h
          subst h
          rw [hne', e2]
          simp only [List.length_append, List.length_cons, List.length_nil] at hne ⊢
          omega
      · rw [e3]
        intro z hz
        rcases List.mem_append.1 hz with h | h
        · exact hw z h
        · simp at h
          subst h
          exact hY
      · rw [e3, vw_snoc, vw_take (by omega), vw_take (by omega), List.length_map, hol, Int.pow_succ]
        have : BW ^ i * y + BW ^ i * BW * c' = BW ^ i * a.getD i 0 + BW ^ i * b.getD i 0 + BW ^ i * c := by
          rw [Int.mul_assoc, ← Int.mul_add, hsum, Int.mul_add, Int.mul_add]
        omega
    refine ⟨fun hb1 => ?_, fun hb0 => ?_⟩
    · have hb1 : (a ++ b ++ ext ++ [x] ++ [t] ++ [y]).getD (ne + 1) 0 = 1 := hb1
      have ht1 : t = 1 := by
        rw [at_old (by simp at hne ⊢; omega), at_end (by simp at hne ⊢; omega)] at hb1
        exact hb1
      have := go 1 [] (ne + 3) (by simp at hne ⊢; omega) (.inr rfl) ?_
      · simpa using this
      · rw [ht1] at ht
        have hlt : x < c := by
          have := ht.symm
          cases h : decide (x < c) with
          | true => exact of_decide_eq_true h
          | false => rw [h] at this; simp [b01] at this
        rcases wrap_add hA hC with h | h <;> rcases wrap_add hX hB with h' | h' <;> simp only [Wd, BW] at * <;> rcases hc with rfl | rfl <;> omega
    · have hb0 : (a ++ b ++ ext ++ [x] ++ [t] ++ [y]).getD (ne + 1) 0 = 0 := hb0
      have ht0 : t = 0 := by
        rw [at_old (by simp at hne ⊢; omega), at_end (by simp at hne ⊢; omega)] at hb0
        exact hb0
      have hge : ¬ x < c := by
        rw [ht0] at ht
        have := ht.symm
        cases h : decide (x < c) with
        | true => rw [h] at this; simp [b01] at this
        | false => exact of_decide_eq_false h
      intro s hs
      have hs : s = b01 (decide ((a ++ b ++ ext ++ [x] ++ [t] ++ [y]).getD (ne + 2) 0 < (a ++ b ++ ext ++ [x] ++ [t] ++ [y]).getD ne 0)) := hs
      rw [at_end (by simp at hne ⊢; omega), at_old (by simp at hne ⊢; omega), at_old (by simp at hne ⊢; omega), at_end hne] at hs
      refine ⟨fun hb1 => ?_, fun hb0 => ?_⟩
      · have hb1 : (a ++ b ++ ext ++ [x] ++ [t] ++ [y] ++ [s]).getD (ne + 3) 0 = 1 := hb1
        rw [at_end (by simp at hne ⊢; omega)] at hb1
        have := go 1 [s] (ne + 4) (by simp at hne ⊢; omega) (.inr rfl) ?_
        · simpa using this
        · have hlt : y < x := by
            rw [hb1] at hs
            have := hs.symm
            cases h : decide (y < x) with
            | true => exact of_decide_eq_true h
            | false => rw [h] at this; simp [b01] at this
          rcases wrap_add hA hC with h | h <;> rcases wrap_add hX hB with h' | h' <;> simp only [Wd, BW] at * <;> omega
      · have hb0 : (a ++ b ++ ext ++ [x] ++ [t] ++ [y] ++ [s]).getD (ne + 3) 0 = 0 := hb0
        rw [at_end (by simp at hne ⊢; omega)] at hb0
        have := go 0 [s] (ne + 4) (by simp at hne ⊢; omega) (.inl rfl) ?_
        · simpa using this
        · have hlt : ¬ y < x := by
            rw [hb0] at hs
            have := hs.symm
            cases h : decide (y < x) with
            | true => rw [h] at this; simp [b01] at this
            | false => exact of_decide_eq_false h
          rcases wrap_add hA hC with h | h <;> rcases wrap_add hX hB with h' | h' <;> simp only [Wd, BW] at * <;> omega
theorem lessenT_ok {A : Ask} {n : Nat} {a b : List Int} (ha : a.length = n) (hb : b.length = n) (wa : Wds a) (wb : Wds b)
    (hfin : ∀ (τ : List SI) (ext : List Int), Lessen a b (τ.map (·.val (a ++ b ++ ext))) → A.fin (enc τ) st0 (a ++ b ++ ext)) :
    ∀ (rem i : Nat) (c : Int) (ne : Nat) (outs : List Nat) (ext : List Int), i + rem = n → ne = (a ++ b ++ ext).length → (c = 0 ∨ c = 1) → (∀ x ∈ outs, x < ne) → outs.length = i →
      Wds (outs.map fun x => (a ++ b ++ ext).getD x 0) → vw (outs.map fun x => (a ++ b ++ ext).getD x 0) - BW ^ i * c = vw (a.take i) - vw (b.take i) →
      (lessenT n rem i c ne outs).holds A (a ++ b ++ ext)
  | 0, i, c, ne, outs, ext, hi, hne, hc, ho, hol, hw, hv => by
    refine hfin _ _ ⟨outs.map fun x => (a ++ b ++ ext).getD x 0, c, ?_, by simp [hol, ha, ← hi], hc, hw, ?_⟩
    · simp [SI.val, Function.comp_def]
    · rw [ha, ← show i = n by omega, hv, List.take_of_length_le (by omega), List.take_of_length_le (by omega)]
  | rem + 1, i, c, ne, outs, ext, hi, hne, hc, ho, hol, hw, hv => by
    intro x hx
    have hx : x = IntKind.u64.wrap ((a ++ b ++ ext).getD i 0 - c) := hx
    rw [at_a (by omega)] at hx
    intro t ht
    have ht : t = b01 (decide ((a ++ b ++ ext ++ [x]).getD i 0 < c)) := ht
    rw [at_old (by simp at hne ⊢; omega), at_a (by omega)] at ht
    intro y hy
    have hy : y = IntKind.u64.wrap ((a ++ b ++ ext ++ [x] ++ [t]).getD ne 0 - (a ++ b ++ ext ++ [x] ++ [t]).getD (n + i) 0) := hy
    have e1 : a ++ b ++ ext ++ [x] ++ [t] = a ++ b ++ (ext ++ [x] ++ [t]) := by simp
    rw [at_old (by simp at hne ⊢; omega), at_end hne, e1, at_b ha (by omega)] at hy
    have hA := wa.get i
    have hB := wb.get i
    have hC : Wd c := by rcases hc with rfl | rfl <;> exact ⟨by decide, by decide⟩
    have hX : Wd x := by rw [hx]; rcases wrap_sub hA hC with h | h <;> (simp only [Wd] at *; omega)
    have hY : Wd y := by rw [hy]; rcases wrap_sub hX hB with h | h <;> (simp only [Wd] at *; omega)
    have go : ∀ (c' : Int) (e : List Int) (ne' : Nat), ne' = (a ++ b ++ (ext ++ [x] ++ [t] ++ [y] ++ e)).length → (c' = 0 ∨ c' = 1) → y - BW * c' = a.getD i 0 - b.getD i 0 - c →
        (lessenT n rem (i + 1) c' ne' (outs ++ [ne + 2])).holds A (a ++ b ++ (ext ++ [x] ++ [t] ++ [y] ++ e)) := by
      intro c' e ne' hne' hc' hsum
      have e2 : a ++ b ++ (ext ++ [x] ++ [t] ++ [y] ++ e) = (a ++ b ++ ext) ++ ([x] ++ [t] ++ [y] ++ e) := by simp
      have e3 : (outs ++ [ne + 2]).map (fun z => (a ++ b ++ (ext ++ [x] ++ [t] ++ [y] ++ e)).getD z 0) = (outs.map fun z => (a ++ b ++ ext).getD z 0) ++ [y] := by
        rw [List.map_append, e2, map_old (by rw [← hne]; exact ho)]
        congr 1
        simp only [List.map_cons, List.map_nil]
        congr 1
        rw [show a ++ b ++ ext ++ ([x] ++ [t] ++ [y] ++ e) = a ++ b ++ ext ++ [x] ++ [t] ++ [y] ++ e by simp, at_old (by simp at hne ⊢; omega), at_end (by simp at hne ⊢; omega)]
      refine lessenT_ok ha hb wa wb hfin rem (i + 1) c' ne' (outs ++ [ne + 2]) _ (by omega) hne' hc' ?_ (by simp [hol]) ?_ ?_
      · intro z hz
        rcases List.mem_append.1 hz with h | h
        · have := ho z h
          rw [hne', e2]
          simp only [List.length_append] at hne ⊢
          omega
        · simp at h
          subst h
          rw [hne', e2]
          simp only [List.length_append, List.length_cons, List.length_nil] at hne ⊢
          omega
      · rw [e3]
        intro z hz
        rcases List.mem_append.1 hz with h | h
        · exact hw z h
        · simp at h
          subst h
          exact hY
      · rw [e3, vw_snoc, vw_take (by omega), vw_take (by omega), List.length_map, hol, Int.pow_succ]
        have : BW ^ i * y - BW ^ i * BW * c' = BW ^ i * a.getD i 0 - BW ^ i * b.getD i 0 - BW ^ i * c := by
          rw [Int.mul_assoc, ← Int.mul_sub, hsum, Int.mul_sub, Int.mul_sub]
        omega
    refine ⟨fun hb1 => ?_, fun hb0 => ?_⟩
    · have hb1 : (a ++ b ++ ext ++ [x] ++ [t] ++ [y]).getD (ne + 1) 0 = 1 := hb1
      have ht1 : t = 1 := by
        rw [at_old (by simp at hne ⊢; omega), at_end (by simp at hne ⊢; omega)] at hb1
        exact hb1
      have := go 1 [] (ne + 3) (by simp at hne ⊢; omega) (.inr rfl) ?_
      · simpa using this
      · rw [ht1] at ht
        have hlt : a.getD i 0 < c := by
          have := ht.symm
          cases h : decide (a.getD i 0 < c) with
          | true => exact of_decide_eq_true h
          | false => rw [h] at this; simp [b01] at this
        rcases wrap_sub hA hC with h | h <;> rcases wrap_sub hX hB with h' | h' <;> simp only [Wd, BW] at * <;> rcases hc with rfl | rfl <;> omega
    · have hb0 : (a ++ b ++ ext ++ [x] ++ [t] ++ [y]).getD (ne + 1) 0 = 0 := hb0
      have ht0 : t = 0 := by
        rw [at_old (by simp at hne ⊢; omega), at_end (by simp at hne ⊢; omega)] at hb0
        exact hb0
      have hge : ¬ a.getD i 0 < c := by
        rw [ht0] at ht
        have := ht.symm
        cases h : decide (a.getD i 0 < c) with
        | true => rw [h] at this; simp [b01] at this
        | false => exact of_decide_eq_false h
      intro s hs
      have hs : s = b01 (decide ((a ++ b ++ ext ++ [x] ++ [t] ++ [y]).getD ne 0 < (a ++ b ++ ext ++ [x] ++ [t] ++ [y]).getD (n + i) 0)) := hs
      rw [at_old (by simp at hne ⊢; omega), at_old (by simp at hne ⊢; omega), at_end hne, show a ++ b ++ ext ++ [x] ++ [t] ++ [y] = a ++ b ++ (ext ++ [x] ++ [t] ++ [y]) by simp, at_b ha (by omega)] at hs
      refine ⟨fun hb1 => ?_, fun hb0 => ?_⟩
      · have hb1 : (a ++ b ++ ext ++ [x] ++ [t] ++ [y] ++ [s]).getD (ne + 3) 0 = 1 := hb1
        rw [at_end (by simp at hne ⊢; omega)] at hb1
        have := go 1 [s] (ne + 4) (by simp at hne ⊢; omega) (.inr rfl) ?_
        · simpa using this
        · have hlt : x < b.getD i 0 := by
            rw [hb1] at hs
            have := hs.symm
            cases h : decide (x < b.getD i 0) with
            | true => exact of_decide_eq_true h
            | false => rw [h] at this; simp [b01] at this
          rcases wrap_sub hA hC with h | h <;> rcases wrap_sub hX hB with h' | h' <;> simp only [Wd, BW] at * <;> omega
      · have hb0 : (a ++ b ++ ext ++ [x] ++ [t] ++ [y] ++ [s]).getD (ne + 3) 0 = 0 := hb0
        rw [at_end (by simp at hne ⊢; omega)] at hb0
        have := go 0 [s] (ne + 4) (by simp at hne ⊢; omega) (.inl rfl) ?_
        · simpa using this
        · have hlt : ¬ x < b.getD i 0 := by
            rw [hb0] at hs
            have := hs.symm
            cases h : decide (x < b.getD i 0) with
            | true => rw [h] at this; simp [b01] at this
            | false => exact of_decide_eq_false h
          rcases wrap_sub hA hC with h | h <;> rcases wrap_sub hX hB with h' | h' <;> simp only [Wd, BW] at * <;> omega
end Eng
end
section
/-
  Numbers by words: sums and differences modulo m.
-/
namespace Eng
open Go

theorem vw_bounds : ∀ {l : List Int}, Wds l → 0 ≤ vw l ∧ vw l < BW ^ l.length
  | [], _ => by simp [vw]
  | x :: l, h => by
    obtain ⟨h1, h2⟩ := vw_bounds (l := l) fun y hy => h y (List.mem_cons_of_mem _ hy)
    obtain ⟨h3, h4⟩ := h x (List.mem_cons_self ..)
    simp only [vw, List.length_cons, Int.pow_succ, BW] at *
    omega
theorem vw_inj : ∀ {l m : List Int}, l.length = m.length → Wds l → Wds m → vw l = vw m → l = m
  | [], [], _, _, _, _ => rfl
  | [], _ :: _, h, _, _, _ => by simp at h
  | _ :: _, [], h, _, _, _ => by simp at h
  | x :: l, y :: m, h, hl, hm, he => by
    have h1 := hl x (List.mem_cons_self ..)
    have h2 := hm y (List.mem_cons_self ..)
    simp only [vw, Wd] at *
    have hxy : x = y := by omega
    subst hxy
    rw [vw_inj (by simpa using h) (fun z hz => hl z (List.mem_cons_of_mem _ hz)) (fun z hz => hm z (List.mem_cons_of_mem _ hz)) (by omega)]
def SumMod (a b m ys : List Int) : Prop := ys.length = a.length ∧ Wds ys ∧ (vw a < vw m → vw b < vw m → vw ys = if vw a + vw b < vw m then vw a + vw b else vw a + vw b - vw m)
def DifMod (a b m ys : List Int) : Prop := ys.length = a.length ∧ Wds ys ∧ (vw a < vw m → vw b < vw m → vw ys = if vw b ≤ vw a then vw a - vw b else vw a - vw b + vw m)

/-- The sum was too long: less m it is the sum modulo m. -/
theorem sum_less {a b m o o' : List Int} {c c' : Int} (wa : Wds a) (wb : Wds b) (wm : Wds m) (lb : b.length = a.length) (lm : m.length = a.length) (wo : Wds o) (wo' : Wds o') (ho : o.length = a.length) (ho' : o'.length = o.length)
    (hc : c = 0 ∨ c = 1) (hc' : c' = 0 ∨ c' = 1) (h : vw o + BW ^ a.length * c = vw a + vw b) (h' : vw o' - BW ^ o.length * c' = vw o - vw m) (hge : c = 1 ∨ vw m ≤ vw o) : SumMod a b m o' := by
  have ba := vw_bounds wa
  have bb := vw_bounds wb
  have bm := vw_bounds wm
  have bo := vw_bounds wo
  have bo' := vw_bounds wo'
  rw [lb] at bb
  rw [lm] at bm
  rw [ho] at bo h'
  rw [ho', ho] at bo'
  refine ⟨by omega, wo', fun h1 h2 => ?_⟩
  generalize BW ^ a.length = W at *
  rcases hc with rfl | rfl <;> rcases hc' with rfl | rfl <;> simp only [Int.mul_zero, Int.mul_one] at * <;> split <;> omega
theorem sum_same {a b m o : List Int} {c : Int} (wo : Wds o) (ho : o.length = a.length) (hc : c = 0) (h : vw o + BW ^ a.length * c = vw a + vw b) (hlt : vw o < vw m) : SumMod a b m o := by
  refine ⟨ho, wo, fun h1 h2 => ?_⟩
  subst hc
  simp only [Int.mul_zero] at h
  rw [if_pos (by omega)]
  omega
theorem dif_more {a b m o o' : List Int} {c c' : Int} (wa : Wds a) (wb : Wds b) (wm : Wds m) (wo : Wds o) (wo' : Wds o') (ho : o.length = a.length) (ho' : o'.length = o.length)
    (hc : c = 1) (hc' : c' = 0 ∨ c' = 1) (h : vw o - BW ^ a.length * c = vw a - vw b) (h' : vw o' + BW ^ o.length * c' = vw o + vw m) : DifMod a b m o' := by
  have ba := vw_bounds wa
  have bb := vw_bounds wb
  have bm := vw_bounds wm
  have bo := vw_bounds wo
  have bo' := vw_bounds wo'
  rw [ho] at bo h'
  rw [ho', ho] at bo'
  refine ⟨by omega, wo', fun h1 h2 => ?_⟩
  generalize BW ^ a.length = W at *
  subst hc
  rcases hc' with rfl | rfl <;> simp only [Int.mul_zero, Int.mul_one] at * <;> split <;> omega
theorem dif_same {a b m o : List Int} {c : Int} (wo : Wds o) (ho : o.length = a.length) (hc : c = 0) (h : vw o - BW ^ a.length * c = vw a - vw b) : DifMod a b m o := by
  refine ⟨ho, wo, fun h1 h2 => ?_⟩
  have bo := vw_bounds wo
  subst hc
  simp only [Int.mul_zero] at h
  rw [if_pos (by omega)]
  omega
theorem sum_one {a b m x y : List Int} (hx : SumMod a b m x) (hy : SumMod a b m y) (h1 : vw a < vw m) (h2 : vw b < vw m) : x = y := by
  obtain ⟨l1, w1, e1⟩ := hx
  obtain ⟨l2, w2, e2⟩ := hy
  exact vw_inj (by omega) w1 w2 ((e1 h1 h2).trans (e2 h1 h2).symm)
theorem dif_one {a b m x y : List Int} (hx : DifMod a b m x) (hy : DifMod a b m y) (h1 : vw a < vw m) (h2 : vw b < vw m) : x = y := by
  obtain ⟨l1, w1, e1⟩ := hx
  obtain ⟨l2, w2, e2⟩ := hy
  exact vw_inj (by omega) w1 w2 ((e1 h1 h2).trans (e2 h1 h2).symm)
end Eng
end
section
/-
  Numbers by words: straight lines of sums and differences with carries, comparisons, as trees of facts; for any number of words.
-/
namespace Eng
open Go

def Bd (n : Nat) : SI → Prop
  | .lit _ => True
  | .var i => i < n
def vr (i n : Nat) : List SI := (List.range n).map fun j => .var (i + j)
def ls (q : List Int) : List SI := q.map .lit

theorem val_more {env e : List Int} {x : SI} (h : Bd env.length x) : x.val (env ++ e) = x.val env := by
  cases x with
  | lit n => rfl
  | var i => exact at_old h
theorem vals_more {env e : List Int} {xs : List SI} (h : ∀ x ∈ xs, Bd env.length x) : xs.map (·.val (env ++ e)) = xs.map (·.val env) :=
  List.map_congr_left fun x hx => val_more (h x hx)
theorem Bd.more {n m : Nat} {x : SI} (h : Bd n x) (hm : n ≤ m) : Bd m x := by
  cases x with
  | lit _ => trivial
  | var i => exact Nat.lt_of_lt_of_le h hm
theorem val_var {env : List Int} {i : Nat} : (SI.var i).val env = env.getD i 0 := rfl
theorem val_end {env : List Int} {x : Int} {n : Nat} (h : n = env.length) : (SI.var n).val (env ++ [x]) = x := at_end h
theorem vr_bd {i n m : Nat} (h : i + n ≤ m) : ∀ x ∈ vr i n, Bd m x := by
  intro x hx
  obtain ⟨j, hj, rfl⟩ := List.mem_map.1 hx
  have := List.mem_range.1 hj
  show i + j < m
  omega
theorem ls_bd {q : List Int} {m : Nat} : ∀ x ∈ ls q, Bd m x := by
  intro x hx
  obtain ⟨j, hj, rfl⟩ := List.mem_map.1 hx
  trivial
theorem ls_vals {q env : List Int} : (ls q).map (·.val env) = q := by simp [ls, SI.val, Function.comp_def]
theorem vr_length {i n : Nat} : (vr i n).length = n := by simp [vr]
theorem vr_vals {env : List Int} {i n : Nat} (h : i + n ≤ env.length) : (vr i n).map (·.val env) = (env.drop i).take n := by
  apply List.ext_getElem?
  intro j
  simp only [vr, List.map_map, List.getElem?_map]
  rcases Nat.lt_or_ge j n with hj | hj
  · rw [List.getElem?_range hj, List.getElem?_take_of_lt hj, List.getElem?_drop]
    simp only [Option.map_some, Function.comp, SI.val]
    rw [List.getD_eq_getElem?_getD, List.getElem?_eq_getElem (by omega)]
    rfl
  · rw [List.getElem?_eq_none (by simp; omega), List.getElem?_eq_none (by simp; omega)]
    rfl

theorem sub_step {x y c d k : Int} (hx : Wd x) (hy : Wd y) (hc : c = 0 ∨ c = 1) (hd : d = ((x.toNat + 18446744073709551616 - y.toNat - c.toNat) % 18446744073709551616 : Nat)) (hk : k = b01 (decide (x.toNat < y.toNat + c.toNat))) :
    Wd d ∧ (k = 0 ∨ k = 1) ∧ d - BW * k = x - y - c := by
  obtain ⟨h1, h2⟩ := hx
  obtain ⟨h3, h4⟩ := hy
  simp only [Wd, BW]
  by_cases h : x.toNat < y.toNat + c.toNat
  · rw [decide_eq_true h] at hk
    have hk : k = 1 := hk
    subst hk
    rcases hc with rfl | rfl <;> simp at h hd ⊢ <;> omega
  · rw [decide_eq_false h] at hk
    have hk : k = 0 := hk
    subst hk
    rcases hc with rfl | rfl <;> simp at h hd ⊢ <;> omega
theorem add_step {x y c d k : Int} (hx : Wd x) (hy : Wd y) (hc : c = 0 ∨ c = 1) (hd : d = ((x.toNat + y.toNat + c.toNat) % 18446744073709551616 : Nat)) (hk : k = b01 (decide (18446744073709551616 ≤ x.toNat + y.toNat + c.toNat))) :
    Wd d ∧ (k = 0 ∨ k = 1) ∧ d + BW * k = x + y + c := by
  obtain ⟨h1, h2⟩ := hx
  obtain ⟨h3, h4⟩ := hy
  simp only [Wd, BW]
  by_cases h : 18446744073709551616 ≤ x.toNat + y.toNat + c.toNat
  · rw [decide_eq_true h] at hk
    have hk : k = 1 := hk
    subst hk
    rcases hc with rfl | rfl <;> simp at h hd ⊢ <;> omega
  · rw [decide_eq_false h] at hk
    have hk : k = 0 := hk
    subst hk
    rcases hc with rfl | rfl <;> simp at h hd ⊢ <;> omega

def subCh (k : List SI → SI → Nat → Tree) : List SI → List SI → SI → Nat → List SI → Tree
  | x :: xs, y :: ys, c, ne, outs => .dfn .subD [x, y, c] (.dfn .subB [x, y, c] (subCh k xs ys (.var (ne + 1)) (ne + 2) (outs ++ [.var ne])))
  | _, _, c, ne, outs => k outs c ne
def addCh (k : List SI → SI → Nat → Tree) : List SI → List SI → SI → Nat → List SI → Tree
  | x :: xs, y :: ys, c, ne, outs => .dfn .addS [x, y, c] (.dfn .addC [x, y, c] (addCh k xs ys (.var (ne + 1)) (ne + 2) (outs ++ [.var ne])))
  | _, _, c, ne, outs => k outs c ne

/-- What a chain has come to. -/
structure ChOk (sg : Int) (env : List Int) (outs : List SI) (X Y : List Int) (c : Int) (n : Nat) (e : List Int) (os : List SI) (c' : SI) (ne' : Nat) : Prop where
  ne : ne' = (env ++ e).length
  cb : Bd ne' c'
  ob : ∀ z ∈ os, Bd ne' z
  bit : c'.val (env ++ e) = 0 ∨ c'.val (env ++ e) = 1
  val : ∃ d : List Int, os.map (·.val (env ++ e)) = outs.map (·.val env) ++ d ∧ Wds d ∧ d.length = n ∧ vw d + sg * (BW ^ n * c'.val (env ++ e)) = vw X + sg * (vw Y + c)

theorem Wds.tail {x : Int} {l : List Int} (h : Wds (x :: l)) : Wd x ∧ Wds l := ⟨h x (List.mem_cons_self ..), fun y hy => h y (List.mem_cons_of_mem _ hy)⟩

theorem subCh_ok {A : Ask} {k : List SI → SI → Nat → Tree} : ∀ (xs ys : List SI) (c : SI) (ne : Nat) (outs : List SI) (env : List Int), xs.length = ys.length → ne = env.length → (∀ x ∈ xs, Bd ne x) → (∀ y ∈ ys, Bd ne y) → Bd ne c →
    (∀ z ∈ outs, Bd ne z) → Wds (xs.map (·.val env)) → Wds (ys.map (·.val env)) → (c.val env = 0 ∨ c.val env = 1) →
    (∀ (e : List Int) (os : List SI) (c' : SI) (ne' : Nat), ChOk (-1) env outs (xs.map (·.val env)) (ys.map (·.val env)) (c.val env) xs.length e os c' ne' → (k os c' ne').holds A (env ++ e)) →
    (subCh k xs ys c ne outs).holds A env
  | [], [], c, ne, outs, env, _, hne, _, _, hc, ho, _, _, hb, hk => by
    have := hk [] outs c ne ⟨by simpa using hne, hc, ho, by simpa using hb, [], by simp, (fun x hx => by cases hx), rfl, by simp [vw]⟩
    simp only [List.append_nil] at this
    exact this
  | x :: xs, y :: ys, c, ne, outs, env, hl, hne, hx, hy, hc, ho, wx, wy, hb, hk => by
    have bx := hx x (List.mem_cons_self ..)
    have by' := hy y (List.mem_cons_self ..)
    obtain ⟨wx0, wx⟩ := Wds.tail (by simpa using wx)
    obtain ⟨wy0, wy⟩ := Wds.tail (by simpa using wy)
    rw [hne] at bx by' hc
    intro d hd
    intro b hb2
    have hd : d = (((x.val env).toNat + 18446744073709551616 - (y.val env).toNat - (c.val env).toNat) % 18446744073709551616 : Nat) := hd
    have hb2 : b = b01 (decide ((x.val (env ++ [d])).toNat < (y.val (env ++ [d])).toNat + (c.val (env ++ [d])).toNat)) := hb2
    rw [val_more bx, val_more by', val_more hc] at hb2
    obtain ⟨wd, bb, e⟩ := sub_step wx0 wy0 hb hd hb2
    have hne2 : ne + 2 = (env ++ [d] ++ [b]).length := by simp [hne]
    have env2 : env ++ [d] ++ [b] = env ++ ([d] ++ [b]) := by simp
    have mx : xs.map (·.val (env ++ [d] ++ [b])) = xs.map (·.val env) := by rw [env2]; exact vals_more fun z hz => by rw [← hne]; exact hx z (List.mem_cons_of_mem _ hz)
    have my : ys.map (·.val (env ++ [d] ++ [b])) = ys.map (·.val env) := by rw [env2]; exact vals_more fun z hz => by rw [← hne]; exact hy z (List.mem_cons_of_mem _ hz)
    have mo : outs.map (·.val (env ++ [d] ++ [b])) = outs.map (·.val env) := by rw [env2]; exact vals_more fun z hz => by rw [← hne]; exact ho z hz
    have vb : (SI.var (ne + 1)).val (env ++ [d] ++ [b]) = b := val_end (by simp [hne])
    have vd : (SI.var ne).val (env ++ [d] ++ [b]) = d := by rw [val_more (x := .var ne) (by show ne < _; simp [hne])]; exact val_end hne
    refine subCh_ok xs ys (.var (ne + 1)) (ne + 2) (outs ++ [.var ne]) (env ++ [d] ++ [b]) (by simpa using hl) hne2 (fun z hz => (hx z (List.mem_cons_of_mem _ hz)).more (by omega)) (fun z hz => (hy z (List.mem_cons_of_mem _ hz)).more (by omega))
      (show ne + 1 < ne + 2 by omega) ?_ (by rw [mx]; exact wx) (by rw [my]; exact wy) (by rw [vb]; exact bb) ?_
    · intro z hz
      rcases List.mem_append.1 hz with h | h
      · exact (ho z h).more (by omega)
      · simp at h; subst h; show ne < ne + 2; omega
    · intro e' os c' ne' hq
      rw [mx, my, vb] at hq
      have := hk ([d] ++ [b] ++ e') os c' ne' ?_
      · simpa using this
      · obtain ⟨q1, q2, q3, q4, dd, q5, q6, q7, q8⟩ := hq
        have ee : env ++ ([d] ++ [b] ++ e') = env ++ [d] ++ [b] ++ e' := by simp
        refine ⟨by rw [ee]; exact q1, q2, q3, by rw [ee]; exact q4, d :: dd, ?_, ?_, by simp [q7], ?_⟩
        · rw [ee, q5, List.map_append, mo, List.map_cons, List.map_nil, vd, List.append_assoc]
          rfl
        · intro z hz
          rcases List.mem_cons.1 hz with rfl | hz
          · exact wd
          · exact q6 z hz
        · rw [ee]
          simp only [vw, List.map_cons, List.length_cons, Int.pow_succ]
          rw [Int.mul_comm (BW ^ xs.length) BW, Int.mul_assoc]
          generalize BW ^ xs.length * c'.val (env ++ [d] ++ [b] ++ e') = T at *
          simp only [BW] at *
          omega
  | [], _ :: _, _, _, _, _, h, _, _, _, _, _, _, _, _, _ => by simp at h
  | _ :: _, [], _, _, _, _, h, _, _, _, _, _, _, _, _, _ => by simp at h
theorem addCh_ok {A : Ask} {k : List SI → SI → Nat → Tree} : ∀ (xs ys : List SI) (c : SI) (ne : Nat) (outs : List SI) (env : List Int), xs.length = ys.length → ne = env.length → (∀ x ∈ xs, Bd ne x) → (∀ y ∈ ys, Bd ne y) → Bd ne c →
    (∀ z ∈ outs, Bd ne z) → Wds (xs.map (·.val env)) → Wds (ys.map (·.val env)) → (c.val env = 0 ∨ c.val env = 1) →
    (∀ (e : List Int) (os : List SI) (c' : SI) (ne' : Nat), ChOk 1 env outs (xs.map (·.val env)) (ys.map (·.val env)) (c.val env) xs.length e os c' ne' → (k os c' ne').holds A (env ++ e)) →
    (addCh k xs ys c ne outs).holds A env
  | [], [], c, ne, outs, env, _, hne, _, _, hc, ho, _, _, hb, hk => by
    have := hk [] outs c ne ⟨by simpa using hne, hc, ho, by simpa using hb, [], by simp, (fun x hx => by cases hx), rfl, by simp [vw]⟩
    simp only [List.append_nil] at this
    exact this
  | x :: xs, y :: ys, c, ne, outs, env, hl, hne, hx, hy, hc, ho, wx, wy, hb, hk => by
    have bx := hx x (List.mem_cons_self ..)
    have by' := hy y (List.mem_cons_self ..)
    obtain ⟨wx0, wx⟩ := Wds.tail (by simpa using wx)
    obtain ⟨wy0, wy⟩ := Wds.tail (by simpa using wy)
    rw [hne] at bx by' hc
    intro d hd
    intro b hb2
    have hd : d = (((x.val env).toNat + (y.val env).toNat + (c.val env).toNat) % 18446744073709551616 : Nat) := hd
    have hb2 : b = b01 (decide (18446744073709551616 ≤ (x.val (env ++ [d])).toNat + (y.val (env ++ [d])).toNat + (c.val (env ++ [d])).toNat)) := hb2
    rw [val_more bx, val_more by', val_more hc] at hb2
    obtain ⟨wd, bb, e⟩ := add_step wx0 wy0 hb hd hb2
    have hne2 : ne + 2 = (env ++ [d] ++ [b]).length := by simp [hne]
    have env2 : env ++ [d] ++ [b] = env ++ ([d] ++ [b]) := by simp
    have mx : xs.map (·.val (env ++ [d] ++ [b])) = xs.map (·.val env) := by rw [env2]; exact vals_more fun z hz => by rw [← hne]; exact hx z (List.mem_cons_of_mem _ hz)
    have my : ys.map (·.val (env ++ [d] ++ [b])) = ys.map (·.val env) := by rw [env2]; exact vals_more fun z hz => by rw [← hne]; exact hy z (List.mem_cons_of_mem _ hz)
    have mo : outs.map (·.val (env ++ [d] ++ [b])) = outs.map (·.val env) := by rw [env2]; exact vals_more fun z hz => by rw [← hne]; exact ho z hz
    have vb : (SI.var (ne + 1)).val (env ++ [d] ++ [b]) = b := val_end (by simp [hne])
    have vd : (SI.var ne).val (env ++ [d] ++ [b]) = d := by rw [val_more (x := .var ne) (by show ne < _; simp [hne])]; exact val_end hne
    refine addCh_ok xs ys (.var (ne + 1)) (ne + 2) (outs ++ [.var ne]) (env ++ [d] ++ [b]) (by simpa using hl) hne2 (fun z hz => (hx z (List.mem_cons_of_mem _ hz)).more (by omega)) (fun z hz => (hy z (List.mem_cons_of_mem _ hz)).more (by omega))
      (show ne + 1 < ne + 2 by omega) ?_ (by rw [mx]; exact wx) (by rw [my]; exact wy) (by rw [vb]; exact bb) ?_
    · intro z hz
      rcases List.mem_append.1 hz with h | h
      · exact (ho z h).more (by omega)
      · simp at h; subst h; show ne < ne + 2; omega
    · intro e' os c' ne' hq
      rw [mx, my, vb] at hq
      have := hk ([d] ++ [b] ++ e') os c' ne' ?_
      · simpa using this
      · obtain ⟨q1, q2, q3, q4, dd, q5, q6, q7, q8⟩ := hq
        have ee : env ++ ([d] ++ [b] ++ e') = env ++ [d] ++ [b] ++ e' := by simp
        refine ⟨by rw [ee]; exact q1, q2, q3, by rw [ee]; exact q4, d :: dd, ?_, ?_, by simp [q7], ?_⟩
        · rw [ee, q5, List.map_append, mo, List.map_cons, List.map_nil, vd, List.append_assoc]
          rfl
        · intro z hz
          rcases List.mem_cons.1 hz with rfl | hz
          · exact wd
          · exact q6 z hz
        · rw [ee]
          simp only [vw, List.map_cons, List.length_cons, Int.pow_succ]
          rw [Int.mul_comm (BW ^ xs.length) BW, Int.mul_assoc]
          generalize BW ^ xs.length * c'.val (env ++ [d] ++ [b] ++ e') = T at *
          simp only [BW] at *
          omega
  | [], _ :: _, _, _, _, _, h, _, _, _, _, _, _, _, _, _ => by simp at h
  | _ :: _, [], _, _, _, _, h, _, _, _, _, _, _, _, _, _ => by simp at h
end Eng
end
section
/-
  Numbers by words: the field's sums and differences and the reference's, as trees of facts, for any number of words.
-/
namespace Eng
open Go

theorem vals_new {env ys : List Int} {i m : Nat} (hi : i = env.length) (hm : m = ys.length) : (vr i m).map (·.val (env ++ ys)) = ys := by
  subst hi; subst hm
  rw [vr_vals (by simp), List.drop_left, List.take_length]
theorem b01_one (t : Bool) : b01 t = 1 ↔ t = true := by cases t <;> simp [b01]
theorem b01_zero (t : Bool) : b01 t = 0 ↔ t = false := by cases t <;> simp [b01]
theorem wd_b01 (t : Bool) : Wd (b01 t) := by cases t <;> exact ⟨by decide, by decide⟩
theorem Wds.append {l m : List Int} (h : Wds l) (k : Wds m) : Wds (l ++ m) := fun x hx => (List.mem_append.1 hx).elim (h x) (k x)
theorem Wds.take {l : List Int} (h : Wds l) (n : Nat) : Wds (l.take n) := fun x hx => h x (List.mem_of_mem_take hx)
theorem Wds.drop {l : List Int} (h : Wds l) (n : Nat) : Wds (l.drop n) := fun x hx => h x (List.mem_of_mem_drop hx)
theorem wds_vr {env : List Int} {i n : Nat} (h : Wds env) (hi : i + n ≤ env.length) : Wds ((vr i n).map (·.val env)) := by
  rw [vr_vals hi]; exact (h.drop i).take n

/-! ### comparisons -/
theorem mul_pos_le {P x y : Int} (hP : 0 < P) (h : x < y) : P * x + P ≤ P * y := by
  have h1 := Int.mul_le_mul_of_nonneg_left (show x + 1 ≤ y by omega) (show 0 ≤ P by omega)
  rw [Int.mul_add, Int.mul_one] at h1
  exact h1
theorem cmp_high {a b P x y : Int} (ha : 0 ≤ a) (ha' : a < P) (hb : 0 ≤ b) (hb' : b < P) : (a + P * x < b + P * y) ↔ (x < y ∨ (x = y ∧ a < b)) := by
  rcases Int.lt_trichotomy x y with h | h | h
  · have := mul_pos_le (P := P) (by omega) h
    exact ⟨fun _ => .inl h, fun _ => by omega⟩
  · subst h
    constructor
    · intro h; exact .inr ⟨rfl, by omega⟩
    · rintro (h | ⟨_, h⟩) <;> omega
  · have := mul_pos_le (P := P) (by omega) h
    constructor
    · intro _; omega
    · rintro (h' | ⟨h', _⟩) <;> omega

def lessR : List SI → List SI → Nat → Tree
  | x :: xs, y :: ys, ne => .dfn (.cmp .neq) [x, y] (.br ne (.dfn (.cmp .lss) [x, y] (.fin (enc [.var (ne + 1)]) st0)) (lessR xs ys (ne + 1)))
  | _, _, _ => .fin (enc [.lit 0]) st0
def smallR : List SI → List SI → Nat → Tree
  | [x], [y], ne => .dfn (.cmp .lss) [x, y] (.fin (enc [.var ne]) st0)
  | x :: xs, y :: ys, ne => .dfn (.cmp .lss) [x, y] (.br ne (.fin (enc [.lit 1]) st0) (.dfn (.cmp .eql) [x, y] (.br (ne + 1) (smallR xs ys (ne + 2)) (.fin (enc [.lit 0]) st0))))
  | _, _, _ => .bad 50
def sameT : List SI → List SI → Nat → Tree
  | x :: xs, y :: ys, ne => .dfn (.cmp .neq) [x, y] (.br ne (.fin (enc [.lit 0]) st0) (sameT xs ys (ne + 1)))
  | _, _, _ => .fin (enc [.lit 1]) st0

theorem vw_rev_cons {x : Int} {l : List Int} : vw (x :: l).reverse = vw l.reverse + BW ^ l.length * x := by
  rw [List.reverse_cons, vw_snoc, List.length_reverse]
theorem wds_rev {l : List Int} (h : Wds l) : Wds l.reverse := fun x hx => h x (List.mem_reverse.1 hx)
theorem rev_lt {x y : Int} {l m : List Int} (hl : l.length = m.length) (wl : Wds l) (wm : Wds m) : (vw (x :: l).reverse < vw (y :: m).reverse) ↔ (x < y ∨ (x = y ∧ vw l.reverse < vw m.reverse)) := by
  have h1 := vw_bounds (wds_rev wl)
  have h2 := vw_bounds (wds_rev wm)
  rw [List.length_reverse] at h1 h2
  rw [← hl] at h2
  rw [vw_rev_cons, vw_rev_cons, ← hl]
  exact cmp_high h1.1 h1.2 h2.1 h2.2

section
variable {A : Ask}

theorem lessR_ok : ∀ (xs ys : List SI) (ne : Nat) (env : List Int), xs.length = ys.length → ne = env.length → (∀ x ∈ xs, Bd ne x) → (∀ y ∈ ys, Bd ne y) → Wds (xs.map (·.val env)) → Wds (ys.map (·.val env)) →
    (∀ (e : List Int) (o : SI), o.val (env ++ e) = b01 (decide (vw (xs.map (·.val env)).reverse < vw (ys.map (·.val env)).reverse)) → A.fin (enc [o]) st0 (env ++ e)) → (lessR xs ys ne).holds A env
  | [], [], ne, env, _, _, _, _, _, _, hk => by
    have := hk [] (.lit 0) rfl
    simp only [List.append_nil] at this
    exact this
  | x :: xs, y :: ys, ne, env, hl, hne, hx, hy, wx, wy, hk => by
    have bx := hx x (List.mem_cons_self ..)
    have by' := hy y (List.mem_cons_self ..)
    obtain ⟨wx0, wx⟩ := Wds.tail (by simpa using wx)
    obtain ⟨wy0, wy⟩ := Wds.tail (by simpa using wy)
    rw [hne] at bx by'
    have hlt := rev_lt (x := x.val env) (y := y.val env) (by simpa using hl) wx wy
    have hk : ∀ (e : List Int) (o : SI), o.val (env ++ e) = b01 (decide (x.val env < y.val env ∨ (x.val env = y.val env ∧ vw (xs.map (·.val env)).reverse < vw (ys.map (·.val env)).reverse))) → A.fin (enc [o]) st0 (env ++ e) :=
      fun e o ho => hk e o (by rw [ho]; congr 1; rw [decide_eq_decide]; exact hlt.symm)
    intro t ht
    have ht : t = b01 (x.val env != y.val env) := ht
    have vt : (env ++ [t]).getD ne 0 = t := at_end hne
    have mx : xs.map (·.val (env ++ [t])) = xs.map (·.val env) := vals_more fun z hz => by rw [← hne]; exact hx z (List.mem_cons_of_mem _ hz)
    have my : ys.map (·.val (env ++ [t])) = ys.map (·.val env) := vals_more fun z hz => by rw [← hne]; exact hy z (List.mem_cons_of_mem _ hz)
    refine ⟨fun h1 => ?_, fun h0 => ?_⟩
    · rw [vt, ht, b01_one, bne_iff_ne] at h1
      intro s hs
      have hs : s = b01 (decide (x.val (env ++ [t]) < y.val (env ++ [t]))) := hs
      rw [val_more bx, val_more by'] at hs
      have := hk ([t] ++ [s]) (.var (ne + 1)) (by
        rw [← List.append_assoc, val_end (by simp [hne]), hs]
        congr 1
        rw [decide_eq_decide]
        exact ⟨fun h => .inl h, fun h => h.elim id fun h => absurd h.1 h1⟩)
      rw [← List.append_assoc] at this
      exact this
    · rw [vt, ht, b01_zero, bne_eq_false_iff_eq] at h0
      refine lessR_ok xs ys (ne + 1) (env ++ [t]) (by simpa using hl) (by simp [hne]) (fun z hz => (hx z (List.mem_cons_of_mem _ hz)).more (by omega)) (fun z hz => (hy z (List.mem_cons_of_mem _ hz)).more (by omega))
        (by rw [mx]; exact wx) (by rw [my]; exact wy) fun e o ho => ?_
      rw [mx, my] at ho
      have := hk ([t] ++ e) o (by
        rw [← List.append_assoc, ho]
        congr 1
        rw [decide_eq_decide]
        exact ⟨fun h => .inr ⟨h0, h⟩, fun h => h.elim (fun h => by omega) (·.2)⟩)
      rw [← List.append_assoc] at this
      exact this
  | [], _ :: _, _, _, h, _, _, _, _, _, _ => by simp at h
  | _ :: _, [], _, _, h, _, _, _, _, _, _ => by simp at h

theorem smallR_ok : ∀ (xs ys : List SI) (ne : Nat) (env : List Int), xs ≠ [] → xs.length = ys.length → ne = env.length → (∀ x ∈ xs, Bd ne x) → (∀ y ∈ ys, Bd ne y) → Wds (xs.map (·.val env)) → Wds (ys.map (·.val env)) →
    (∀ (e : List Int) (o : SI), o.val (env ++ e) = b01 (decide (vw (xs.map (·.val env)).reverse < vw (ys.map (·.val env)).reverse)) → A.fin (enc [o]) st0 (env ++ e)) → (smallR xs ys ne).holds A env
  | [], _, _, _, h, _, _, _, _, _, _, _ => absurd rfl h
  | [x], [y], ne, env, _, hl, hne, hx, hy, wx, wy, hk => by
    intro t ht
    have ht : t = b01 (decide (x.val env < y.val env)) := ht
    refine hk [t] (.var ne) ?_
    rw [val_end hne, ht]
    simp [vw]
  | x :: x' :: xs, y :: y' :: ys, ne, env, _, hl, hne, hx, hy, wx, wy, hk => by
    have bx := hx x (List.mem_cons_self ..)
    have by' := hy y (List.mem_cons_self ..)
    obtain ⟨wx0, wx⟩ := Wds.tail (by simpa using wx)
    obtain ⟨wy0, wy⟩ := Wds.tail (by simpa using wy)
    rw [hne] at bx by'
    have hlt := rev_lt (x := x.val env) (y := y.val env) (l := (x' :: xs).map (·.val env)) (m := (y' :: ys).map (·.val env)) (by simpa using hl) (by simpa using wx) (by simpa using wy)
    have hk : ∀ (e : List Int) (o : SI), o.val (env ++ e) = b01 (decide (x.val env < y.val env ∨ (x.val env = y.val env ∧ vw ((x' :: xs).map (·.val env)).reverse < vw ((y' :: ys).map (·.val env)).reverse))) → A.fin (enc [o]) st0 (env ++ e) :=
      fun e o ho => hk e o (by rw [ho]; congr 1; rw [decide_eq_decide]; exact hlt.symm)
    intro t ht
    have ht : t = b01 (decide (x.val env < y.val env)) := ht
    have vt : (env ++ [t]).getD ne 0 = t := at_end hne
    refine ⟨fun h1 => ?_, fun h0 => ?_⟩
    · rw [vt, ht, b01_one, decide_eq_true_eq] at h1
      refine hk [t] (.lit 1) ?_
      rw [decide_eq_true (.inl h1)]
      rfl
    · rw [vt, ht, b01_zero, decide_eq_false_iff_not] at h0
      intro s hs
      have hs : s = b01 (x.val (env ++ [t]) == y.val (env ++ [t])) := hs
      rw [val_more bx, val_more by'] at hs
      have vs : (env ++ [t] ++ [s]).getD (ne + 1) 0 = s := at_end (by simp [hne])
      have env2 : env ++ [t] ++ [s] = env ++ ([t] ++ [s]) := by simp
      have mx : (x' :: xs).map (·.val (env ++ [t] ++ [s])) = (x' :: xs).map (·.val env) := by rw [env2]; exact vals_more fun z hz => by rw [← hne]; exact hx z (List.mem_cons_of_mem _ hz)
      have my : (y' :: ys).map (·.val (env ++ [t] ++ [s])) = (y' :: ys).map (·.val env) := by rw [env2]; exact vals_more fun z hz => by rw [← hne]; exact hy z (List.mem_cons_of_mem _ hz)
      refine ⟨fun h1 => ?_, fun h2 => ?_⟩
      · rw [vs, hs, b01_one, beq_iff_eq] at h1
        refine smallR_ok (x' :: xs) (y' :: ys) (ne + 2) (env ++ [t] ++ [s]) (by simp) (by simpa using hl) (by simp [hne]) (fun z hz => (hx z (List.mem_cons_of_mem _ hz)).more (by omega)) (fun z hz => (hy z (List.mem_cons_of_mem _ hz)).more (by omega))
          (by rw [mx]; exact wx) (by rw [my]; exact wy) fun e o ho => ?_
        rw [mx, my] at ho
        have := hk ([t] ++ [s] ++ e) o (by
          rw [← List.append_assoc, ← env2, ho]
          congr 1
          rw [decide_eq_decide]
          exact ⟨fun h => .inr ⟨h1, h⟩, fun h => h.elim (fun h => by omega) (·.2)⟩)
        rw [← List.append_assoc, ← env2] at this
        exact this
      · rw [vs, hs, b01_zero, beq_eq_false_iff_ne] at h2
        have := hk ([t] ++ [s]) (.lit 0) (by
          rw [decide_eq_false]
          · rfl
          · rintro (h | ⟨h, _⟩)
            · exact h0 h
            · exact h2 h)
        rw [← env2] at this
        exact this
  | _ :: _, [], _, _, _, h, _, _, _, _, _, _ => by simp at h
  | [_], _ :: _ :: _, _, _, _, h, _, _, _, _, _, _ => by simp at h
  | _ :: _ :: _, [_], _, _, _, h, _, _, _, _, _, _ => by simp at h

theorem sameT_ok : ∀ (xs ys : List SI) (ne : Nat) (env : List Int), xs.length = ys.length → ne = env.length → (∀ x ∈ xs, Bd ne x) → (∀ y ∈ ys, Bd ne y) →
    (∀ (e : List Int) (o : SI), o.val (env ++ e) = b01 (decide (xs.map (·.val env) = ys.map (·.val env))) → A.fin (enc [o]) st0 (env ++ e)) → (sameT xs ys ne).holds A env
  | [], [], ne, env, _, _, _, _, hk => by
    have := hk [] (.lit 1) rfl
    simp only [List.append_nil] at this
    exact this
  | x :: xs, y :: ys, ne, env, hl, hne, hx, hy, hk => by
    have bx := hx x (List.mem_cons_self ..)
    have by' := hy y (List.mem_cons_self ..)
    rw [hne] at bx by'
    have hk : ∀ (e : List Int) (o : SI), o.val (env ++ e) = b01 (decide (x.val env = y.val env ∧ xs.map (·.val env) = ys.map (·.val env))) → A.fin (enc [o]) st0 (env ++ e) :=
      fun e o ho => hk e o (by rw [ho]; congr 1; rw [decide_eq_decide, List.map_cons, List.map_cons, List.cons.injEq])
    intro t ht
    have ht : t = b01 (x.val env != y.val env) := ht
    have vt : (env ++ [t]).getD ne 0 = t := at_end hne
    have mx : xs.map (·.val (env ++ [t])) = xs.map (·.val env) := vals_more fun z hz => by rw [← hne]; exact hx z (List.mem_cons_of_mem _ hz)
    have my : ys.map (·.val (env ++ [t])) = ys.map (·.val env) := vals_more fun z hz => by rw [← hne]; exact hy z (List.mem_cons_of_mem _ hz)
    refine ⟨fun h1 => ?_, fun h0 => ?_⟩
    · rw [vt, ht, b01_one, bne_iff_ne] at h1
      refine hk [t] (.lit 0) ?_
      rw [decide_eq_false (fun h => h1 h.1)]
      rfl
    · rw [vt, ht, b01_zero, bne_eq_false_iff_eq] at h0
      refine sameT_ok xs ys (ne + 1) (env ++ [t]) (by simpa using hl) (by simp [hne]) (fun z hz => (hx z (List.mem_cons_of_mem _ hz)).more (by omega)) (fun z hz => (hy z (List.mem_cons_of_mem _ hz)).more (by omega)) fun e o ho => ?_
      rw [mx, my] at ho
      have := hk ([t] ++ e) o (by
        rw [← List.append_assoc, ho]
        congr 1
        rw [decide_eq_decide]
        exact ⟨fun h => ⟨h0, h⟩, fun h => h.2⟩)
      rw [← List.append_assoc] at this
      exact this
  | [], _ :: _, _, _, h, _, _, _, _ => by simp at h
  | _ :: _, [], _, _, h, _, _, _, _ => by simp at h
end
end Eng
end
section
/-
  Numbers by words: the field's sums and differences, the reference's, the laws on them, as trees of facts, for any number of words.
-/
namespace Eng
open Go

/-- What the contracts of words say. -/
structure WAsk (A : Ask) (n : Nat) (q : List Int) : Prop where
  pre : ∀ id xs, id < 20 → Wds xs → A.pre id xs
  less : ∀ xs ys, A.post 0 xs ys → ys = [b01 (decide (vw (xs.take n) < vw (xs.drop n)))]
  same : ∀ xs ys, A.post 1 xs ys → ys = [b01 (decide (xs.take n = xs.drop n))]
  plus : ∀ xs ys, A.post 4 xs ys → Plus (xs.take n) (xs.drop n) ys
  lessen : ∀ xs ys, A.post 5 xs ys → Lessen (xs.take n) (xs.drop n) ys
  sub : ∀ xs ys, A.post 6 xs ys → DifMod (xs.take n) (xs.drop n) q ys
  small : ∀ xs ys, A.post 7 xs ys → ys = [b01 (decide (vw xs < vw q))]
  double : ∀ xs ys, A.post 8 xs ys → SumMod xs xs q ys
  by3 : ∀ xs ys, A.post 9 xs ys → ∃ d, SumMod xs xs q d ∧ SumMod d xs q ys
  fly : ∀ xs ys, A.post 10 xs ys → SumMod (xs.take n) (xs.drop n) q (ys.take n) ∧ DifMod (xs.take n) (xs.drop n) q (ys.drop n)
  addW : ∀ xs ys, A.post 11 xs ys → SumMod (xs.take n) ((xs.drop n).take n) (xs.drop (2 * n)) ys
  subW : ∀ xs ys, A.post 12 xs ys → DifMod (xs.take n) ((xs.drop n).take n) (xs.drop (2 * n)) ys
  times : ∀ xs ys, A.post 14 xs ys → ∃ z1 z2, SumMod (List.replicate n 0) (xs.take n) (xs.drop n) z1 ∧ SumMod z1 (xs.take n) (xs.drop n) z2 ∧ SumMod z2 (xs.take n) (xs.drop n) ys
/-- The prime. -/
structure WQ (n : Nat) (q : List Int) : Prop where
  wd : Wds q
  len : q.length = n
  low : 2 * vw q ≤ BW ^ n

theorem val_lit {n : Int} {env : List Int} : (SI.lit n).val env = n := rfl
section
variable {A : Ask} {n : Nat} {q : List Int}

def redT (q : List Int) (zs : List SI) (ne : Nat) (k : List SI → Nat → Tree) : Tree :=
  .hav 7 zs 1 (.br ne (k zs (ne + 1)) (subCh (fun os _ ne' => k os ne') zs (ls q) (.lit 0) (ne + 1) []))
def addT (q : List Int) (xs ys : List SI) (ne : Nat) (k : List SI → Nat → Tree) : Tree :=
  addCh (fun os _ ne' => redT q os ne' k) xs ys (.lit 0) ne []
def subT (q : List Int) (xs ys : List SI) (ne : Nat) (k : List SI → Nat → Tree) : Tree :=
  subCh (fun os b ne' => .dfn (.cmp .neq) [b, .lit 0] (.br ne' (addCh (fun os' _ ne'' => k os' ne'') os (ls q) (.lit 0) (ne' + 1) []) (k os (ne' + 1)))) xs ys (.lit 0) ne []

/-- What a field's operation has come to. -/
structure ROk (R : List Int → Prop) (env e : List Int) (os : List SI) (ne' : Nat) (n : Nat) : Prop where
  ne : ne' = (env ++ e).length
  ob : ∀ z ∈ os, Bd ne' z
  len : os.length = n
  wd : Wds (os.map (·.val (env ++ e)))
  val : R (os.map (·.val (env ++ e)))

theorem map_len {env : List Int} {os : List SI} {d : List Int} (h : os.map (·.val env) = d) : os.length = d.length := by rw [← h, List.length_map]

theorem addT_ok (hA : WAsk A n q) (hq : WQ n q) {xs ys : List SI} {ne : Nat} {env : List Int} {k : List SI → Nat → Tree} (lx : xs.length = n) (ly : ys.length = n) (hne : ne = env.length) (hx : ∀ x ∈ xs, Bd ne x) (hy : ∀ y ∈ ys, Bd ne y)
    (wx : Wds (xs.map (·.val env))) (wy : Wds (ys.map (·.val env)))
    (hk : ∀ (e : List Int) (os : List SI) (ne' : Nat), ROk (SumMod (xs.map (·.val env)) (ys.map (·.val env)) q) env e os ne' n → (k os ne').holds A (env ++ e)) : (addT q xs ys ne k).holds A env := by
  refine addCh_ok xs ys (.lit 0) ne [] env (by omega) hne hx hy trivial (fun z hz => by cases hz) wx wy (.inl rfl) fun e os c' ne' h => ?_
  obtain ⟨h1, h2, h3, h4, d, h5, h6, h7, h8⟩ := h
  simp only [List.map_nil, List.nil_append] at h5
  rw [← h5] at h6 h7 h8
  simp only [Int.one_mul, val_lit, Int.add_zero] at h8
  have lo : os.length = n := by simpa [lx] using h7
  generalize hX : xs.map (·.val env) = X at *
  generalize hY : ys.map (·.val env) = Y at *
  have lX : X.length = n := by rw [← hX]; simpa using lx
  have bX := vw_bounds wx
  have bo := vw_bounds h6
  have bq := vw_bounds hq.wd
  rw [List.length_map, lo] at bo
  have hlow := hq.low
  rw [lx] at h8
  -- no word more
  have c0 : vw X < vw q → vw Y < vw q → c'.val (env ++ e) = 0 := by
    intro h1 h2
    rcases h4 with h | h
    · exact h
    · rw [h, Int.mul_one] at h8; omega
  refine ⟨hA.pre _ _ (by decide) h6, fun t _ ht => ?_⟩
  have ht := hA.small _ _ ht
  subst ht
  have vt : ∀ v : Int, (env ++ e ++ [v]).getD ne' 0 = v := fun v => at_end h1
  have ho3 : ∀ v : List Int, os.map (·.val (env ++ e ++ v)) = os.map (·.val (env ++ e)) := fun v => vals_more fun z hz => by rw [← h1]; exact h3 z hz
  refine ⟨fun hb => ?_, fun hb => ?_⟩
  · rw [vt, b01_one, decide_eq_true_eq] at hb
    rw [List.append_assoc]
    refine hk _ os (ne' + 1) ⟨by simp [h1]; omega, fun z hz => (h3 z hz).more (by omega), lo, ?_, ?_⟩
    · rw [← List.append_assoc, ho3]; exact h6
    · rw [← List.append_assoc, ho3]
      refine ⟨by rw [List.length_map, lo, lX], h6, fun g1 g2 => ?_⟩
      have := c0 g1 g2
      rw [this, Int.mul_zero] at h8
      rw [if_pos (by omega)]
      omega
  · rw [vt, b01_zero, decide_eq_false_iff_not] at hb
    refine subCh_ok os (ls q) (.lit 0) (ne' + 1) [] _ (by simp [ls, lo, hq.len]) (by simp [h1]; omega) (fun z hz => (h3 z hz).more (by omega)) ls_bd trivial (fun z hz => by cases hz) (by rw [ho3]; exact h6) (by rw [ls_vals]; exact hq.wd) (.inl rfl)
      fun e2 os2 c2 ne2 g => ?_
    obtain ⟨g1, g2, g3, g4, d2, g5, g6, g7, g8⟩ := g
    simp only [List.map_nil, List.nil_append] at g5
    rw [← g5] at g6 g7 g8
    rw [ho3, ls_vals] at g8
    simp only [val_lit, Int.add_zero] at g8
    have lo2 : os2.length = n := by simpa [lo] using g7
    have bo2 := vw_bounds g6
    rw [List.length_map, lo2] at bo2
    rw [lo] at g8
    have e3 : env ++ e ++ [b01 (decide (vw (os.map (·.val (env ++ e))) < vw q))] ++ e2 = env ++ (e ++ [b01 (decide (vw (os.map (·.val (env ++ e))) < vw q))] ++ e2) := by simp
    rw [e3] at g1 g4 g6 g8 bo2 ⊢
    refine hk _ os2 ne2 ⟨g1, g3, lo2, g6, ?_⟩
    refine ⟨by rw [List.length_map, lo2, lX], g6, fun f1 f2 => ?_⟩
    have := c0 f1 f2
    rw [this, Int.mul_zero] at h8
    rw [if_neg (by omega)]
    rcases g4 with g | g <;> rw [g] at g8
    · rw [Int.mul_zero] at g8; omega
    · rw [Int.mul_one] at g8
      generalize BW ^ n = W at *
      omega

theorem subT_ok (hq : WQ n q) {xs ys : List SI} {ne : Nat} {env : List Int} {k : List SI → Nat → Tree} (lx : xs.length = n) (ly : ys.length = n) (hne : ne = env.length) (hx : ∀ x ∈ xs, Bd ne x) (hy : ∀ y ∈ ys, Bd ne y)
    (wx : Wds (xs.map (·.val env))) (wy : Wds (ys.map (·.val env)))
    (hk : ∀ (e : List Int) (os : List SI) (ne' : Nat), ROk (DifMod (xs.map (·.val env)) (ys.map (·.val env)) q) env e os ne' n → (k os ne').holds A (env ++ e)) : (subT q xs ys ne k).holds A env := by
  refine subCh_ok xs ys (.lit 0) ne [] env (by omega) hne hx hy trivial (fun z hz => by cases hz) wx wy (.inl rfl) fun e os c' ne' h => ?_
  obtain ⟨h1, h2, h3, h4, d, h5, h6, h7, h8⟩ := h
  simp only [List.map_nil, List.nil_append] at h5
  rw [← h5] at h6 h7 h8
  simp only [val_lit, Int.add_zero] at h8
  have lo : os.length = n := by simpa [lx] using h7
  have lX : (xs.map (·.val env)).length = n := by simpa using lx
  rw [lx] at h8
  intro t ht
  have ht : t = b01 (c'.val (env ++ e) != 0) := ht
  have vt : ∀ v : Int, (env ++ e ++ [v]).getD ne' 0 = v := fun v => at_end h1
  have ho3 : ∀ v : List Int, os.map (·.val (env ++ e ++ v)) = os.map (·.val (env ++ e)) := fun v => vals_more fun z hz => by rw [← h1]; exact h3 z hz
  refine ⟨fun hb => ?_, fun hb => ?_⟩
  · rw [vt, ht, b01_one, bne_iff_ne] at hb
    have hc : c'.val (env ++ e) = 1 := by rcases h4 with h | h <;> first | exact absurd h hb | exact h
    refine addCh_ok os (ls q) (.lit 0) (ne' + 1) [] _ (by simp [ls, lo, hq.len]) (by simp [h1]; omega) (fun z hz => (h3 z hz).more (by omega)) ls_bd trivial (fun z hz => by cases hz) (by rw [ho3]; exact h6) (by rw [ls_vals]; exact hq.wd) (.inl rfl)
      fun e2 os2 c2 ne2 g => ?_
    obtain ⟨g1, g2, g3, g4, d2, g5, g6, g7, g8⟩ := g
    simp only [List.map_nil, List.nil_append] at g5
    rw [← g5] at g6 g7 g8
    rw [ho3, ls_vals] at g8
    simp only [val_lit, Int.add_zero, Int.one_mul] at g8
    have lo2 : os2.length = n := by simpa [lo] using g7
    have e3 : env ++ e ++ [t] ++ e2 = env ++ (e ++ [t] ++ e2) := by simp
    rw [e3] at g1 g4 g6 g8 ⊢
    refine hk _ os2 ne2 ⟨g1, g3, lo2, g6, ?_⟩
    refine dif_more (o := os.map (·.val (env ++ e))) (c := 1) (c' := c2.val (env ++ (e ++ [t] ++ e2))) wx wy hq.wd h6 g6 (by rw [List.length_map, lo, lX]) (by rw [List.length_map, lo2, List.length_map, lo]) rfl g4 ?_ ?_
    · rw [hc] at h8; rw [lX]; omega
    · rw [List.length_map]; exact g8
  · rw [vt, ht, b01_zero, bne_eq_false_iff_eq] at hb
    rw [List.append_assoc]
    refine hk _ os (ne' + 1) ⟨by simp [h1]; omega, fun z hz => (h3 z hz).more (by omega), lo, ?_, ?_⟩
    · rw [← List.append_assoc, ho3]; exact h6
    · rw [← List.append_assoc, ho3]
      refine dif_same (c := 0) h6 (by rw [List.length_map, lo, lX]) rfl ?_
      rw [hb] at h8; rw [lX]; omega

/-! ### the field's functions -/
def fld (f : (List SI → Nat → Tree) → Tree) : Tree := f fun os _ => .fin (enc os) st0
def subF (n : Nat) (q : List Int) : Tree := fld fun k => subT q (vr 0 n) (vr n n) (2 * n) k
def doubleF (n : Nat) (q : List Int) : Tree := fld fun k => addT q (vr 0 n) (vr 0 n) n k
def by3F (n : Nat) (q : List Int) : Tree := fld fun k => addT q (vr 0 n) (vr 0 n) n fun os ne => addT q os (vr 0 n) ne k
def flyF (n : Nat) (q : List Int) : Tree := addT q (vr 0 n) (vr n n) (2 * n) fun os ne => subT q (vr 0 n) (vr n n) ne fun ds _ => .fin (enc (os ++ ds)) st0

theorem two_vr {env : List Int} (hl : env.length = 2 * n) : (vr 0 n).map (·.val env) = env.take n ∧ (vr n n).map (·.val env) = env.drop n := by
  rw [vr_vals (by omega), vr_vals (by omega)]
  exact ⟨by simp, List.take_of_length_le (by simp; omega)⟩
theorem one_vr {env : List Int} (hl : env.length = n) : (vr 0 n).map (·.val env) = env := by
  rw [vr_vals (by omega)]
  simp [hl, List.take_of_length_le]

theorem subF_ok (hq : WQ n q) {env : List Int} (hl : env.length = 2 * n) (hw : Wds env)
    (hk : ∀ (e : List Int) (os : List SI), DifMod (env.take n) (env.drop n) q (os.map (·.val (env ++ e))) → A.fin (enc os) st0 (env ++ e)) : (subF n q).holds A env := by
  obtain ⟨h1, h2⟩ := two_vr hl
  refine subT_ok hq vr_length vr_length hl.symm (vr_bd (by omega)) (vr_bd (by omega)) (wds_vr hw (by omega)) (wds_vr hw (by omega)) fun e os ne' h => ?_
  exact hk e os (by rw [← h1, ← h2]; exact h.val)
theorem doubleF_ok (hA : WAsk A n q) (hq : WQ n q) {env : List Int} (hl : env.length = n) (hw : Wds env)
    (hk : ∀ (e : List Int) (os : List SI), SumMod env env q (os.map (·.val (env ++ e))) → A.fin (enc os) st0 (env ++ e)) : (doubleF n q).holds A env := by
  refine addT_ok hA hq vr_length vr_length hl.symm (vr_bd (by omega)) (vr_bd (by omega)) (wds_vr hw (by omega)) (wds_vr hw (by omega)) fun e os ne' h => ?_
  have := h.val
  rw [one_vr hl] at this
  exact hk e os this
theorem by3F_ok (hA : WAsk A n q) (hq : WQ n q) {env : List Int} (hl : env.length = n) (hw : Wds env)
    (hk : ∀ (e : List Int) (os : List SI), (∃ d, SumMod env env q d ∧ SumMod d env q (os.map (·.val (env ++ e)))) → A.fin (enc os) st0 (env ++ e)) : (by3F n q).holds A env := by
  refine addT_ok hA hq vr_length vr_length hl.symm (vr_bd (by omega)) (vr_bd (by omega)) (wds_vr hw (by omega)) (wds_vr hw (by omega)) fun e os ne' h => ?_
  have hv : (vr 0 n).map (·.val (env ++ e)) = env := by rw [vals_more (vr_bd (by omega)), one_vr hl]
  have h' := h.val
  rw [one_vr hl] at h'
  have hle : env.length ≤ ne' := by rw [h.ne]; simp
  refine addT_ok hA hq h.len vr_length h.ne h.ob (vr_bd (by omega)) h.wd (by rw [hv]; exact hw) fun e2 os2 ne2 g => ?_
  have g' := g.val
  rw [hv] at g'
  rw [List.append_assoc] at g' ⊢
  exact hk _ os2 ⟨_, h', g'⟩
theorem flyF_ok (hA : WAsk A n q) (hq : WQ n q) {env : List Int} (hl : env.length = 2 * n) (hw : Wds env)
    (hk : ∀ (e : List Int) (os ds : List SI), os.length = n → SumMod (env.take n) (env.drop n) q (os.map (·.val (env ++ e))) → DifMod (env.take n) (env.drop n) q (ds.map (·.val (env ++ e))) → A.fin (enc (os ++ ds)) st0 (env ++ e)) : (flyF n q).holds A env := by
  obtain ⟨h1, h2⟩ := two_vr hl
  refine addT_ok hA hq vr_length vr_length hl.symm (vr_bd (by omega)) (vr_bd (by omega)) (wds_vr hw (by omega)) (wds_vr hw (by omega)) fun e os ne' h => ?_
  have hle : env.length ≤ ne' := by rw [h.ne]; simp
  have hv1 : (vr 0 n).map (·.val (env ++ e)) = env.take n := by rw [vals_more (vr_bd (by omega)), h1]
  have hv2 : (vr n n).map (·.val (env ++ e)) = env.drop n := by rw [vals_more (vr_bd (by omega)), h2]
  refine subT_ok hq vr_length vr_length h.ne (vr_bd (by omega)) (vr_bd (by omega)) (by rw [hv1]; exact hw.take n) (by rw [hv2]; exact hw.drop n) fun e2 ds ne2 g => ?_
  have h' := h.val
  have g' := g.val
  rw [h1, h2] at h'
  rw [hv1, hv2] at g'
  rw [List.append_assoc] at g' ⊢
  refine hk _ os ds h.len ?_ g'
  rw [← List.append_assoc, vals_more fun z hz => by rw [← h.ne]; exact h.ob z hz]
  exact h'

/-! ### the reference's functions -/
def addWT (n : Nat) : Tree :=
  .hav 4 (vr 0 n ++ vr n n) (n + 1) (.br (4 * n) (.hav 5 (vr (3 * n) n ++ vr (2 * n) n) (n + 1) (.fin (enc (vr (4 * n + 1) n)) st0))
    (.hav 0 (vr (3 * n) n ++ vr (2 * n) n) 1 (.br (4 * n + 1) (.fin (enc (vr (3 * n) n)) st0) (.hav 5 (vr (3 * n) n ++ vr (2 * n) n) (n + 1) (.fin (enc (vr (4 * n + 2) n)) st0)))))
def subWT (n : Nat) : Tree :=
  .hav 5 (vr 0 n ++ vr n n) (n + 1) (.br (4 * n) (.hav 4 (vr (3 * n) n ++ vr (2 * n) n) (n + 1) (.fin (enc (vr (4 * n + 1) n)) st0)) (.fin (enc (vr (3 * n) n)) st0))

theorem three_vr {env : List Int} (hl : env.length = 3 * n) : (vr 0 n).map (·.val env) = env.take n ∧ (vr n n).map (·.val env) = (env.drop n).take n ∧ (vr (2 * n) n).map (·.val env) = env.drop (2 * n) := by
  rw [vr_vals (by omega), vr_vals (by omega), vr_vals (by omega)]
  exact ⟨by simp, rfl, List.take_of_length_le (by simp; omega)⟩
theorem vals_app {env : List Int} {xs ys : List SI} {a b : List Int} (h : xs.map (·.val env) = a) (k : ys.map (·.val env) = b) : (xs ++ ys).map (·.val env) = a ++ b := by rw [List.map_append, h, k]
theorem take_app {a b : List Int} (h : a.length = n) : (a ++ b).take n = a := List.take_left' h
theorem drop_app {a b : List Int} (h : a.length = n) : (a ++ b).drop n = b := List.drop_left' h

theorem addWT_ok (hA : WAsk A n q) {env : List Int} (hl : env.length = 3 * n) (hw : Wds env)
    (hk : ∀ (e : List Int) (os : List SI), SumMod (env.take n) ((env.drop n).take n) (env.drop (2 * n)) (os.map (·.val (env ++ e))) → A.fin (enc os) st0 (env ++ e)) : (addWT n).holds A env := by
  obtain ⟨h1, h2, h3⟩ := three_vr hl
  have la : (env.take n).length = n := by simp; omega
  have lb : ((env.drop n).take n).length = n := by simp; omega
  have lm : (env.drop (2 * n)).length = n := by simp; omega
  have wa := hw.take n
  have wb := (hw.drop n).take n
  have wm := hw.drop (2 * n)
  generalize env.take n = a at *
  generalize (env.drop n).take n = b at *
  generalize env.drop (2 * n) = m at *
  refine ⟨?_, fun ys _ hp => ?_⟩
  · rw [vals_app h1 h2]; exact hA.pre _ _ (by decide) (Wds.append wa wb)
  rw [vals_app h1 h2] at hp
  have hp := hA.plus _ _ hp
  rw [take_app la, drop_app la] at hp
  obtain ⟨o, c, rfl, lo, bc, wo, hv⟩ := hp
  have vo : (vr (3 * n) n).map (·.val (env ++ (o ++ [c]))) = o := by rw [← List.append_assoc, vals_more (vr_bd (by simp [hl, lo, la])), vals_new hl.symm (by omega)]
  have vm : (vr (2 * n) n).map (·.val (env ++ (o ++ [c]))) = m := by rw [vals_more (vr_bd (by omega)), h3]
  have vc : (env ++ (o ++ [c])).getD (4 * n) 0 = c := by rw [← List.append_assoc]; exact at_end (by simp; omega)
  have lE : (env ++ (o ++ [c])).length = 4 * n + 1 := by simp; omega
  -- less the modulus
  have less : ∀ (e : List Int), (c = 1 ∨ vw m ≤ vw o) → (.hav 5 (vr (3 * n) n ++ vr (2 * n) n) (n + 1) (.fin (enc (vr (4 * n + 1 + e.length) n)) st0) : Tree).holds A (env ++ (o ++ [c]) ++ e) := by
    intro e hge
    have vo' : (vr (3 * n) n).map (·.val (env ++ (o ++ [c]) ++ e)) = o := by rw [vals_more (vr_bd (by omega)), vo]
    have vm' : (vr (2 * n) n).map (·.val (env ++ (o ++ [c]) ++ e)) = m := by rw [vals_more (vr_bd (by omega)), vm]
    refine ⟨by rw [vals_app vo' vm']; exact hA.pre _ _ (by decide) (Wds.append wo wm), fun ys _ hp => ?_⟩
    rw [vals_app vo' vm'] at hp
    have hp := hA.lessen _ _ hp
    rw [take_app (by omega), drop_app (by omega)] at hp
    obtain ⟨d, k, rfl, ld, bk, wd, hv'⟩ := hp
    have := hk (o ++ [c] ++ e ++ (d ++ [k])) (vr (4 * n + 1 + e.length) n) ?_
    · show A.fin _ _ _
      simpa using this
    · have vd : (vr (4 * n + 1 + e.length) n).map (·.val (env ++ (o ++ [c] ++ e ++ (d ++ [k])))) = d := by
        rw [show env ++ (o ++ [c] ++ e ++ (d ++ [k])) = env ++ (o ++ [c]) ++ e ++ d ++ [k] by simp, vals_more (vr_bd (by simp; omega)), vals_new (by simp; omega) (by omega)]
      rw [vd]
      exact sum_less wa wb wm (by omega) (by omega) wo wd (by omega) (by omega) bc bk hv (by rw [← hv']) hge
  refine ⟨fun hb => ?_, fun hb => ?_⟩
  · rw [vc] at hb
    have := less [] (.inl hb)
    simpa using this
  · rw [vc] at hb
    refine ⟨by rw [vals_app vo vm]; exact hA.pre _ _ (by decide) (Wds.append wo wm), fun ys _ hp => ?_⟩
    rw [vals_app vo vm] at hp
    have hp := hA.less _ _ hp
    rw [take_app (by omega), drop_app (by omega)] at hp
    subst hp
    have vt : ∀ v : Int, (env ++ (o ++ [c]) ++ [v]).getD (4 * n + 1) 0 = v := fun v => at_end lE.symm
    refine ⟨fun hb2 => ?_, fun hb2 => ?_⟩
    · rw [vt, b01_one, decide_eq_true_eq] at hb2
      have := hk (o ++ [c] ++ [b01 (decide (vw o < vw m))]) (vr (3 * n) n) ?_
      · show A.fin _ _ _
        simpa using this
      · rw [← List.append_assoc, vals_more (vr_bd (by omega)), vo]
        exact sum_same wo (by omega) hb hv hb2
    · rw [vt, b01_zero, decide_eq_false_iff_not] at hb2
      exact less [_] (.inr (by omega))
theorem subWT_ok (hA : WAsk A n q) {env : List Int} (hl : env.length = 3 * n) (hw : Wds env)
    (hk : ∀ (e : List Int) (os : List SI), DifMod (env.take n) ((env.drop n).take n) (env.drop (2 * n)) (os.map (·.val (env ++ e))) → A.fin (enc os) st0 (env ++ e)) : (subWT n).holds A env := by
  obtain ⟨h1, h2, h3⟩ := three_vr hl
  have la : (env.take n).length = n := by simp; omega
  have lb : ((env.drop n).take n).length = n := by simp; omega
  have lm : (env.drop (2 * n)).length = n := by simp; omega
  have wa := hw.take n
  have wb := (hw.drop n).take n
  have wm := hw.drop (2 * n)
  generalize env.take n = a at *
  generalize (env.drop n).take n = b at *
  generalize env.drop (2 * n) = m at *
  refine ⟨?_, fun ys _ hp => ?_⟩
  · rw [vals_app h1 h2]; exact hA.pre _ _ (by decide) (Wds.append wa wb)
  rw [vals_app h1 h2] at hp
  have hp := hA.lessen _ _ hp
  rw [take_app la, drop_app la] at hp
  obtain ⟨o, c, rfl, lo, bc, wo, hv⟩ := hp
  have vo : (vr (3 * n) n).map (·.val (env ++ (o ++ [c]))) = o := by rw [← List.append_assoc, vals_more (vr_bd (by simp [hl, lo, la])), vals_new hl.symm (by omega)]
  have vm : (vr (2 * n) n).map (·.val (env ++ (o ++ [c]))) = m := by rw [vals_more (vr_bd (by omega)), h3]
  have vc : (env ++ (o ++ [c])).getD (4 * n) 0 = c := by rw [← List.append_assoc]; exact at_end (by simp; omega)
  have lE : (env ++ (o ++ [c])).length = 4 * n + 1 := by simp; omega
  refine ⟨fun hb => ?_, fun hb => ?_⟩
  · rw [vc] at hb
    refine ⟨by rw [vals_app vo vm]; exact hA.pre _ _ (by decide) (Wds.append wo wm), fun ys _ hp => ?_⟩
    rw [vals_app vo vm] at hp
    have hp := hA.plus _ _ hp
    rw [take_app (by omega), drop_app (by omega)] at hp
    obtain ⟨d, k, rfl, ld, bk, wd, hv'⟩ := hp
    have := hk (o ++ [c] ++ (d ++ [k])) (vr (4 * n + 1) n) ?_
    · show A.fin _ _ _
      simpa using this
    · have vd : (vr (4 * n + 1) n).map (·.val (env ++ (o ++ [c] ++ (d ++ [k])))) = d := by
        rw [show env ++ (o ++ [c] ++ (d ++ [k])) = env ++ (o ++ [c]) ++ d ++ [k] by simp, vals_more (vr_bd (by simp; omega)), vals_new (by simp; omega) (by omega)]
      rw [vd]
      exact dif_more wa wb wm wo wd (by omega) (by omega) hb bk hv hv'
  · rw [vc] at hb
    refine hk (o ++ [c]) (vr (3 * n) n) ?_
    rw [vo]
    exact dif_same wo (by omega) hb hv

def zeros (n : Nat) : List SI := List.replicate n (.lit 0)
def timesT (n : Nat) : Tree :=
  .hav 11 (zeros n ++ vr 0 n ++ vr n n) n (.hav 11 (vr (2 * n) n ++ vr 0 n ++ vr n n) n (.hav 11 (vr (3 * n) n ++ vr 0 n ++ vr n n) n (.fin (enc (vr (4 * n) n)) st0)))
end
end Eng
end
section
/-
  Numbers by words: the laws on sums and differences, as trees of facts, for any number of words.
-/
namespace Eng
open Go

section
variable {A : Ask} {n : Nat} {q : List Int}

theorem timesT_ok (hA : WAsk A n q) {env : List Int} (hl : env.length = 2 * n) (hw : Wds env)
    (hk : ∀ (e : List Int) (os : List SI), (∃ z1 z2, SumMod (List.replicate n 0) (env.take n) (env.drop n) z1 ∧ SumMod z1 (env.take n) (env.drop n) z2 ∧ SumMod z2 (env.take n) (env.drop n) (os.map (·.val (env ++ e)))) → A.fin (enc os) st0 (env ++ e)) :
    (timesT n).holds A env := by
  obtain ⟨h1, h2⟩ := two_vr hl
  have la : (env.take n).length = n := by simp; omega
  have lm : (env.drop n).length = n := by simp; omega
  have wa := hw.take n
  have wm := hw.drop n
  generalize env.take n = a at *
  generalize env.drop n = m at *
  have wz : Wds (List.replicate n (0 : Int)) := fun x hx => by rw [(List.mem_replicate.1 hx).2]; exact ⟨by decide, by decide⟩
  have hz : ∀ e : List Int, (zeros n).map (·.val e) = List.replicate n 0 := fun e => by simp [zeros, SI.val]
  have three : ∀ {x y z : List Int}, x.length = n → y.length = n → z.length = n → (x ++ y ++ z).take n = x ∧ ((x ++ y ++ z).drop n).take n = y ∧ (x ++ y ++ z).drop (2 * n) = z := by
    intro x y z hx hy hz
    refine ⟨by rw [List.append_assoc, take_app hx], by rw [List.append_assoc, drop_app hx, take_app hy], drop_app (by simp [hx, hy]; omega)⟩
  refine ⟨by rw [vals_app (vals_app (hz env) h1) h2]; exact hA.pre _ _ (by decide) (Wds.append (Wds.append wz wa) wm), fun z1 _ hp => ?_⟩
  rw [vals_app (vals_app (hz env) h1) h2] at hp
  have hp1 := hA.addW _ _ hp
  obtain ⟨t1, t2, t3⟩ := three (x := List.replicate n (0 : Int)) (y := a) (z := m) (by simp) la lm
  rw [t1, t2, t3] at hp1
  have l1 := hp1.1
  have w1 := hp1.2.1
  rw [List.length_replicate] at l1
  have v1 : (vr (2 * n) n).map (·.val (env ++ z1)) = z1 := vals_new hl.symm l1.symm
  have va : (vr 0 n).map (·.val (env ++ z1)) = a := by rw [vals_more (vr_bd (by omega)), h1]
  have vm : (vr n n).map (·.val (env ++ z1)) = m := by rw [vals_more (vr_bd (by omega)), h2]
  refine ⟨by rw [vals_app (vals_app v1 va) vm]; exact hA.pre _ _ (by decide) (Wds.append (Wds.append w1 wa) wm), fun z2 _ hp => ?_⟩
  rw [vals_app (vals_app v1 va) vm] at hp
  have hp2 := hA.addW _ _ hp
  obtain ⟨t1, t2, t3⟩ := three (x := z1) (y := a) (z := m) l1 la lm
  rw [t1, t2, t3] at hp2
  have l2 := hp2.1
  have w2 := hp2.2.1
  rw [l1] at l2
  have lE : (env ++ z1).length = 3 * n := by simp; omega
  have v2 : (vr (3 * n) n).map (·.val (env ++ z1 ++ z2)) = z2 := vals_new lE.symm l2.symm
  have va : (vr 0 n).map (·.val (env ++ z1 ++ z2)) = a := by rw [vals_more (vr_bd (by omega)), va]
  have vm : (vr n n).map (·.val (env ++ z1 ++ z2)) = m := by rw [vals_more (vr_bd (by omega)), vm]
  refine ⟨by rw [vals_app (vals_app v2 va) vm]; exact hA.pre _ _ (by decide) (Wds.append (Wds.append w2 wa) wm), fun z3 _ hp => ?_⟩
  rw [vals_app (vals_app v2 va) vm] at hp
  have hp3 := hA.addW _ _ hp
  obtain ⟨t1, t2, t3⟩ := three (x := z2) (y := a) (z := m) l2 la lm
  rw [t1, t2, t3] at hp3
  have l3 := hp3.1
  rw [l2] at l3
  have e3 : env ++ z1 ++ z2 ++ z3 = env ++ (z1 ++ z2 ++ z3) := by simp
  have v3 : (vr (4 * n) n).map (·.val (env ++ z1 ++ z2 ++ z3)) = z3 := vals_new (by simp; omega) l3.symm
  rw [e3] at v3
  have := hk (z1 ++ z2 ++ z3) (vr (4 * n) n) ⟨z1, z2, hp1, hp2, by rw [v3]; exact hp3⟩
  rw [← e3] at this
  exact this

/-! ### laws -/
/-- Is it below the prime? Else the law says nothing. -/
def chkT (q : List Int) (xs : List SI) (ne : Nat) (t : Tree) : Tree := .hav 0 (xs ++ ls q) 1 (.br ne t (.fin (enc [.lit 1]) st0))
def sameE (xs ys : List SI) (ne : Nat) : Tree := .hav 1 (xs ++ ys) 1 (.fin (enc [.var ne]) st0)
theorem chkT_ok (hA : WAsk A n q) (hq : WQ n q) {xs : List SI} {ne : Nat} {t : Tree} {env : List Int} (lx : xs.length = n) (hne : ne = env.length) (hw : Wds (xs.map (·.val env)))
    (hfin : ∀ e : List Int, A.fin (enc [.lit 1]) st0 (env ++ e)) (ht : vw (xs.map (·.val env)) < vw q → ∀ v, t.holds A (env ++ [v])) : (chkT q xs ne t).holds A env := by
  have hv : (xs ++ ls q).map (·.val env) = xs.map (·.val env) ++ q := by rw [List.map_append, ls_vals]
  refine ⟨by rw [hv]; exact hA.pre _ _ (by decide) (Wds.append hw hq.wd), fun ys _ hp => ?_⟩
  rw [hv] at hp
  have hp := hA.less _ _ hp
  rw [take_app (by simpa using lx), drop_app (by simpa using lx)] at hp
  subst hp
  have vt : ∀ v : Int, (env ++ [v]).getD ne 0 = v := fun v => at_end hne
  refine ⟨fun h => ?_, fun _ => hfin _⟩
  rw [vt, b01_one, decide_eq_true_eq] at h
  exact ht h _
theorem sameE_ok (hA : WAsk A n q) {xs ys : List SI} {ne : Nat} {env : List Int} {a : List Int} (hx : xs.map (·.val env) = a) (hy : ys.map (·.val env) = a) (la : a.length = n) (hne : ne = env.length) (hw : Wds a)
    (hfin : ∀ (e : List Int) (o : SI), o.val (env ++ e) = 1 → A.fin (enc [o]) st0 (env ++ e)) : (sameE xs ys ne).holds A env := by
  refine ⟨by rw [vals_app hx hy]; exact hA.pre _ _ (by decide) (Wds.append hw hw), fun ys _ hp => ?_⟩
  rw [vals_app hx hy] at hp
  have hp := hA.same _ _ hp
  rw [take_app la, drop_app la, decide_eq_true rfl] at hp
  subst hp
  exact hfin _ (.var ne) (val_end hne)

def lawSubT (n : Nat) (q : List Int) : Tree :=
  chkT q (vr 0 n) (2 * n) (chkT q (vr n n) (2 * n + 1) (.hav 6 (vr 0 n ++ vr n n) n (.hav 12 (vr 0 n ++ vr n n ++ ls q) n (sameE (vr (2 * n + 2) n) (vr (3 * n + 2) n) (4 * n + 2)))))
def lawDoubleT (n : Nat) (q : List Int) : Tree :=
  chkT q (vr 0 n) n (.hav 8 (vr 0 n) n (.hav 11 (vr 0 n ++ vr 0 n ++ ls q) n (sameE (vr (n + 1) n) (vr (2 * n + 1) n) (3 * n + 1))))
def lawBy3T (n : Nat) (q : List Int) : Tree :=
  chkT q (vr 0 n) n (.hav 9 (vr 0 n) n (.hav 14 (vr 0 n ++ ls q) n (sameE (vr (n + 1) n) (vr (2 * n + 1) n) (3 * n + 1))))
def lawFlyT (n : Nat) (q : List Int) : Tree :=
  chkT q (vr 0 n) (2 * n) (chkT q (vr n n) (2 * n + 1) (.hav 10 (vr 0 n ++ vr n n) (2 * n) (.hav 11 (vr 0 n ++ vr n n ++ ls q) n
    (.hav 1 (vr (2 * n + 2) n ++ vr (4 * n + 2) n) 1 (.br (5 * n + 2) (.hav 12 (vr 0 n ++ vr n n ++ ls q) n (sameE (vr (3 * n + 2) n) (vr (5 * n + 3) n) (6 * n + 3))) (.fin (enc [.lit 0]) st0))))))

theorem three_app {x y z : List Int} (hx : x.length = n) (hy : y.length = n) : (x ++ y ++ z).take n = x ∧ ((x ++ y ++ z).drop n).take n = y ∧ (x ++ y ++ z).drop (2 * n) = z :=
  ⟨by rw [List.append_assoc, take_app hx], by rw [List.append_assoc, drop_app hx, take_app hy], drop_app (by simp [hx, hy]; omega)⟩

theorem lawSubT_ok (hA : WAsk A n q) (hq : WQ n q) {env : List Int} (hl : env.length = 2 * n) (hw : Wds env)
    (hfin : ∀ (e : List Int) (o : SI), o.val (env ++ e) = 1 → A.fin (enc [o]) st0 (env ++ e)) : (lawSubT n q).holds A env := by
  obtain ⟨h1, h2⟩ := two_vr hl
  have la : (env.take n).length = n := by simp; omega
  have lb : (env.drop n).length = n := by simp; omega
  have wa := hw.take n
  have wb := hw.drop n
  generalize env.take n = a at *
  generalize env.drop n = b at *
  refine chkT_ok hA hq vr_length hl.symm (by rw [h1]; exact wa) (fun e => hfin e (.lit 1) rfl) fun ha v => ?_
  rw [h1] at ha
  have k1 : (vr 0 n).map (·.val (env ++ [v])) = a := by rw [vals_more (vr_bd (by omega)), h1]
  have k2 : (vr n n).map (·.val (env ++ [v])) = b := by rw [vals_more (vr_bd (by omega)), h2]
  refine chkT_ok hA hq vr_length (by simp [hl]) (by rw [k2]; exact wb) (fun e => by rw [List.append_assoc]; exact hfin _ (.lit 1) rfl) fun hb v' => ?_
  rw [k2] at hb
  have l1 : (env ++ [v]).length = 2 * n + 1 := by simp [hl]
  have k1 : (vr 0 n).map (·.val (env ++ [v] ++ [v'])) = a := by rw [vals_more (vr_bd (by omega)), k1]
  have k2 : (vr n n).map (·.val (env ++ [v] ++ [v'])) = b := by rw [vals_more (vr_bd (by omega)), k2]
  have l2 : (env ++ [v] ++ [v']).length = 2 * n + 2 := by simp [hl]
  have e2 : ∀ e, env ++ [v] ++ [v'] ++ e = env ++ ([v] ++ [v'] ++ e) := by simp
  generalize hE : env ++ [v] ++ [v'] = E at *
  refine ⟨by rw [vals_app k1 k2]; exact hA.pre _ _ (by decide) (Wds.append wa wb), fun xs _ hp => ?_⟩
  rw [vals_app k1 k2] at hp
  have hx := hA.sub _ _ hp
  rw [take_app la, drop_app la] at hx
  have lx : xs.length = n := by rw [hx.1, la]
  have kx : (vr (2 * n + 2) n).map (·.val (E ++ xs)) = xs := vals_new l2.symm lx.symm
  have k1 : (vr 0 n).map (·.val (E ++ xs)) = a := by rw [vals_more (vr_bd (by omega)), k1]
  have k2 : (vr n n).map (·.val (E ++ xs)) = b := by rw [vals_more (vr_bd (by omega)), k2]
  have l3 : (E ++ xs).length = 3 * n + 2 := by simp; omega
  have k3 := vals_app (vals_app k1 k2) (ls_vals (q := q) (env := E ++ xs))
  refine ⟨by rw [k3]; exact hA.pre _ _ (by decide) (Wds.append (Wds.append wa wb) hq.wd), fun ys _ hp => ?_⟩
  rw [k3] at hp
  have hy := hA.subW _ _ hp
  obtain ⟨t1, t2, t3⟩ := three_app (x := a) (y := b) (z := q) la lb
  rw [t1, t2, t3] at hy
  have hxy := dif_one hx hy ha hb
  subst hxy
  refine sameE_ok hA (a := xs) ?_ (vals_new l3.symm lx.symm) lx (by simp; omega) hx.2.1 fun e o ho => ?_
  · rw [vals_more (vr_bd (by omega)), kx]
  · rw [List.append_assoc, List.append_assoc, e2] at ho ⊢
    exact hfin _ o ho

theorem lawDoubleT_ok (hA : WAsk A n q) (hq : WQ n q) {env : List Int} (hl : env.length = n) (hw : Wds env)
    (hfin : ∀ (e : List Int) (o : SI), o.val (env ++ e) = 1 → A.fin (enc [o]) st0 (env ++ e)) : (lawDoubleT n q).holds A env := by
  have h1 := one_vr hl
  refine chkT_ok hA hq vr_length hl.symm (by rw [h1]; exact hw) (fun e => hfin e (.lit 1) rfl) fun ha v => ?_
  rw [h1] at ha
  have k1 : (vr 0 n).map (·.val (env ++ [v])) = env := by rw [vals_more (vr_bd (by omega)), h1]
  have l2 : (env ++ [v]).length = n + 1 := by simp [hl]
  have e2 : ∀ e, env ++ [v] ++ e = env ++ ([v] ++ e) := by simp
  generalize hE : env ++ [v] = E at *
  refine ⟨by rw [k1]; exact hA.pre _ _ (by decide) hw, fun xs _ hp => ?_⟩
  rw [k1] at hp
  have hx := hA.double _ _ hp
  have lx : xs.length = n := by rw [hx.1, hl]
  have kx : (vr (n + 1) n).map (·.val (E ++ xs)) = xs := vals_new l2.symm lx.symm
  have k1 : (vr 0 n).map (·.val (E ++ xs)) = env := by rw [vals_more (vr_bd (by omega)), k1]
  have l3 : (E ++ xs).length = 2 * n + 1 := by simp; omega
  have k3 := vals_app (vals_app k1 k1) (ls_vals (q := q) (env := E ++ xs))
  refine ⟨by rw [k3]; exact hA.pre _ _ (by decide) (Wds.append (Wds.append hw hw) hq.wd), fun ys _ hp => ?_⟩
  rw [k3] at hp
  have hy := hA.addW _ _ hp
  obtain ⟨t1, t2, t3⟩ := three_app (x := env) (y := env) (z := q) hl hl
  rw [t1, t2, t3] at hy
  have hxy := sum_one hx hy ha ha
  subst hxy
  refine sameE_ok hA (a := xs) ?_ (vals_new l3.symm lx.symm) lx (by simp; omega) hx.2.1 fun e o ho => ?_
  · rw [vals_more (vr_bd (by omega)), kx]
  · rw [List.append_assoc, List.append_assoc, e2] at ho ⊢
    exact hfin _ o ho

theorem sum_lt {a b m x : List Int} (h : SumMod a b m x) (wa : Wds a) (wb : Wds b) (ha : vw a < vw m) (hb : vw b < vw m) : vw x < vw m := by
  have := h.2.2 ha hb
  have b1 := vw_bounds wa
  have b2 := vw_bounds wb
  split at this <;> omega

theorem vw_zero : ∀ n : Nat, vw (List.replicate n (0 : Int)) = 0
  | 0 => rfl
  | n + 1 => by rw [List.replicate_succ, vw, vw_zero n]; rfl

theorem lawBy3T_ok (hA : WAsk A n q) (hq : WQ n q) {env : List Int} (hl : env.length = n) (hw : Wds env)
    (hfin : ∀ (e : List Int) (o : SI), o.val (env ++ e) = 1 → A.fin (enc [o]) st0 (env ++ e)) : (lawBy3T n q).holds A env := by
  have h1 := one_vr hl
  refine chkT_ok hA hq vr_length hl.symm (by rw [h1]; exact hw) (fun e => hfin e (.lit 1) rfl) fun ha v => ?_
  rw [h1] at ha
  have k1 : (vr 0 n).map (·.val (env ++ [v])) = env := by rw [vals_more (vr_bd (by omega)), h1]
  have l2 : (env ++ [v]).length = n + 1 := by simp [hl]
  have e2 : ∀ e, env ++ [v] ++ e = env ++ ([v] ++ e) := by simp
  generalize hE : env ++ [v] = E at *
  refine ⟨by rw [k1]; exact hA.pre _ _ (by decide) hw, fun xs _ hp => ?_⟩
  rw [k1] at hp
  obtain ⟨d, hd, hx⟩ := hA.by3 _ _ hp
  have ld : d.length = n := by rw [hd.1, hl]
  have lx : xs.length = n := by rw [hx.1, ld]
  have kx : (vr (n + 1) n).map (·.val (E ++ xs)) = xs := vals_new l2.symm lx.symm
  have k1 : (vr 0 n).map (·.val (E ++ xs)) = env := by rw [vals_more (vr_bd (by omega)), k1]
  have l3 : (E ++ xs).length = 2 * n + 1 := by simp; omega
  have k3 := vals_app k1 (ls_vals (q := q) (env := E ++ xs))
  refine ⟨by rw [k3]; exact hA.pre _ _ (by decide) (Wds.append hw hq.wd), fun ys _ hp => ?_⟩
  rw [k3] at hp
  obtain ⟨z1, z2, g1, g2, g3⟩ := hA.times _ _ hp
  rw [take_app hl, drop_app hl] at g1 g2 g3
  have b0 := vw_bounds hw
  have z0 := vw_zero n
  have wz : Wds (List.replicate n (0 : Int)) := fun x hx => by rw [(List.mem_replicate.1 hx).2]; exact ⟨by decide, by decide⟩
  have v1 := g1.2.2 (by omega) ha
  rw [z0] at v1
  have hz1 : z1 = env := vw_inj (by rw [g1.1]; simp [hl]) g1.2.1 hw (by rw [v1]; split <;> omega)
  subst hz1
  have hz2 := sum_one g2 hd ha ha
  subst hz2
  have hxy := sum_one hx g3 (sum_lt hd hw hw ha ha) ha
  subst hxy
  refine sameE_ok hA (a := xs) ?_ (vals_new l3.symm lx.symm) lx (by simp; omega) hx.2.1 fun e o ho => ?_
  · rw [vals_more (vr_bd (by omega)), kx]
  · rw [List.append_assoc, List.append_assoc, e2] at ho ⊢
    exact hfin _ o ho

theorem lawFlyT_ok (hA : WAsk A n q) (hq : WQ n q) {env : List Int} (hl : env.length = 2 * n) (hw : Wds env)
    (hfin : ∀ (e : List Int) (o : SI), o.val (env ++ e) = 1 → A.fin (enc [o]) st0 (env ++ e)) : (lawFlyT n q).holds A env := by
  obtain ⟨h1, h2⟩ := two_vr hl
  have la : (env.take n).length = n := by simp; omega
  have lb : (env.drop n).length = n := by simp; omega
  have wa := hw.take n
  have wb := hw.drop n
  generalize env.take n = a at *
  generalize env.drop n = b at *
  refine chkT_ok hA hq vr_length hl.symm (by rw [h1]; exact wa) (fun e => hfin e (.lit 1) rfl) fun ha v => ?_
  rw [h1] at ha
  have k1 : (vr 0 n).map (·.val (env ++ [v])) = a := by rw [vals_more (vr_bd (by omega)), h1]
  have k2 : (vr n n).map (·.val (env ++ [v])) = b := by rw [vals_more (vr_bd (by omega)), h2]
  refine chkT_ok hA hq vr_length (by simp [hl]) (by rw [k2]; exact wb) (fun e => by rw [List.append_assoc]; exact hfin _ (.lit 1) rfl) fun hb v' => ?_
  rw [k2] at hb
  have l1 : (env ++ [v]).length = 2 * n + 1 := by simp [hl]
  have k1 : (vr 0 n).map (·.val (env ++ [v] ++ [v'])) = a := by rw [vals_more (vr_bd (by omega)), k1]
  have k2 : (vr n n).map (·.val (env ++ [v] ++ [v'])) = b := by rw [vals_more (vr_bd (by omega)), k2]
  have l2 : (env ++ [v] ++ [v']).length = 2 * n + 2 := by simp [hl]
  have e2 : ∀ e, env ++ [v] ++ [v'] ++ e = env ++ ([v] ++ [v'] ++ e) := by simp
  generalize hE : env ++ [v] ++ [v'] = E at *
  refine ⟨by rw [vals_app k1 k2]; exact hA.pre _ _ (by decide) (Wds.append wa wb), fun os los hp => ?_⟩
  rw [vals_app k1 k2] at hp
  obtain ⟨hs, hd⟩ := hA.fly _ _ hp
  rw [take_app la, drop_app la] at hs hd
  -- the two parts
  have split : os = os.take n ++ os.drop n := (List.take_append_drop n os).symm
  have ls : (os.take n).length = n := by rw [hs.1, la]
  have ld : (os.drop n).length = n := by rw [hd.1, la]
  generalize os.take n = s at *
  generalize os.drop n = d at *
  subst split
  have ks : (vr (2 * n + 2) n).map (·.val (E ++ (s ++ d))) = s := by rw [← List.append_assoc, vals_more (vr_bd (by simp; omega)), vals_new l2.symm ls.symm]
  have kd : (vr (3 * n + 2) n).map (·.val (E ++ (s ++ d))) = d := by rw [← List.append_assoc, vals_new (by simp; omega) ld.symm]
  have k1 : (vr 0 n).map (·.val (E ++ (s ++ d))) = a := by rw [vals_more (vr_bd (by omega)), k1]
  have k2 : (vr n n).map (·.val (E ++ (s ++ d))) = b := by rw [vals_more (vr_bd (by omega)), k2]
  have l3 : (E ++ (s ++ d)).length = 4 * n + 2 := by simp; omega
  have e3 : ∀ e, E ++ (s ++ d) ++ e = env ++ ([v] ++ [v'] ++ (s ++ d ++ e)) := by intro e; rw [← e2]; simp
  generalize hE3 : E ++ (s ++ d) = E3 at *
  obtain ⟨t1, t2, t3⟩ := three_app (x := a) (y := b) (z := q) la lb
  have k3 := vals_app (vals_app k1 k2) (ls_vals (q := q) (env := E3))
  refine ⟨by rw [k3]; exact hA.pre _ _ (by decide) (Wds.append (Wds.append wa wb) hq.wd), fun ys _ hp => ?_⟩
  rw [k3] at hp
  have hy := hA.addW _ _ hp
  rw [t1, t2, t3] at hy
  have hxy := sum_one hs hy ha hb
  subst hxy
  have ks' : (vr (2 * n + 2) n).map (·.val (E3 ++ s)) = s := by rw [vals_more (vr_bd (by omega)), ks]
  have ky : (vr (4 * n + 2) n).map (·.val (E3 ++ s)) = s := vals_new l3.symm ls.symm
  refine ⟨by rw [vals_app ks' ky]; exact hA.pre _ _ (by decide) (Wds.append hs.2.1 hs.2.1), fun r _ hp => ?_⟩
  rw [vals_app ks' ky] at hp
  have hp := hA.same _ _ hp
  rw [take_app ls, drop_app ls, decide_eq_true rfl] at hp
  subst hp
  have l5 : (E3 ++ s).length = 5 * n + 2 := by simp; omega
  have vt : (E3 ++ s ++ [b01 true]).getD (5 * n + 2) 0 = 1 := at_end l5.symm
  have k1 : (vr 0 n).map (·.val (E3 ++ s ++ [b01 true])) = a := by rw [vals_more (vr_bd (by omega)), vals_more (vr_bd (by omega)), k1]
  have k2 : (vr n n).map (·.val (E3 ++ s ++ [b01 true])) = b := by rw [vals_more (vr_bd (by omega)), vals_more (vr_bd (by omega)), k2]
  have kd' : (vr (3 * n + 2) n).map (·.val (E3 ++ s ++ [b01 true])) = d := by rw [vals_more (vr_bd (by omega)), vals_more (vr_bd (by omega)), kd]
  have e5 : ∀ e, E3 ++ s ++ [b01 true] ++ e = E3 ++ (s ++ [b01 true] ++ e) := by simp
  have l6 : (E3 ++ s ++ [b01 true]).length = 5 * n + 3 := by simp; omega
  generalize hE5 : E3 ++ s ++ [b01 true] = E5 at *
  have k3 := vals_app (vals_app k1 k2) (ls_vals (q := q) (env := E5))
  refine ⟨fun _ => ⟨by rw [k3]; exact hA.pre _ _ (by decide) (Wds.append (Wds.append wa wb) hq.wd), fun ys _ hp => ?_⟩, fun h => by rw [vt] at h; exact absurd h (by decide)⟩
  rw [k3] at hp
  have hy := hA.subW _ _ hp
  rw [t1, t2, t3] at hy
  have hxy := dif_one hd hy ha hb
  subst hxy
  refine sameE_ok hA (a := d) ?_ (vals_new l6.symm ld.symm) ld (by simp; omega) hd.2.1 fun e o ho => ?_
  · rw [vals_more (vr_bd (by omega)), kd']
  · rw [List.append_assoc, e5, e3] at ho ⊢
    exact hfin _ o ho
end
end Eng
end
section
/-
  Numbers by words: comparisons, the reference's sum and difference, as trees of facts over the first words of the list.
-/
namespace Eng
open Go

section
variable {A : Ask} {n : Nat} {q : List Int}
theorem rev_bd {i n m : Nat} (h : i + n ≤ m) : ∀ x ∈ (vr i n).reverse, Bd m x := fun x hx => vr_bd h x (List.mem_reverse.1 hx)
theorem rev_vals {xs : List SI} {env : List Int} : (xs.reverse.map (·.val env)).reverse = xs.map (·.val env) := by rw [← List.map_reverse, List.reverse_reverse]

theorem lessF_ok {env : List Int} (hl : env.length = 2 * n) (hw : Wds env)
    (hk : ∀ (e : List Int) (o : SI), o.val (env ++ e) = b01 (decide (vw (env.take n) < vw (env.drop n))) → A.fin (enc [o]) st0 (env ++ e)) : (lessR (vr 0 n).reverse (vr n n).reverse (2 * n)).holds A env := by
  obtain ⟨h1, h2⟩ := two_vr hl
  refine lessR_ok _ _ _ env (by simp [vr]) hl.symm (rev_bd (by omega)) (rev_bd (by omega)) ?_ ?_ fun e o ho => hk e o ?_
  · rw [List.map_reverse, h1]; exact wds_rev (hw.take n)
  · rw [List.map_reverse, h2]; exact wds_rev (hw.drop n)
  · rw [rev_vals, rev_vals, h1, h2] at ho; exact ho
theorem smallF_ok (hq : WQ n q) (hn : n ≠ 0) {env : List Int} (hl : env.length = n) (hw : Wds env)
    (hk : ∀ (e : List Int) (o : SI), o.val (env ++ e) = b01 (decide (vw env < vw q)) → A.fin (enc [o]) st0 (env ++ e)) : (smallR (vr 0 n).reverse (ls q).reverse n).holds A env := by
  have h1 := one_vr hl
  refine smallR_ok _ _ _ env ?_ (by simp [vr, ls, hq.len]) hl.symm (rev_bd (by omega)) (fun x hx => ls_bd x (List.mem_reverse.1 hx)) ?_ ?_ fun e o ho => hk e o ?_
  · intro h
    have := congrArg List.length h
    simp [vr] at this
    exact hn this
  · rw [List.map_reverse, h1]; exact wds_rev hw
  · rw [List.map_reverse, ls_vals]; exact wds_rev hq.wd
  · rw [rev_vals, rev_vals, h1, ls_vals] at ho; exact ho
theorem sameF_ok {env : List Int} (hl : env.length = 2 * n)
    (hk : ∀ (e : List Int) (o : SI), o.val (env ++ e) = b01 (decide (env.take n = env.drop n)) → A.fin (enc [o]) st0 (env ++ e)) : (sameT (vr 0 n) (vr n n) (2 * n)).holds A env := by
  obtain ⟨h1, h2⟩ := two_vr hl
  refine sameT_ok _ _ _ env (by simp [vr]) hl.symm (vr_bd (by omega)) (vr_bd (by omega)) fun e o ho => hk e o ?_
  rw [h1, h2] at ho; exact ho
theorem plusF_ok {env : List Int} (hl : env.length = 2 * n) (hw : Wds env)
    (hk : ∀ (e : List Int) (os : List SI), Plus (env.take n) (env.drop n) (os.map (·.val (env ++ e))) → A.fin (enc os) st0 (env ++ e)) : (plusT n n 0 0 (2 * n) []).holds A env := by
  have la : (env.take n).length = n := by simp; omega
  have lb : (env.drop n).length = n := by simp; omega
  have e0 : env.take n ++ env.drop n = env := List.take_append_drop n env
  have := plusT_ok (A := A) la lb (hw.take n) (hw.drop n) (fun τ ext h => by rw [e0] at h ⊢; exact hk ext τ h) n 0 0 (2 * n) [] [] (by omega) (by simp; omega) (.inl rfl) (by simp) rfl (by intro x hx; simp at hx) (by simp [vw])
  rw [List.append_nil, e0] at this
  exact this
theorem lessenF_ok {env : List Int} (hl : env.length = 2 * n) (hw : Wds env)
    (hk : ∀ (e : List Int) (os : List SI), Lessen (env.take n) (env.drop n) (os.map (·.val (env ++ e))) → A.fin (enc os) st0 (env ++ e)) : (lessenT n n 0 0 (2 * n) []).holds A env := by
  have la : (env.take n).length = n := by simp; omega
  have lb : (env.drop n).length = n := by simp; omega
  have e0 : env.take n ++ env.drop n = env := List.take_append_drop n env
  have := lessenT_ok (A := A) la lb (hw.take n) (hw.drop n) (fun τ ext h => by rw [e0] at h ⊢; exact hk ext τ h) n 0 0 (2 * n) [] [] (by omega) (by simp; omega) (.inl rfl) (by simp) rfl (by intro x hx; simp at hx) (by simp [vw])
  rw [List.append_nil, e0] at this
  exact this
end

/-! ### equal just if the words are -/
theorem wrap_nat (n : Nat) (h : n < 18446744073709551616) : IntKind.u64.wrap (n : Int) = n := (fits_iff .u64 n).2 ⟨by simp [kMin], by simp [kMax]; omega⟩
theorem wd_wrap (x : Int) : Wd (IntKind.u64.wrap x) := by
  have := (fits_iff _ _).1 (fits_wrap .u64 x)
  simp [kMin, kMax] at this
  exact ⟨by omega, by omega⟩
def xo (x y : Int) : Int := binEv .xor .u64 x y
def orr (x y : Int) : Int := binEv .or .u64 x y
theorem bv_int {x y : Int} (hx : Wd x) (hy : Wd y) (h : BitVec.ofInt 64 x = BitVec.ofInt 64 y) : x = y := by
  have := congrArg BitVec.toNat h
  simp [Wd] at this hx hy
  omega
theorem xo_zero {x y : Int} (hx : Wd x) (hy : Wd y) : xo x y = 0 ↔ x = y := by
  have hlt := (BitVec.ofInt 64 x ^^^ BitVec.ofInt 64 y).isLt
  show IntKind.u64.wrap (((BitVec.ofInt 64 x ^^^ BitVec.ofInt 64 y).toNat : Nat) : Int) = 0 ↔ _
  rw [wrap_nat _ hlt]
  constructor
  · intro h
    have h0 : BitVec.ofInt 64 x ^^^ BitVec.ofInt 64 y = 0#64 := BitVec.eq_of_toNat_eq (by simpa using h)
    have : BitVec.ofInt 64 x = BitVec.ofInt 64 y := by
      have := congrArg (· ^^^ BitVec.ofInt 64 y) h0
      simpa [BitVec.xor_assoc] using this
    exact bv_int hx hy this
  · rintro rfl
    simp
theorem orr_zero {x y : Int} (hx : Wd x) (hy : Wd y) : orr x y = 0 ↔ x = 0 ∧ y = 0 := by
  have hlt := (BitVec.ofInt 64 x ||| BitVec.ofInt 64 y).isLt
  show IntKind.u64.wrap (((BitVec.ofInt 64 x ||| BitVec.ofInt 64 y).toNat : Nat) : Int) = 0 ↔ _
  rw [wrap_nat _ hlt]
  constructor
  · intro h
    have h0 : BitVec.ofInt 64 x ||| BitVec.ofInt 64 y = 0#64 := BitVec.eq_of_toNat_eq (by simpa using h)
    have h1 := BitVec.or_eq_zero_iff.1 h0
    refine ⟨bv_int hx ⟨by decide, by decide⟩ (by simpa using h1.1), bv_int hy ⟨by decide, by decide⟩ (by simpa using h1.2)⟩
  · rintro ⟨rfl, rfl⟩
    simp

def xorCh (k : SI → Nat → Tree) : List SI → List SI → SI → Nat → Tree
  | x :: xs, y :: ys, acc, ne => .dfn (.bin .xor .u64) [x, y] (.dfn (.bin .or .u64) [acc, .var ne] (xorCh k xs ys (.var (ne + 1)) (ne + 2)))
  | _, _, acc, ne => k acc ne
def difT (k : SI → Nat → Tree) : List SI → List SI → Nat → Tree
  | x :: xs, y :: ys, ne => .dfn (.bin .xor .u64) [x, y] (xorCh k xs ys (.var ne) (ne + 1))
  | _, _, _ => .bad 51
theorem xorCh_ok {A : Ask} {k : SI → Nat → Tree} {p : Prop} : ∀ (xs ys : List SI) (acc : SI) (ne : Nat) (env : List Int), xs.length = ys.length → ne = env.length → (∀ x ∈ xs, Bd ne x) → (∀ y ∈ ys, Bd ne y) → Bd ne acc →
    Wds (xs.map (·.val env)) → Wds (ys.map (·.val env)) → Wd (acc.val env) → (acc.val env = 0 ↔ p) →
    (∀ (e : List Int) (o : SI) (ne' : Nat), ne' = (env ++ e).length → Bd ne' o → Wd (o.val (env ++ e)) → (o.val (env ++ e) = 0 ↔ p ∧ xs.map (·.val env) = ys.map (·.val env)) → (k o ne').holds A (env ++ e)) → (xorCh k xs ys acc ne).holds A env
  | [], [], acc, ne, env, _, hne, _, _, ha, _, _, wa, hp, hk => by
    have := hk [] acc ne (by simpa using hne) ha (by simpa using wa) (by simpa using hp)
    simp only [List.append_nil] at this
    exact this
  | x :: xs, y :: ys, acc, ne, env, hl, hne, hx, hy, ha, wx, wy, wa, hp, hk => by
    have bx := hx x (List.mem_cons_self ..)
    have by' := hy y (List.mem_cons_self ..)
    obtain ⟨wx0, wx⟩ := Wds.tail (by simpa using wx)
    obtain ⟨wy0, wy⟩ := Wds.tail (by simpa using wy)
    rw [hne] at bx by' ha
    intro d hd
    intro b hb
    have hd : d = xo (x.val env) (y.val env) := hd
    have hb : b = orr (acc.val (env ++ [d])) ((SI.var ne).val (env ++ [d])) := hb
    rw [val_more ha, val_end hne] at hb
    have hd0 := xo_zero wx0 wy0
    rw [← hd] at hd0
    have wd : Wd d := by rw [hd]; exact wd_wrap _
    have hb0 := orr_zero wa wd
    rw [← hb] at hb0
    have env2 : env ++ [d] ++ [b] = env ++ ([d] ++ [b]) := by simp
    have mx : xs.map (·.val (env ++ [d] ++ [b])) = xs.map (·.val env) := by rw [env2]; exact vals_more fun z hz => by rw [← hne]; exact hx z (List.mem_cons_of_mem _ hz)
    have my : ys.map (·.val (env ++ [d] ++ [b])) = ys.map (·.val env) := by rw [env2]; exact vals_more fun z hz => by rw [← hne]; exact hy z (List.mem_cons_of_mem _ hz)
    have vb : (SI.var (ne + 1)).val (env ++ [d] ++ [b]) = b := val_end (by simp [hne])
    refine xorCh_ok (p := p ∧ x.val env = y.val env) xs ys (.var (ne + 1)) (ne + 2) (env ++ [d] ++ [b]) (by simpa using hl) (by simp [hne]) (fun z hz => (hx z (List.mem_cons_of_mem _ hz)).more (by omega)) (fun z hz => (hy z (List.mem_cons_of_mem _ hz)).more (by omega))
      (show ne + 1 < ne + 2 by omega) (by rw [mx]; exact wx) (by rw [my]; exact wy) (by rw [vb, hb]; exact wd_wrap _) (by rw [vb, hb0, hp, hd0]) fun e o ne' h1 h2 h3 h4 => ?_
    rw [mx, my] at h4
    have := hk ([d] ++ [b] ++ e) o ne' (by rw [h1]; simp) h2 (by rw [← List.append_assoc, ← env2]; exact h3) (by
      rw [← List.append_assoc, ← env2, h4, List.map_cons, List.map_cons, List.cons.injEq, and_assoc])
    rw [← List.append_assoc, ← env2] at this
    exact this
  | [], _ :: _, _, _, _, h, _, _, _, _, _, _, _, _, _ => by simp at h
  | _ :: _, [], _, _, _, h, _, _, _, _, _, _, _, _, _ => by simp at h
theorem difT_ok {A : Ask} {k : SI → Nat → Tree} (xs ys : List SI) (ne : Nat) (env : List Int) (hn : xs ≠ []) (hl : xs.length = ys.length) (hne : ne = env.length) (hx : ∀ x ∈ xs, Bd ne x) (hy : ∀ y ∈ ys, Bd ne y)
    (wx : Wds (xs.map (·.val env))) (wy : Wds (ys.map (·.val env)))
    (hk : ∀ (e : List Int) (o : SI) (ne' : Nat), ne' = (env ++ e).length → Bd ne' o → Wd (o.val (env ++ e)) → (o.val (env ++ e) = 0 ↔ xs.map (·.val env) = ys.map (·.val env)) → (k o ne').holds A (env ++ e)) : (difT k xs ys ne).holds A env := by
  match xs, ys, hl, hn with
  | x :: xs, y :: ys, hl, _ =>
    obtain ⟨wx0, wx⟩ := Wds.tail (by simpa using wx)
    obtain ⟨wy0, wy⟩ := Wds.tail (by simpa using wy)
    intro d hd
    have hd : d = xo (x.val env) (y.val env) := hd
    have hd0 := xo_zero wx0 wy0
    rw [← hd] at hd0
    have mx : xs.map (·.val (env ++ [d])) = xs.map (·.val env) := vals_more fun z hz => by rw [← hne]; exact hx z (List.mem_cons_of_mem _ hz)
    have my : ys.map (·.val (env ++ [d])) = ys.map (·.val env) := vals_more fun z hz => by rw [← hne]; exact hy z (List.mem_cons_of_mem _ hz)
    refine xorCh_ok (p := x.val env = y.val env) xs ys (.var ne) (ne + 1) (env ++ [d]) (by simpa using hl) (by simp [hne]) (fun z hz => (hx z (List.mem_cons_of_mem _ hz)).more (by omega)) (fun z hz => (hy z (List.mem_cons_of_mem _ hz)).more (by omega))
      (show ne < ne + 1 by omega) (by rw [mx]; exact wx) (by rw [my]; exact wy) (by rw [val_end hne, hd]; exact wd_wrap _) (by rw [val_end hne, hd0]) fun e o ne' h1 h2 h3 h4 => ?_
    rw [mx, my] at h4
    have := hk ([d] ++ e) o ne' (by rw [h1]; simp) h2 (by rw [← List.append_assoc]; exact h3) (by
      rw [← List.append_assoc, h4, List.map_cons, List.map_cons, List.cons.injEq])
    rw [← List.append_assoc] at this
    exact this
end Eng
end
section
/-
  Numbers by words: the law on equality, as a tree of facts, for any number of words.
-/
namespace Eng
open Go

section
variable {A : Ask} {n : Nat} {q : List Int}
structure WEq (A : Ask) (n : Nat) : Prop where
  eq : ∀ xs ys, A.post 2 xs ys → ys = [b01 (decide (xs.take n = xs.drop n))]
  ne : ∀ xs ys, A.post 3 xs ys → ∃ y, ys = [y] ∧ (y = 0 ↔ xs.take n = xs.drop n)

def eqF (n : Nat) : Tree := difT (fun o ne => .dfn (.cmp .eql) [o, .lit 0] (.fin (enc [.var ne]) st0)) (vr 0 n).reverse (vr n n).reverse (2 * n)
def neF (n : Nat) : Tree := difT (fun o _ => .fin (enc [o]) st0) (vr 0 n).reverse (vr n n).reverse (2 * n)
theorem map_rev_eq {env : List Int} {xs ys : List SI} : (xs.reverse.map (·.val env) = ys.reverse.map (·.val env)) ↔ (xs.map (·.val env) = ys.map (·.val env)) := by
  rw [List.map_reverse, List.map_reverse]
  exact ⟨fun h => by simpa using h, fun h => by rw [h]⟩
theorem rev_ne (hn : n ≠ 0) {i : Nat} : (vr i n).reverse ≠ [] := by
  intro h
  have := congrArg List.length h
  simp [vr] at this
  exact hn this
theorem eqF_ok (hn : n ≠ 0) {env : List Int} (hl : env.length = 2 * n) (hw : Wds env)
    (hk : ∀ (e : List Int) (o : SI), o.val (env ++ e) = b01 (decide (env.take n = env.drop n)) → A.fin (enc [o]) st0 (env ++ e)) : (eqF n).holds A env := by
  obtain ⟨h1, h2⟩ := two_vr hl
  refine difT_ok _ _ _ env (rev_ne hn) (by simp [vr]) hl.symm (rev_bd (by omega)) (rev_bd (by omega)) (by rw [List.map_reverse, h1]; exact wds_rev (hw.take n)) (by rw [List.map_reverse, h2]; exact wds_rev (hw.drop n)) fun e o ne' g1 g2 g3 g4 => ?_
  rw [map_rev_eq, h1, h2] at g4
  intro t ht
  have ht : t = b01 (o.val (env ++ e) == 0) := ht
  have := hk (e ++ [t]) (.var ne') (by
    rw [← List.append_assoc, val_end g1, ht]
    congr 1
    rw [Bool.eq_iff_iff, beq_iff_eq, decide_eq_true_eq]
    exact g4)
  rw [← List.append_assoc] at this
  exact this
theorem neF_ok (hn : n ≠ 0) {env : List Int} (hl : env.length = 2 * n) (hw : Wds env)
    (hk : ∀ (e : List Int) (o : SI), (o.val (env ++ e) = 0 ↔ env.take n = env.drop n) → A.fin (enc [o]) st0 (env ++ e)) : (neF n).holds A env := by
  obtain ⟨h1, h2⟩ := two_vr hl
  refine difT_ok _ _ _ env (rev_ne hn) (by simp [vr]) hl.symm (rev_bd (by omega)) (rev_bd (by omega)) (by rw [List.map_reverse, h1]; exact wds_rev (hw.take n)) (by rw [List.map_reverse, h2]; exact wds_rev (hw.drop n)) fun e o ne' g1 g2 g3 g4 => ?_
  rw [map_rev_eq, h1, h2] at g4
  exact hk e o g4

def lawEqT (n : Nat) (q : List Int) : Tree :=
  chkT q (vr 0 n) (2 * n) (chkT q (vr n n) (2 * n + 1) (.dfn (.eqs n) (vr 0 n ++ vr n n) (.hav 2 (vr 0 n ++ vr n n) 1 (.dfn (.cmp .eql) [.var (2 * n + 3), .var (2 * n + 2)]
    (.br (2 * n + 4) (.dfn (.eqs n) (vr 0 n ++ vr n n) (.hav 3 (vr 0 n ++ vr n n) 1 (.dfn (.cmp .eql) [.var (2 * n + 6), .lit 0] (.dfn (.cmp .eql) [.var (2 * n + 7), .var (2 * n + 5)]
      (.br (2 * n + 8) (.hav 2 (vr 0 n ++ vr 0 n) 1 (.fin (enc [.var (2 * n + 9)]) st0)) (.fin (enc [.lit 0]) st0)))))) (.fin (enc [.lit 0]) st0))))))
theorem beq_dec (l m : List Int) : (l == m) = decide (l = m) := by
  rw [Bool.eq_iff_iff, beq_iff_eq, decide_eq_true_eq]
theorem lawEqT_ok (hA : WAsk A n q) (hE : WEq A n) (hq : WQ n q) {env : List Int} (hl : env.length = 2 * n) (hw : Wds env)
    (hfin : ∀ (e : List Int) (o : SI), o.val (env ++ e) = 1 → A.fin (enc [o]) st0 (env ++ e)) : (lawEqT n q).holds A env := by
  obtain ⟨h1, h2⟩ := two_vr hl
  have la : (env.take n).length = n := by simp; omega
  have lb : (env.drop n).length = n := by simp; omega
  have wa := hw.take n
  have wb := hw.drop n
  generalize env.take n = a at *
  generalize env.drop n = b at *
  refine chkT_ok hA hq vr_length hl.symm (by rw [h1]; exact wa) (fun e => hfin e (.lit 1) rfl) fun ha v => ?_
  have k1 : (vr 0 n).map (·.val (env ++ [v])) = a := by rw [vals_more (vr_bd (by omega)), h1]
  have k2 : (vr n n).map (·.val (env ++ [v])) = b := by rw [vals_more (vr_bd (by omega)), h2]
  refine chkT_ok hA hq vr_length (by simp [hl]) (by rw [k2]; exact wb) (fun e => by rw [List.append_assoc]; exact hfin _ (.lit 1) rfl) fun hb v' => ?_
  have l1 : (env ++ [v]).length = 2 * n + 1 := by simp [hl]
  have k1 : (vr 0 n).map (·.val (env ++ [v] ++ [v'])) = a := by rw [vals_more (vr_bd (by omega)), k1]
  have k2 : (vr n n).map (·.val (env ++ [v] ++ [v'])) = b := by rw [vals_more (vr_bd (by omega)), k2]
  have l2 : (env ++ [v] ++ [v']).length = 2 * n + 2 := by simp [hl]
  have e2 : ∀ e, env ++ [v] ++ [v'] ++ e = env ++ ([v] ++ [v'] ++ e) := by simp
  generalize env ++ [v] ++ [v'] = E at *
  have mk : ∀ e : List Int, (vr 0 n).map (·.val (E ++ e)) = a ∧ (vr n n).map (·.val (E ++ e)) = b := fun e => ⟨by rw [vals_more (vr_bd (by omega)), k1], by rw [vals_more (vr_bd (by omega)), k2]⟩
  intro x hx
  have hx : x = b01 (((vr 0 n ++ vr n n).map (·.val E)).take n == ((vr 0 n ++ vr n n).map (·.val E)).drop n) := hx
  rw [vals_app k1 k2, take_app la, drop_app la, beq_dec] at hx
  refine ⟨by rw [vals_app (mk _).1 (mk _).2]; exact hA.pre _ _ (by decide) (Wds.append wa wb), fun ys _ hp => ?_⟩
  rw [vals_app (mk _).1 (mk _).2] at hp
  have hp := hE.eq _ _ hp
  rw [take_app la, drop_app la, ← hx] at hp
  subst hp
  intro y hy
  have hy : y = b01 ((E ++ [x] ++ [x]).getD (2 * n + 3) 0 == (E ++ [x] ++ [x]).getD (2 * n + 2) 0) := hy
  have g1 : (E ++ [x] ++ [x]).getD (2 * n + 3) 0 = x := at_end (by simp [l2])
  have g2 : (E ++ [x] ++ [x]).getD (2 * n + 2) 0 = x := by rw [at_old (by simp [l2])]; exact at_end l2.symm
  rw [g1, g2, beq_self_eq_true] at hy
  have hy : y = 1 := hy
  subst hy
  have gy : (E ++ [x] ++ [x] ++ [1]).getD (2 * n + 4) 0 = 1 := at_end (by simp [l2])
  refine ⟨fun _ => ?_, fun h => by rw [gy] at h; exact absurd h (by decide)⟩
  intro x' hx'
  have e3 : ∀ e, E ++ [x] ++ [x] ++ [1] ++ e = E ++ ([x] ++ [x] ++ [1] ++ e) := by simp
  have hx' : x' = b01 (((vr 0 n ++ vr n n).map (·.val (E ++ [x] ++ [x] ++ [1]))).take n == ((vr 0 n ++ vr n n).map (·.val (E ++ [x] ++ [x] ++ [1]))).drop n) := hx'
  rw [show E ++ [x] ++ [x] ++ [(1 : Int)] = E ++ ([x] ++ [x] ++ [1]) by simp, vals_app (mk _).1 (mk _).2, take_app la, drop_app la, beq_dec, ← hx] at hx'
  subst hx'
  rw [e3]
  refine ⟨by rw [vals_app (mk _).1 (mk _).2]; exact hA.pre _ _ (by decide) (Wds.append wa wb), fun ys _ hp => ?_⟩
  rw [vals_app (mk _).1 (mk _).2] at hp
  obtain ⟨z, rfl, hz⟩ := hE.ne _ _ hp
  rw [take_app la, drop_app la] at hz
  intro t ht
  have lE2 : (E ++ ([x'] ++ [x'] ++ [1] ++ [x'])).length = 2 * n + 6 := by simp [l2]
  have ht : t = b01 ((E ++ ([x'] ++ [x'] ++ [1] ++ [x']) ++ [z]).getD (2 * n + 6) 0 == 0) := ht
  rw [at_end lE2.symm] at ht
  have htx : t = x' := by
    rw [ht, hx]
    congr 1
    rw [Bool.eq_iff_iff, beq_iff_eq, decide_eq_true_eq]
    exact hz
  intro s hs
  have hs : s = b01 ((E ++ ([x'] ++ [x'] ++ [1] ++ [x']) ++ [z] ++ [t]).getD (2 * n + 7) 0 == (E ++ ([x'] ++ [x'] ++ [1] ++ [x']) ++ [z] ++ [t]).getD (2 * n + 5) 0) := hs
  have g3 : (E ++ ([x'] ++ [x'] ++ [1] ++ [x']) ++ [z] ++ [t]).getD (2 * n + 7) 0 = t := at_end (by simp [l2])
  have g4 : (E ++ ([x'] ++ [x'] ++ [1] ++ [x']) ++ [z] ++ [t]).getD (2 * n + 5) 0 = x' := by
    rw [at_old (by simp [l2]), at_old (by simp [l2]), show E ++ ([x'] ++ [x'] ++ [1] ++ [x']) = E ++ ([x'] ++ [x'] ++ [1]) ++ [x'] by simp]
    exact at_end (by simp [l2])
  rw [g3, g4, htx, beq_self_eq_true] at hs
  have hs : s = 1 := hs
  subst hs
  have gs : (E ++ ([x'] ++ [x'] ++ [1] ++ [x']) ++ [z] ++ [t] ++ [1]).getD (2 * n + 8) 0 = 1 := at_end (by simp [l2])
  have e4 : ∀ e, E ++ ([x'] ++ [x'] ++ [1] ++ [x']) ++ [z] ++ [t] ++ [1] ++ e = E ++ ([x'] ++ [x'] ++ [1] ++ [x'] ++ [z] ++ [t] ++ [1] ++ e) := by simp
  have e5 : E ++ ([x'] ++ [x'] ++ [1] ++ [x']) ++ [z] ++ [t] ++ [(1 : Int)] = E ++ ([x'] ++ [x'] ++ [1] ++ [x'] ++ [z] ++ [t] ++ [1]) := by simp
  refine ⟨fun _ => ?_, fun h => by rw [gs] at h; exact absurd h (by decide)⟩
  rw [e5]
  refine ⟨by rw [vals_app (mk _).1 (mk _).1]; exact hA.pre _ _ (by decide) (Wds.append wa wa), fun ys _ hp => ?_⟩
  rw [vals_app (mk _).1 (mk _).1] at hp
  have hp := hE.eq _ _ hp
  rw [take_app la, drop_app la, decide_eq_true rfl] at hp
  subst hp
  have := hfin ([v] ++ [v'] ++ ([x'] ++ [x'] ++ [1] ++ [x'] ++ [z] ++ [t] ++ [1] ++ [b01 true])) (.var (2 * n + 9)) (by
    rw [← e2, ← List.append_assoc E]
    exact val_end (by simp [l2]))
  rw [← e2, ← List.append_assoc E] at this
  exact this
end
end Eng
end
section
/-
  Rows over arrays of words: how they are opened and shut; a law's contract as a call.
-/
namespace Eng
open Go Go.RowKit
open Go.ChangeShapes Go.WideShapes Go.ChangeAt

def u (x : Nat) : SC := .ii .u64 (.var x)
def us (i n : Nat) : List SC := (List.range n).map fun j => u (i + j)
def sl (r n : Nat) : SV := .ww (.cc (.ss r 0 n n))
def pt (r : Nat) : SV := .ww (.cc (.pp r 0))
def ar (i n : Nat) : SV := .ww (.aa (us i n))
def bo (x : Nat) : SV := .ww (.cc (.bb (.var x)))

theorem wd_of {x : Int} (h : fits .u64 x) : Wd x := by
  have := (fits_iff _ _).1 h
  simp [kMin, kMax] at this
  exact ⟨by omega, by omega⟩
theorem fits_of {x : Int} (h : Wd x) : fits .u64 x := (fits_iff _ _).2 ⟨by simp [kMin]; exact h.1, by have := h.2; simp [kMax]; omega⟩
/-- The numbers 0 to n - 1 of the list stand among the typed ones. -/
def allB (n : Nat) (l : List (IntKind × Nat)) : Bool := (List.range n).all fun i => l.any fun p => Nat.beq p.2 i && (match p.1 with | .u64 => true | _ => false)
theorem Rng.get {env : List Int} : ∀ {l : List (IntKind × Nat)} {p : IntKind × Nat}, Rng env l → p ∈ l → fits p.1 (env.getD p.2 0)
  | [], _, _, h => by cases h
  | (k, x) :: l, p, h, hp => by
    rcases List.mem_cons.1 hp with rfl | hp
    · exact h.1
    · exact Rng.get h.2 hp
theorem wds_of {env : List Int} {n : Nat} {l : List (IntKind × Nat)} (hl : env.length = n) (h : Rng env l) (hb : allB n l = true) : Wds env := by
  intro x hx
  obtain ⟨i, hi, rfl⟩ := List.mem_iff_getElem.1 hx
  have := List.all_eq_true.1 hb i (List.mem_range.2 (by omega))
  obtain ⟨p, hp, hq⟩ := List.any_eq_true.1 this
  simp only [Bool.and_eq_true] at hq
  have he := Nat.eq_of_beq_eq_true hq.1
  have hf := h.get hp
  rw [he] at hf
  have hk : p.1 = .u64 := by
    obtain ⟨k, y⟩ := p
    cases k <;> simp at hq ⊢
  rw [hk, List.getD_eq_getElem?_getD, List.getElem?_eq_getElem hi] at hf
  exact wd_of hf

/-- The end of a walk, as the contract's own words say it. -/
theorem fin_of {A : Ask} {κ : K} {env e : List Int} {os : List SI} (hl : env.length = κ.m) (h : A.post κ.id env (os.map (·.val (env ++ e)))) : (A.to κ).fin (enc os) st0 (env ++ e) := by
  show A.post κ.id ((env ++ e).take κ.m) ((dec (enc os)).map (·.val (env ++ e)))
  rw [dec_enc, List.take_left' hl]
  exact h

/-- Words, as a list of cells. -/
theorem us_is {env : List Int} {β : List (Nat × Nat)} {i n : Nat} (h : i + n ≤ env.length) (hw : Wds env) : All2 (SC.is env β) (us i n) (((env.drop i).take n).map (Value.int .u64)) := by
  have h1 : (us i n).length = n := by simp [us]
  have key := All2.of_get (l := us i n) (R := SC.is env β) (f := fun j => Value.int .u64 (env.getD (i + j) 0)) (fun j x hj => by
    have hlt := (List.getElem?_eq_some_iff.1 hj).1
    rw [h1] at hlt
    simp only [us, List.getElem?_map, List.getElem?_range hlt, Option.map_some] at hj
    injection hj with hj
    subst hj
    refine ⟨env.getD (i + j) 0, ?_, fits_of (hw.get _), rfl⟩
    show env[i + j]? = some _
    rw [List.getD_eq_getElem?_getD, List.getElem?_eq_getElem (by omega)]
    rfl)
  rw [h1] at key
  have e : (List.range n).map (fun j => Value.int .u64 (env.getD (i + j) 0)) = ((env.drop i).take n).map (Value.int .u64) := by
    apply List.ext_getElem?
    intro j
    rcases Nat.lt_or_ge j n with hj | hj
    · rw [List.getElem?_map, List.getElem?_map, List.getElem?_range hj, List.getElem?_take_of_lt hj, List.getElem?_drop, Option.map_some, List.getD_eq_getElem?_getD, List.getElem?_eq_getElem (by omega)]
      rfl
    · rw [List.getElem?_eq_none (by simp; omega), List.getElem?_eq_none (by simp; omega)]
  rw [e] at key
  exact key

/-- A law that is shown, as a call. -/
theorem law_calls {P : Program} {A : Ask} {κ : K} (hk : KOk P A κ) (hmem : κ.mem = []) (hret : κ.ret = bo κ.m) (hpost : ∀ xs ys, A.post κ.id xs ys → ys = [1]) {env : List Int} (hl : env.length = κ.m) {vs : List Value}
    (ha : All2 (SV.is env []) κ.args vs) (hp : A.pre κ.id env) (w : World) : Calls P κ.f vs.toArray w (fun e w' => e = .returned (.bool true) ∧ Below w.heap.size w w') := by
  refine (hk env [] vs w hl ⟨by rw [hmem]; rfl, fun r cs wr h => by rw [hmem] at h; simp at h, fun r s x y cs ds wr ws _ h => by simp at h, Kept.refl _ _⟩ ha hp).mono ?_
  rintro e w' ⟨ys, β', v, hyl, hpo, rfl, hb, hv, hM, _⟩
  have hpo := hpost _ _ hpo
  subst hpo
  rw [hret] at hv
  obtain ⟨t, ht, rfl⟩ := hv
  have ht : (env ++ [(1 : Int)])[κ.m]? = some (b01 t) := ht
  rw [← hl, List.getElem?_append_right (Nat.le_refl _), Nat.sub_self] at ht
  cases t with
  | false => simp [b01] at ht
  | true =>
    refine ⟨rfl, Kept.below ?_⟩
    have hk := hM.kept
    have : TpOf [] κ.mem = fun _ _ => False := by
      funext b o
      simp [TpOf, hmem]
    rw [this] at hk
    exact hk

section
variable {H : Type} {enc : TypeId × Value → H} {P : Program}
theorem post_of_below {f : Func} {s : ChangeSpec} {apart fresh handsOn again : Bool} {W W' : World} {args : Array Value} {v : Value} {ds gs : List (DataW H)} {before pa pv : List MemPlace}
    (hW : DataW.Whole enc P f.params.toList s.vars apart W args.toList ds gs before)
    (hres : ∀ (b : Nat) (sp : Nat → Bool) (hd : Bool), DataW.TrodAll enc P W' b sp hd f.resultTypes.toList (v.resultList f.resultTypes.size) (s.fn H (ds ++ gs)).results [])
    (hargs : ∀ sp : Nat → Bool, (∀ p ∈ before, sp p.block = true) → DataW.TrodAll enc P W' 0 sp true f.params.toList args.toList (s.fn H (ds ++ gs)).args pa)
    (hvars : ∀ sp : Nat → Bool, (∀ p ∈ before, sp p.block = true) → DataW.TrodVars enc P W' sp s.vars (s.fn H (ds ++ gs)).vars pv)
    (hps : before = pa ++ pv) (hb : Below W.heap.size W W')
    (hok : ∀ (j : Nat) (t : TypeId) (r : Value), f.resultTypes[j]? = some t → (v.resultList f.resultTypes.size)[j]? = some r → Value.okWide P W' .any 0 t r) :
    s.post enc P f apart fresh handsOn again W args v W' := by
  have hlt : ∀ p ∈ before, p.block < W.heap.size := fun p hp => hW.lt p hp
  have hold : ∀ p ∈ before, (fun b => decide (b < W.heap.size)) p.block = true := fun p hp => by simpa using hlt p hp
  refine ⟨ds, gs, before, [], pa, pv, hW, hres _ _ _, hargs _ hold, hvars _ hold, World.keptBut_mono (fun p hp => ⟨hp, ?_⟩) (hb.frame (· ∈ before)), fun _ => ?_⟩
  · rw [hps, List.mem_append] at hp
    exact Or.inr hp
  · obtain ⟨_, _, _, _, _, hz, hn⟩ := hW
    refine ⟨hok, _, _, ([] ++ pa) ++ pv, ⟨[] ++ pa, pv, trodAll_append (hargs _ (fun _ _ => rfl)) (hres _ _ _), hvars _ (fun _ _ => rfl), rfl, ?_, ?_⟩, ?_⟩
    · intro b off hp
      have hin : MemPlace.cell b off ∈ before := by rw [hps]; simpa using hp
      rw [hb.frozen (hlt _ hin)]
      exact hz b off hin
    · intro ha
      have := hn ha
      rw [hps] at this
      simpa using this
    · intro p hp _
      rw [hps]
      simpa using hp
end

section
variable {H : Type} {enc : TypeId × Value → H} {P : Program} {w : World} {base : Nat} {spare : Nat → Bool} {held : Bool}
theorem words_of {e : TypeId} (he : P.underlying e = some (.int .u64)) {m : Nat} : ∀ (cs : List Value) (xs : List (DataW H × List MemPlace)), xs.length = cs.length →
    (∀ i, i < cs.length → DataW.trod enc P w base spare held m e ((cs.drop i).take 1) = xs[i]?) →
    ∃ zs : List Int, cs = zs.map (Value.int .u64) ∧ xs = zs.map (fun z => (.lit (.int .u64 z), [])) ∧ ∀ z ∈ zs, (Lit.int .u64 z).wf = true
  | [], [], _, _ => ⟨[], rfl, rfl, fun z hz => by cases hz⟩
  | [], _ :: _, hl, _ => by simp at hl
  | _ :: _, [], hl, _ => by simp at hl
  | c :: cs, x :: xs, hl, h => by
    obtain ⟨z, h1, h2, h3⟩ := DataW.trod_int he (h 0 (by simp))
    obtain ⟨zs, h4, h5, h6⟩ := words_of he cs xs (by simpa using hl) (fun i hi => by simpa using h (i + 1) (by simpa using hi))
    simp at h1 h2
    refine ⟨z :: zs, by simp [h1, h4], by simp [h2, h5], fun y hy => ?_⟩
    rcases List.mem_cons.1 hy with rfl | hy
    · exact h3
    · exact h6 y hy
theorem open_words {n : Nat} {t e : TypeId} (ht : P.underlying t = some (.array n e)) (he : P.underlying e = some (.int .u64)) (hc : P.cellsOf t = n) (hce : P.cellsOf e = 1) {r : Reach} {b0 : Nat} {v : Value} {d : DataW H} {p : List MemPlace}
    (hval : Value.okWide P w r b0 t v) (h : DataW.Trod enc P w base spare held t v d p) :
    ∃ zs : List Int, zs.length = n ∧ v = .agg (zs.map (Value.int .u64)).toArray ∧ d = .agg (zs.map fun z => .lit (.int .u64 z)) ∧ p = [] ∧ ∀ z ∈ zs, (Lit.int .u64 z).wf = true := by
  obtain ⟨cs, rfl, hsz, _⟩ : ∃ cs, v = .agg cs ∧ cs.size = P.cellsOf t ∧ Row.okWide P w r b0 t cs := by
    simpa [Value.okWide, ht] using hval
  obtain ⟨fuel, hf⟩ := h
  obtain ⟨xs, m, _, hx, hl, hxl, hi⟩ := DataW.trod_array ht hf
  have hcl : cs.toList.length = n := by simpa [hc] using hsz
  obtain ⟨zs, h1, h2, h3⟩ := words_of he cs.toList xs (by rw [hxl, hcl]) (fun i hl => by
    have := hi i (by rw [← hcl]; exact hl)
    simpa [hce, Value.cells] using this)
  simp only [Prod.mk.injEq] at hx
  refine ⟨zs, ?_, ?_, ?_, ?_, h3⟩
  · rw [← hcl, h1]; simp
  · rw [← h1]
  · rw [hx.1, h2]; simp
  · rw [hx.2, h2]
    simp
theorem wd_wf {z : Int} (h : (Lit.int .u64 z).wf = true) : Wd z := by
  have := bounds_u64 h
  exact ⟨by omega, by omega⟩
end
end Eng
end
section
/-
  Numbers by words: products of words, Montgomery's reduction, halves, bytes: as trees of facts, for any number of words.
-/
namespace Eng
open Go

/-! ### one product -/
theorem and_mask (a : Nat) (h : a < 18446744073709551616) : binEv .and .u64 (a : Int) 4294967295 = ((a % 4294967296 : Nat) : Int) := by
  show IntKind.u64.wrap (((BitVec.ofInt 64 (a : Int) &&& BitVec.ofInt 64 4294967295).toNat : Nat) : Int) = _
  have e : (BitVec.ofInt 64 (a : Int) &&& BitVec.ofInt 64 4294967295).toNat = a % 4294967296 := by
    rw [BitVec.toNat_and]
    have h1 : (BitVec.ofInt 64 (a : Int)).toNat = a := by
      rw [BitVec.ofInt_natCast, BitVec.toNat_ofNat]; exact Nat.mod_eq_of_lt h
    have h2 : (BitVec.ofInt 64 4294967295).toNat = 4294967295 := by decide
    rw [h1, h2]
    exact Nat.and_two_pow_sub_one_eq_mod a 32
  rw [e]
  exact wrap_nat _ (by omega)
theorem shr_nat (a k : Nat) (hk : k < 64) : binEv .shr .u64 (a : Int) (k : Int) = ((a / 2 ^ k : Nat) : Int) := by
  show Int.fdiv (a : Int) (2 ^ (min (k : Int).toNat 64)) = _
  rw [Int.toNat_natCast, Nat.min_eq_left (by omega), Int.fdiv_eq_ediv_of_nonneg _ (by exact Int.le_of_lt (Int.pow_pos (by decide)))]
  rw [Int.natCast_ediv, Int.natCast_pow]
  rfl
theorem mul_nat (a b : Nat) (h : a * b < 18446744073709551616) : binEv .mul .u64 (a : Int) (b : Int) = ((a * b : Nat) : Int) := by
  show IntKind.u64.wrap ((a : Int) * (b : Int)) = _
  rw [← Int.natCast_mul]
  exact wrap_nat _ h
theorem add_nat (a b : Nat) (h : a + b < 18446744073709551616) : binEv .add .u64 (a : Int) (b : Int) = ((a + b : Nat) : Int) := by
  show IntKind.u64.wrap ((a : Int) + (b : Int)) = _
  rw [← Int.natCast_add]
  exact wrap_nat _ h
theorem mul_wrap (a b : Nat) : binEv .mul .u64 (a : Int) (b : Int) = ((a * b % 18446744073709551616 : Nat) : Int) := by
  show IntKind.u64.wrap ((a : Int) * (b : Int)) = _
  rw [← Int.natCast_mul, IntKind.wrap_u64]
  omega

def mulT : Tree := (.dfn (.bin .and .u64) [(.var 0), (.lit 4294967295)] (.dfn (.bin .shr .u64) [(.var 0), (.lit 32)] (.dfn (.bin .and .u64) [(.var 1), (.lit 4294967295)] (.dfn (.bin .shr .u64) [(.var 1), (.lit 32)] (.dfn (.bin .mul .u64) [(.var 2), (.var 4)] (.dfn (.bin .mul .u64) [(.var 3), (.var 4)] (.dfn (.bin .shr .u64) [(.var 6), (.lit 32)] (.dfn (.bin .add .u64) [(.var 7), (.var 8)] (.dfn (.bin .and .u64) [(.var 9), (.lit 4294967295)] (.dfn (.bin .shr .u64) [(.var 9), (.lit 32)] (.dfn (.bin .mul .u64) [(.var 2), (.var 5)] (.dfn (.bin .add .u64) [(.var 10), (.var 12)] (.dfn (.bin .mul .u64) [(.var 3), (.var 5)] (.dfn (.bin .add .u64) [(.var 14), (.var 11)] (.dfn (.bin .shr .u64) [(.var 13), (.lit 32)] (.dfn (.bin .add .u64) [(.var 15), (.var 16)] (.dfn (.bin .mul .u64) [(.var 0), (.var 1)] (.fin (enc [.var 17, .var 18]) st0))))))))))))))))))
def Mul64 (xs ys : List Int) : Prop := ∃ h l, ys = [h, l] ∧ Wd h ∧ Wd l ∧ BW * h + l = xs.getD 0 0 * xs.getD 1 0
theorem mulT_ok {A : Ask} {env : List Int} (hl : env.length = 2) (hw : Wds env)
    (hk : ∀ (e : List Int) (os : List SI), Mul64 env (os.map (·.val (env ++ e))) → A.fin (enc os) st0 (env ++ e)) : mulT.holds A env := by
  obtain ⟨x, y, rfl⟩ : ∃ x y, env = [x, y] := by
    match env, hl with
    | [x, y], _ => exact ⟨x, y, rfl⟩
  obtain ⟨hx0, hx1⟩ := hw x (by simp)
  obtain ⟨hy0, hy1⟩ := hw y (by simp)
  obtain ⟨a, rfl⟩ := Int.eq_ofNat_of_zero_le hx0
  obtain ⟨b, rfl⟩ := Int.eq_ofNat_of_zero_le hy0
  have ha : a < 18446744073709551616 := by omega
  have hb : b < 18446744073709551616 := by omega
  obtain ⟨c0, c1, c2, c3⟩ := Lib.mul64_hi a b ha hb
  have p0 := Lib.half_mul_le (a := a / 4294967296) (b := b / 4294967296) (by omega) (by omega)
  have p1 := Lib.half_mul_le (a := a / 4294967296) (b := b % 4294967296) (by omega) (by omega)
  have p2 := Lib.half_mul_le (a := a % 4294967296) (b := b / 4294967296) (by omega) (by omega)
  have q1 : a / 4294967296 * (b % 4294967296) < 18446744073709551616 := by omega
  have q2 : a % 4294967296 * (b / 4294967296) < 18446744073709551616 := by omega
  have q3 : a / 4294967296 * (b / 4294967296) < 18446744073709551616 := by omega
  have q4 : a / 4294967296 * (b / 4294967296) + (a / 4294967296 * (b % 4294967296) + a % 4294967296 * (b % 4294967296) / 4294967296) / 4294967296 < 18446744073709551616 := by
    clear c2 c3
    omega
  have hlt : a * b / 18446744073709551616 < 18446744073709551616 := by
    apply Nat.div_lt_of_lt_mul
    have := Nat.mul_le_mul (show a ≤ 18446744073709551615 by omega) (show b ≤ 18446744073709551615 by omega)
    omega
  have q5 := hlt
  rw [← c3] at q5
  clear hw hx0 hy0 p0 p1 p2
  intro v2 h2
  have h2 : v2 = binEv .and .u64 (a : Int) 4294967295 := h2
  rw [and_mask a ha] at h2
  change Tree.holds A _ [(a : Int), (b : Int), v2]
  intro v3 h3
  have h3 : v3 = binEv .shr .u64 (a : Int) ((32 : Nat) : Int) := h3
  rw [shr_nat a 32 (by decide), show (2 : Nat) ^ 32 = 4294967296 from rfl] at h3
  change Tree.holds A _ [(a : Int), (b : Int), v2, v3]
  intro v4 h4
  have h4 : v4 = binEv .and .u64 (b : Int) 4294967295 := h4
  rw [and_mask b hb] at h4
  change Tree.holds A _ [(a : Int), (b : Int), v2, v3, v4]
  intro v5 h5
  have h5 : v5 = binEv .shr .u64 (b : Int) ((32 : Nat) : Int) := h5
  rw [shr_nat b 32 (by decide), show (2 : Nat) ^ 32 = 4294967296 from rfl] at h5
  change Tree.holds A _ [(a : Int), (b : Int), v2, v3, v4, v5]
  intro v6 h6
  have h6 : v6 = binEv .mul .u64 v2 v4 := h6
  rw [h2, h4, mul_nat _ _ c0] at h6
  change Tree.holds A _ [(a : Int), (b : Int), v2, v3, v4, v5, v6]
  intro v7 h7
  have h7 : v7 = binEv .mul .u64 v3 v4 := h7
  rw [h3, h4, mul_nat _ _ q1] at h7
  change Tree.holds A _ [(a : Int), (b : Int), v2, v3, v4, v5, v6, v7]
  intro v8 h8
  have h8 : v8 = binEv .shr .u64 v6 ((32 : Nat) : Int) := h8
  rw [h6, shr_nat _ 32 (by decide), show (2 : Nat) ^ 32 = 4294967296 from rfl] at h8
  change Tree.holds A _ [(a : Int), (b : Int), v2, v3, v4, v5, v6, v7, v8]
  intro v9 h9
  have h9 : v9 = binEv .add .u64 v7 v8 := h9
  rw [h7, h8, add_nat _ _ c1] at h9
  change Tree.holds A _ [(a : Int), (b : Int), v2, v3, v4, v5, v6, v7, v8, v9]
  intro v10 h10
  have h10 : v10 = binEv .and .u64 v9 4294967295 := h10
  rw [h9, and_mask _ c1] at h10
  change Tree.holds A _ [(a : Int), (b : Int), v2, v3, v4, v5, v6, v7, v8, v9, v10]
  intro v11 h11
  have h11 : v11 = binEv .shr .u64 v9 ((32 : Nat) : Int) := h11
  rw [h9, shr_nat _ 32 (by decide), show (2 : Nat) ^ 32 = 4294967296 from rfl] at h11
  change Tree.holds A _ [(a : Int), (b : Int), v2, v3, v4, v5, v6, v7, v8, v9, v10, v11]
  intro v12 h12
  have h12 : v12 = binEv .mul .u64 v2 v5 := h12
  rw [h2, h5, mul_nat _ _ q2] at h12
  change Tree.holds A _ [(a : Int), (b : Int), v2, v3, v4, v5, v6, v7, v8, v9, v10, v11, v12]
  intro v13 h13
  have h13 : v13 = binEv .add .u64 v10 v12 := h13
  rw [h10, h12, add_nat _ _ c2] at h13
  change Tree.holds A _ [(a : Int), (b : Int), v2, v3, v4, v5, v6, v7, v8, v9, v10, v11, v12, v13]
  intro v14 h14
  have h14 : v14 = binEv .mul .u64 v3 v5 := h14
  rw [h3, h5, mul_nat _ _ q3] at h14
  change Tree.holds A _ [(a : Int), (b : Int), v2, v3, v4, v5, v6, v7, v8, v9, v10, v11, v12, v13, v14]
  intro v15 h15
  have h15 : v15 = binEv .add .u64 v14 v11 := h15
  rw [h14, h11, add_nat _ _ q4] at h15
  change Tree.holds A _ [(a : Int), (b : Int), v2, v3, v4, v5, v6, v7, v8, v9, v10, v11, v12, v13, v14, v15]
  intro v16 h16
  have h16 : v16 = binEv .shr .u64 v13 ((32 : Nat) : Int) := h16
  rw [h13, shr_nat _ 32 (by decide), show (2 : Nat) ^ 32 = 4294967296 from rfl] at h16
  change Tree.holds A _ [(a : Int), (b : Int), v2, v3, v4, v5, v6, v7, v8, v9, v10, v11, v12, v13, v14, v15, v16]
  intro v17 h17
  have h17 : v17 = binEv .add .u64 v15 v16 := h17
  rw [h15, h16, add_nat _ _ q5, c3] at h17
  change Tree.holds A _ [(a : Int), (b : Int), v2, v3, v4, v5, v6, v7, v8, v9, v10, v11, v12, v13, v14, v15, v16, v17]
  intro v18 h18
  have h18 : v18 = binEv .mul .u64 (a : Int) (b : Int) := h18
  rw [mul_wrap] at h18
  clear h2 h3 h4 h5 h6 h7 h8 h9 h10 h11 h12 h13 h14 h15 h16 c0 c1 c2 c3 q1 q2 q3 q4 q5
  have w17 : Wd v17 := by rw [h17]; exact ⟨by omega, by omega⟩
  have w18 : Wd v18 := by rw [h18]; exact ⟨by omega, by omega⟩
  have e : BW * v17 + v18 = (a : Int) * (b : Int) := by
    rw [h17, h18, ← Int.natCast_mul]
    simp only [BW]
    omega
  exact hk [v2, v3, v4, v5, v6, v7, v8, v9, v10, v11, v12, v13, v14, v15, v16, v17, v18] [.var 17, .var 18] ⟨v17, v18, rfl, w17, w18, e⟩

/-! ### products and sums -/
def Madd0 (xs ys : List Int) : Prop := ∃ h l, ys = [h] ∧ Wd h ∧ Wd l ∧ BW * h + l = xs.getD 0 0 * xs.getD 1 0 + xs.getD 2 0
def Madd1 (xs ys : List Int) : Prop := ∃ h l, ys = [h, l] ∧ Wd h ∧ Wd l ∧ BW * h + l = xs.getD 0 0 * xs.getD 1 0 + xs.getD 2 0
def Madd2 (xs ys : List Int) : Prop := ∃ h l, ys = [h, l] ∧ Wd h ∧ Wd l ∧ BW * h + l = xs.getD 0 0 * xs.getD 1 0 + xs.getD 2 0 + xs.getD 3 0
def madd0T : Tree := (.hav 20 [(.var 0), (.var 1)] 2 (.dfn .addS [(.var 4), (.var 2), (.lit 0)] (.dfn .addC [(.var 4), (.var 2), (.lit 0)] (.dfn .addS [(.var 3), (.lit 0), (.var 6)] (.dfn .addC [(.var 3), (.lit 0), (.var 6)] (.fin (enc [.var 7]) st0))))))
def madd1T : Tree := (.hav 20 [(.var 0), (.var 1)] 2 (.dfn .addS [(.var 4), (.var 2), (.lit 0)] (.dfn .addC [(.var 4), (.var 2), (.lit 0)] (.dfn .addS [(.var 3), (.lit 0), (.var 6)] (.dfn .addC [(.var 3), (.lit 0), (.var 6)] (.fin (enc [.var 7, .var 5]) st0))))))
def madd2T : Tree := (.hav 20 [(.var 0), (.var 1)] 2 (.dfn .addS [(.var 2), (.var 3), (.lit 0)] (.dfn .addC [(.var 2), (.var 3), (.lit 0)] (.dfn .addS [(.var 4), (.lit 0), (.var 7)] (.dfn .addC [(.var 4), (.lit 0), (.var 7)] (.dfn .addS [(.var 5), (.var 6), (.lit 0)] (.dfn .addC [(.var 5), (.var 6), (.lit 0)] (.dfn .addS [(.var 8), (.lit 0), (.var 11)] (.dfn .addC [(.var 8), (.lit 0), (.var 11)] (.fin (enc [.var 12, .var 10]) st0))))))))))
/-- A product of two words leaves room. -/
theorem mul_room {x y : Int} (hx : Wd x) (hy : Wd y) : 0 ≤ x * y ∧ x * y ≤ BW * BW - 2 * BW + 1 := by
  obtain ⟨h1, h2⟩ := hx
  obtain ⟨h3, h4⟩ := hy
  refine ⟨Int.mul_nonneg h1 h3, ?_⟩
  have := Int.mul_le_mul (show x ≤ BW - 1 by simp only [BW]; omega) (show y ≤ BW - 1 by simp only [BW]; omega) h3 (by simp only [BW]; decide)
  have e : (BW - 1) * (BW - 1) = BW * BW - 2 * BW + 1 := by simp only [BW]; rfl
  omega
theorem wd0 : Wd 0 := ⟨by decide, by decide⟩
theorem madd0T_ok {A : Ask} (h20 : ∀ xs ys, A.post 20 xs ys → Mul64 xs ys) (hp : ∀ xs, Wds xs → A.pre 20 xs) {env : List Int} (hl : env.length = 3) (hw : Wds env)
    (hk : ∀ (e : List Int) (os : List SI), Madd0 env (os.map (·.val (env ++ e))) → A.fin (enc os) st0 (env ++ e)) : madd0T.holds A env := by
  obtain ⟨x, y, c, rfl⟩ : ∃ x y c, env = [x, y, c] := by
    match env, hl with
    | [x, y, c], _ => exact ⟨x, y, c, rfl⟩
  have wx := hw x (by simp)
  have wy := hw y (by simp)
  have wc := hw c (by simp)
  have hm := mul_room wx wy
  refine ⟨hp _ fun z hz => hw z (by simp [SI.val] at hz ⊢; omega), fun ys _ h => ?_⟩
  obtain ⟨hi, lo, rfl, whi, wlo, e⟩ := h20 _ _ h
  have e : BW * hi + lo = x * y := e
  intro s hs k hk2
  obtain ⟨ws, bk, es⟩ := add_step (x := lo) (y := c) (c := 0) wlo wc (.inl rfl) hs hk2
  intro r hr j hj
  obtain ⟨wr, bj, er⟩ := add_step (x := hi) (y := 0) (c := k) whi wd0 bk hr hj
  have := hk [hi, lo, s, k, r, j] [.var 7] ⟨r, s, rfl, wr, ws, by
    show BW * r + s = x * y + c
    generalize x * y = p at *
    simp only [Wd, BW] at *
    rcases bj with h | h <;> rcases bk with h' | h' <;> omega⟩
  exact this
theorem madd1T_ok {A : Ask} (h20 : ∀ xs ys, A.post 20 xs ys → Mul64 xs ys) (hp : ∀ xs, Wds xs → A.pre 20 xs) {env : List Int} (hl : env.length = 3) (hw : Wds env)
    (hk : ∀ (e : List Int) (os : List SI), Madd1 env (os.map (·.val (env ++ e))) → A.fin (enc os) st0 (env ++ e)) : madd1T.holds A env := by
  obtain ⟨x, y, c, rfl⟩ : ∃ x y c, env = [x, y, c] := by
    match env, hl with
    | [x, y, c], _ => exact ⟨x, y, c, rfl⟩
  have wx := hw x (by simp)
  have wy := hw y (by simp)
  have wc := hw c (by simp)
  have hm := mul_room wx wy
  refine ⟨hp _ fun z hz => hw z (by simp [SI.val] at hz ⊢; omega), fun ys _ h => ?_⟩
  obtain ⟨hi, lo, rfl, whi, wlo, e⟩ := h20 _ _ h
  have e : BW * hi + lo = x * y := e
  intro s hs k hk2
  obtain ⟨ws, bk, es⟩ := add_step (x := lo) (y := c) (c := 0) wlo wc (.inl rfl) hs hk2
  intro r hr j hj
  obtain ⟨wr, bj, er⟩ := add_step (x := hi) (y := 0) (c := k) whi wd0 bk hr hj
  have := hk [hi, lo, s, k, r, j] [.var 7, .var 5] ⟨r, s, rfl, wr, ws, by
    show BW * r + s = x * y + c
    generalize x * y = p at *
    simp only [Wd, BW] at *
    rcases bj with h | h <;> rcases bk with h' | h' <;> omega⟩
  exact this
theorem madd2T_ok {A : Ask} (h20 : ∀ xs ys, A.post 20 xs ys → Mul64 xs ys) (hp : ∀ xs, Wds xs → A.pre 20 xs) {env : List Int} (hl : env.length = 4) (hw : Wds env)
    (hk : ∀ (e : List Int) (os : List SI), Madd2 env (os.map (·.val (env ++ e))) → A.fin (enc os) st0 (env ++ e)) : madd2T.holds A env := by
  obtain ⟨x, y, c, d, rfl⟩ : ∃ x y c d, env = [x, y, c, d] := by
    match env, hl with
    | [x, y, c, d], _ => exact ⟨x, y, c, d, rfl⟩
  have wx := hw x (by simp)
  have wy := hw y (by simp)
  have wc := hw c (by simp)
  have wd := hw d (by simp)
  have hm := mul_room wx wy
  refine ⟨hp _ fun z hz => hw z (by simp [SI.val] at hz ⊢; omega), fun ys _ h => ?_⟩
  obtain ⟨hi, lo, rfl, whi, wlo, e⟩ := h20 _ _ h
  have e : BW * hi + lo = x * y := e
  intro s hs k hk2
  obtain ⟨ws, bk, es⟩ := add_step (x := c) (y := d) (c := 0) wc wd (.inl rfl) hs hk2
  intro r hr j hj
  obtain ⟨wr, bj, er⟩ := add_step (x := hi) (y := 0) (c := k) whi wd0 bk hr hj
  intro t ht m hm2
  obtain ⟨wt, bm, et⟩ := add_step (x := lo) (y := s) (c := 0) wlo ws (.inl rfl) ht hm2
  intro g hg i hi2
  obtain ⟨wg, bi, eg⟩ := add_step (x := r) (y := 0) (c := m) wr wd0 bm hg hi2
  have := hk [hi, lo, s, k, r, j, t, m, g, i] [.var 12, .var 10] ⟨g, t, rfl, wg, wt, by
    show BW * g + t = x * y + c + d
    generalize x * y = p at *
    simp only [Wd, BW] at *
    rcases bj with h | h <;> rcases bk with h' | h' <;> rcases bm with h'' | h'' <;> rcases bi with h3 | h3 <;> omega⟩
  exact this

section
variable {A : Ask} {n : Nat} {q : List Int}

/-! ### Montgomery's reduction -/
structure MAsk (A : Ask) : Prop where
  pre : ∀ id xs, 20 ≤ id → id < 23 → Wds xs → A.pre id xs
  m0 : ∀ xs ys, A.post 21 xs ys → Madd0 xs ys
  m2 : ∀ xs ys, A.post 22 xs ys → Madd2 xs ys

def maddCh (k : List SI → SI → Nat → Tree) (m : SI) : List SI → List SI → SI → Nat → List SI → Tree
  | q :: qs, z :: zs, c, ne, outs => .hav 22 [m, q, z, c] 2 (maddCh k m qs zs (.var ne) (ne + 2) (outs ++ [.var (ne + 1)]))
  | _, _, c, ne, outs => k outs c ne
theorem wds_cons {x : Int} {l : List Int} (h : Wd x) (k : Wds l) : Wds (x :: l) := fun y hy => by
  rcases List.mem_cons.1 hy with rfl | hy
  · exact h
  · exact k y hy
theorem wds_nil : Wds [] := fun x hx => by cases hx

structure MchOk (env : List Int) (outs : List SI) (Q Z : List Int) (m c : Int) (n : Nat) (e : List Int) (os : List SI) (c' : SI) (ne' : Nat) : Prop where
  ne : ne' = (env ++ e).length
  cb : Bd ne' c'
  ob : ∀ z ∈ os, Bd ne' z
  cw : Wd (c'.val (env ++ e))
  val : ∃ d : List Int, os.map (·.val (env ++ e)) = outs.map (·.val env) ++ d ∧ Wds d ∧ d.length = n ∧ vw d + BW ^ n * c'.val (env ++ e) = vw Z + m * vw Q + c

theorem maddCh_ok (hA : MAsk A) {k : List SI → SI → Nat → Tree} {m : SI} : ∀ (qs zs : List SI) (c : SI) (ne : Nat) (outs : List SI) (env : List Int), qs.length = zs.length → ne = env.length → Bd ne m → (∀ x ∈ qs, Bd ne x) → (∀ y ∈ zs, Bd ne y) → Bd ne c →
    (∀ z ∈ outs, Bd ne z) → Wd (m.val env) → Wds (qs.map (·.val env)) → Wds (zs.map (·.val env)) → Wd (c.val env) →
    (∀ (e : List Int) (os : List SI) (c' : SI) (ne' : Nat), MchOk env outs (qs.map (·.val env)) (zs.map (·.val env)) (m.val env) (c.val env) qs.length e os c' ne' → (k os c' ne').holds A (env ++ e)) →
    (maddCh k m qs zs c ne outs).holds A env
  | [], [], c, ne, outs, env, _, hne, _, _, _, hc, ho, _, _, _, wc, hk => by
    have := hk [] outs c ne ⟨by simpa using hne, hc, ho, by simpa using wc, [], by simp, wds_nil, rfl, by simp [vw]⟩
    simp only [List.append_nil] at this
    exact this
  | q :: qs, z :: zs, c, ne, outs, env, hl, hne, hm, hx, hy, hc, ho, wm, wx, wy, wc, hk => by
    have bx := hx q (List.mem_cons_self ..)
    have by' := hy z (List.mem_cons_self ..)
    obtain ⟨wx0, wx⟩ := Wds.tail (by simpa using wx)
    obtain ⟨wy0, wy⟩ := Wds.tail (by simpa using wy)
    refine ⟨hA.pre _ _ (by decide) (by decide) (wds_cons wm (wds_cons wx0 (wds_cons wy0 (wds_cons wc wds_nil)))), fun ys _ h => ?_⟩
    obtain ⟨hi, lo, rfl, whi, wlo, e⟩ := hA.m2 _ _ h
    have e : BW * hi + lo = m.val env * q.val env + z.val env + c.val env := e
    have hne2 : ne + 2 = (env ++ [hi, lo]).length := by simp [hne]
    have mm : m.val (env ++ [hi, lo]) = m.val env := val_more (by rw [← hne]; exact hm)
    have mx : qs.map (·.val (env ++ [hi, lo])) = qs.map (·.val env) := vals_more fun z hz => by rw [← hne]; exact hx z (List.mem_cons_of_mem _ hz)
    have my : zs.map (·.val (env ++ [hi, lo])) = zs.map (·.val env) := vals_more fun z hz => by rw [← hne]; exact hy z (List.mem_cons_of_mem _ hz)
    have mo : outs.map (·.val (env ++ [hi, lo])) = outs.map (·.val env) := vals_more fun z hz => by rw [← hne]; exact ho z hz
    have e2 : env ++ [hi, lo] = env ++ [hi] ++ [lo] := by simp
    have vh : (SI.var ne).val (env ++ [hi, lo]) = hi := by rw [e2, val_more (x := .var ne) (by show ne < _; simp [hne])]; exact val_end hne
    have vl : (SI.var (ne + 1)).val (env ++ [hi, lo]) = lo := by rw [e2]; exact val_end (by simp [hne])
    refine maddCh_ok hA qs zs (.var ne) (ne + 2) (outs ++ [.var (ne + 1)]) (env ++ [hi, lo]) (by simpa using hl) hne2 (hm.more (by omega)) (fun z hz => (hx z (List.mem_cons_of_mem _ hz)).more (by omega)) (fun z hz => (hy z (List.mem_cons_of_mem _ hz)).more (by omega))
      (show ne < ne + 2 by omega) ?_ (by rw [mm]; exact wm) (by rw [mx]; exact wx) (by rw [my]; exact wy) (by rw [vh]; exact whi) ?_
    · intro z hz
      rcases List.mem_append.1 hz with h | h
      · exact (ho z h).more (by omega)
      · simp at h; subst h; show ne + 1 < ne + 2; omega
    · intro e' os c' ne' hq
      rw [mm, mx, my, vh] at hq
      have := hk ([hi, lo] ++ e') os c' ne' ?_
      · rw [← List.append_assoc] at this; exact this
      · obtain ⟨q1, q2, q3, q4, dd, q5, q6, q7, q8⟩ := hq
        have ee : env ++ ([hi, lo] ++ e') = env ++ [hi, lo] ++ e' := by rw [List.append_assoc]
        refine ⟨by rw [ee]; exact q1, q2, q3, by rw [ee]; exact q4, lo :: dd, ?_, wds_cons wlo q6, by simp [q7], ?_⟩
        · rw [ee, q5, List.map_append, mo, List.map_cons, List.map_nil, vl, List.append_assoc]
          rfl
        · rw [ee]
          simp only [vw, List.map_cons, List.length_cons, Int.pow_succ]
          rw [Int.mul_comm (BW ^ qs.length) BW, Int.mul_assoc, Int.mul_add (m.val env), Int.mul_left_comm (m.val env)]
          generalize BW ^ qs.length * c'.val (env ++ [hi, lo] ++ e') = T at *
          generalize m.val env * vw (qs.map (·.val env)) = U at *
          generalize m.val env * q.val env = V at *
          simp only [BW] at *
          omega
  | [], _ :: _, _, _, _, _, h, _, _, _, _, _, _, _, _, _, _, _ => by simp at h
  | _ :: _, [], _, _, _, _, h, _, _, _, _, _, _, _, _, _, _, _ => by simp at h
end
end Eng
end
section
/-
  Numbers by words: Montgomery's reduction of one number, halves, bytes: as trees of facts, for any number of words.
-/
namespace Eng
open Go

section
variable {A : Ask} {n : Nat} {q : List Int}

/-- Less the prime where it isn't below it. -/
def Red (q zs r : List Int) : Prop := r.length = zs.length ∧ Wds r ∧ vw r = if vw zs < vw q then vw zs else vw zs - vw q
theorem redT_ok (hA : WAsk A n q) (hq : WQ n q) {zs : List SI} {ne : Nat} {env : List Int} {k : List SI → Nat → Tree} (lz : zs.length = n) (hne : ne = env.length) (hz : ∀ x ∈ zs, Bd ne x)
    (wz : Wds (zs.map (·.val env)))
    (hk : ∀ (e : List Int) (os : List SI) (ne' : Nat), ROk (Red q (zs.map (·.val env))) env e os ne' n → (k os ne').holds A (env ++ e)) : (redT q zs ne k).holds A env := by
  refine ⟨hA.pre _ _ (by decide) wz, fun t _ ht => ?_⟩
  have ht := hA.small _ _ ht
  subst ht
  have vt : ∀ v : Int, (env ++ [v]).getD ne 0 = v := fun v => at_end hne
  have ho3 : ∀ v : List Int, zs.map (·.val (env ++ v)) = zs.map (·.val env) := fun v => vals_more fun z h => by rw [← hne]; exact hz z h
  have bz := vw_bounds wz
  have bq := vw_bounds hq.wd
  refine ⟨fun hb => ?_, fun hb => ?_⟩
  · rw [vt, b01_one, decide_eq_true_eq] at hb
    refine hk _ zs (ne + 1) ⟨by simp [hne], fun z h => (hz z h).more (by omega), lz, by rw [ho3]; exact wz, ?_⟩
    rw [ho3]
    exact ⟨rfl, wz, by rw [if_pos hb]⟩
  · rw [vt, b01_zero, decide_eq_false_iff_not] at hb
    refine subCh_ok zs (ls q) (.lit 0) (ne + 1) [] _ (by simp [ls, lz, hq.len]) (by simp [hne]) (fun z h => (hz z h).more (by omega)) ls_bd trivial (fun z h => by cases h) (by rw [ho3]; exact wz) (by rw [ls_vals]; exact hq.wd) (.inl rfl)
      fun e2 os2 c2 ne2 g => ?_
    obtain ⟨g1, g2, g3, g4, d2, g5, g6, g7, g8⟩ := g
    simp only [List.map_nil, List.nil_append] at g5
    rw [← g5] at g6 g7 g8
    rw [ho3, ls_vals] at g8
    simp only [val_lit, Int.add_zero] at g8
    have lo2 : os2.length = n := by simpa [lz] using g7
    have bo2 := vw_bounds g6
    rw [List.length_map, lo2] at bo2
    rw [lz] at g8
    rw [List.append_assoc] at g1 g4 g6 g8 bo2 ⊢
    refine hk _ os2 ne2 ⟨g1, g3, lo2, g6, ?_⟩
    refine ⟨by simp [lo2, lz], g6, ?_⟩
    rw [if_neg hb]
    rcases g4 with g | g <;> rw [g] at g8
    · rw [Int.mul_zero] at g8; omega
    · rw [Int.mul_one] at g8
      generalize BW ^ n = W at *
      omega

/-- One round: the number and a multiple of the prime, less one word. -/
def fmR (q : List Int) (qi : Int) (zs : List SI) (ne : Nat) (k : List SI → Nat → Tree) : Tree :=
  .dfn (.bin .mul .u64) [zs.headD (.lit 0), .lit qi] (.hav 21 [.var ne, .lit (q.headD 0), zs.headD (.lit 0)] 1 (maddCh (fun os c ne' => k (os ++ [c]) ne') (.var ne) (ls q.tail) zs.tail (.var (ne + 1)) (ne + 2) []))
/-- What is known of the prime's lowest word. -/
def QInv (q : List Int) (qi : Int) : Prop := Wd qi ∧ (q.headD 0 * qi + 1) % BW = 0
def Shr (q zs r : List Int) : Prop := r.length = zs.length ∧ Wds r ∧ ∃ m, Wd m ∧ BW * vw r = vw zs + m * vw q

theorem low_zero {q0 qi z m : Int} (h : (q0 * qi + 1) % BW = 0) (hm : m = IntKind.u64.wrap (z * qi)) : (m * q0 + z) % BW = 0 := by
  have h1 : m = z * qi - BW * ((z * qi) / BW) := by
    rw [hm, IntKind.wrap_u64]
    simp only [BW]
    omega
  have h2 : m * q0 + z = z * (q0 * qi + 1) - BW * ((z * qi) / BW * q0) := by
    rw [h1, Int.sub_mul, Int.mul_add, Int.mul_one, Int.mul_assoc, Int.mul_assoc, Int.mul_comm qi q0]
    omega
  obtain ⟨t, ht⟩ := Int.dvd_of_emod_eq_zero h
  rw [h2, ht]
  apply Int.emod_eq_zero_of_dvd
  rw [Int.mul_left_comm, ← Int.mul_sub]
  exact Int.dvd_mul_right _ _

theorem fmR_ok (hA : MAsk A) (hq : WQ n q) {qi : Int} (hqi : QInv q qi) (hn : n ≠ 0) {zs : List SI} {ne : Nat} {env : List Int} {k : List SI → Nat → Tree} (lz : zs.length = n) (hne : ne = env.length) (hz : ∀ x ∈ zs, Bd ne x)
    (wz : Wds (zs.map (·.val env)))
    (hk : ∀ (e : List Int) (os : List SI) (ne' : Nat), ROk (Shr q (zs.map (·.val env))) env e os ne' n → (k os ne').holds A (env ++ e)) : (fmR q qi zs ne k).holds A env := by
  have lq := hq.len
  have wq := hq.wd
  obtain ⟨wqi, hinv⟩ := hqi
  match q, zs, lq, lz with
  | [], _, lq, _ => exact absurd lq.symm hn
  | _ :: _, [], _, lz => exact absurd lz.symm hn
  | q0 :: qs, z :: zt, lq, lz =>
    have hinv : (q0 * qi + 1) % BW = 0 := hinv
    obtain ⟨wq0, wqs⟩ := Wds.tail wq
    obtain ⟨wz0, wzt⟩ := Wds.tail (by simpa using wz)
    have bz := hz z (List.mem_cons_self ..)
    rw [hne] at bz
    intro m hm
    have hm : m = IntKind.u64.wrap (z.val env * qi) := hm
    have wm : Wd m := by rw [hm]; exact wd_wrap _
    have vm : (SI.var ne).val (env ++ [m]) = m := val_end hne
    have vz : z.val (env ++ [m]) = z.val env := val_more bz
    refine ⟨hA.pre _ _ (by decide) (by decide) ?_, fun ys _ h => ?_⟩
    · show Wds [(SI.var ne).val (env ++ [m]), q0, z.val (env ++ [m])]
      rw [vm, vz]
      exact wds_cons wm (wds_cons wq0 (wds_cons wz0 wds_nil))
    obtain ⟨hi, lo, rfl, whi, wlo, e⟩ := hA.m0 _ _ h
    have e : BW * hi + lo = (SI.var ne).val (env ++ [m]) * q0 + z.val (env ++ [m]) := e
    rw [vm, vz] at e
    have hlo : lo = 0 := by
      have h0 := low_zero hinv hm
      rw [← e] at h0
      simp only [Wd, BW] at *
      omega
    rw [hlo, Int.add_zero] at e
    have ne2 : ne + 2 = (env ++ [m] ++ [hi]).length := by simp [hne]
    have e2 : env ++ [m] ++ [hi] = env ++ [m, hi] := by simp
    have mz : zt.map (·.val (env ++ [m] ++ [hi])) = zt.map (·.val env) := by rw [e2]; exact vals_more fun x hx => by rw [← hne]; exact hz x (List.mem_cons_of_mem _ hx)
    have vm2 : (SI.var ne).val (env ++ [m] ++ [hi]) = m := by rw [val_more (x := .var ne) (by show ne < _; simp [hne]), vm]
    have vh : (SI.var (ne + 1)).val (env ++ [m] ++ [hi]) = hi := val_end (by simp [hne])
    refine maddCh_ok hA (ls qs) zt (.var (ne + 1)) (ne + 2) [] _ (by simp [ls] at lq lz ⊢; omega) ne2 (show ne < ne + 2 by omega) ls_bd (fun x hx => (hz x (List.mem_cons_of_mem _ hx)).more (by omega)) (show ne + 1 < ne + 2 by omega) (fun z hz => by cases hz)
      (by rw [vm2]; exact wm) (by rw [ls_vals]; exact wqs) (by rw [mz]; exact wzt) (by rw [vh]; exact whi) fun e' os c' ne' g => ?_
    rw [ls_vals, mz, vm2, vh] at g
    obtain ⟨g1, g2, g3, g4, d, g5, g6, g7, g8⟩ := g
    simp only [List.map_nil, List.nil_append] at g5
    have e3 : env ++ [m] ++ [hi] ++ e' = env ++ ([m] ++ [hi] ++ e') := by simp
    have ll : (ls qs).length + 1 = n := by simp [ls] at lq ⊢; omega
    have lod : os.length = d.length := map_len g5
    have hv : (os ++ [c']).map (·.val (env ++ [m] ++ [hi] ++ e')) = d ++ [c'.val (env ++ [m] ++ [hi] ++ e')] := by rw [List.map_append, g5]; rfl
    rw [e3] at g1 g4 g8 hv ⊢
    refine hk _ (os ++ [c']) ne' ⟨g1, fun x hx => ?_, by simp [lod, g7, ll], ?_, ?_⟩
    · rcases List.mem_append.1 hx with h | h
      · exact g3 x h
      · simp at h; subst h; exact g2
    · rw [hv]; exact Wds.append g6 (wds_cons g4 wds_nil)
    · rw [hv]
      refine ⟨by rw [List.length_append, List.length_map, lz, g7]; exact ll, Wds.append g6 (wds_cons g4 wds_nil), m, wm, ?_⟩
      rw [vw_snoc, g7, g8]
      simp only [List.map_cons, vw]
      rw [Int.mul_add, Int.mul_add, Int.mul_add, e, Int.mul_left_comm]
      simp only [BW]
      omega

/-! ### many rounds -/
def fmN (q : List Int) (qi : Int) (k : List SI → Nat → Tree) : Nat → List SI → Nat → Tree
  | 0, zs, ne => k zs ne
  | r + 1, zs, ne => fmR q qi zs ne fun os ne' => fmN q qi k r os ne'
def ShrN (q : List Int) (r : Nat) (zs w : List Int) : Prop := w.length = zs.length ∧ Wds w ∧ ∃ M, 0 ≤ M ∧ M < BW ^ r ∧ BW ^ r * vw w = vw zs + M * vw q
theorem ROk.mono {R R' : List Int → Prop} {env e : List Int} {os : List SI} {ne' n : Nat} (h : ROk R env e os ne' n) (hr : ∀ l, R l → R' l) : ROk R' env e os ne' n := ⟨h.ne, h.ob, h.len, h.wd, hr _ h.val⟩
theorem bw_pos (n : Nat) : 0 < BW ^ n := Int.pow_pos (by decide)
theorem shr_step {q zs w v : List Int} {r : Nat} (h : Shr q zs w) (k : ShrN q r w v) : ShrN q (r + 1) zs v := by
  obtain ⟨h1, h2, m, hm, he⟩ := h
  obtain ⟨k1, k2, M, hM0, hM1, ke⟩ := k
  refine ⟨by omega, k2, BW * M + m, ?_, ?_, ?_⟩
  · have := Int.mul_nonneg (show (0 : Int) ≤ BW by decide) hM0
    have := hm.1
    omega
  · rw [Int.pow_succ, Int.mul_comm _ BW]
    have := mul_pos_le (P := BW) (by decide) hM1
    have := hm.2
    simp only [BW] at *
    omega
  · rw [Int.pow_succ, Int.mul_comm _ BW, Int.mul_assoc, ke, Int.mul_add, he, Int.add_mul, Int.mul_assoc]
    omega
theorem fmN_ok (hA : MAsk A) (hq : WQ n q) {qi : Int} (hqi : QInv q qi) (hn : n ≠ 0) {k : List SI → Nat → Tree} : ∀ (r : Nat) (zs : List SI) (ne : Nat) (env : List Int), zs.length = n → ne = env.length → (∀ x ∈ zs, Bd ne x) → Wds (zs.map (·.val env)) →
    (∀ (e : List Int) (os : List SI) (ne' : Nat), ROk (ShrN q r (zs.map (·.val env))) env e os ne' n → (k os ne').holds A (env ++ e)) → (fmN q qi k r zs ne).holds A env
  | 0, zs, ne, env, lz, hne, hz, wz, hk => by
    have := hk [] zs ne ⟨by simpa using hne, hz, lz, by simpa using wz, by
      refine ⟨by simp, by simpa using wz, 0, by decide, by decide, by simp⟩⟩
    simp only [List.append_nil] at this
    exact this
  | r + 1, zs, ne, env, lz, hne, hz, wz, hk => by
    refine fmR_ok hA hq hqi hn lz hne hz wz fun e os ne' h => ?_
    refine fmN_ok hA hq hqi hn r os ne' (env ++ e) h.len h.ne h.ob h.wd fun e2 os2 ne2 g => ?_
    have := hk (e ++ e2) os2 ne2 ⟨by rw [g.ne]; simp, g.ob, g.len, by rw [← List.append_assoc]; exact g.wd, by
      rw [← List.append_assoc]
      exact shr_step h.val g.val⟩
    rw [← List.append_assoc] at this
    exact this

/-- Out of Montgomery's form. -/
def Mont (n : Nat) (q zs r : List Int) : Prop := r.length = n ∧ Wds r ∧ vw r < vw q ∧ vw q ∣ vw r * BW ^ n - vw zs
theorem mont_of {zs w r : List Int} (hq0 : 0 < vw q) (lz : zs.length = n) (wz : Wds zs) (h : ShrN q n zs w) (k : Red q w r) : Mont n q zs r := by
  obtain ⟨h1, h2, M, hM0, hM1, he⟩ := h
  obtain ⟨k1, k2, ke⟩ := k
  have bz := vw_bounds wz
  rw [lz] at bz
  have hW := bw_pos n
  -- the sum is at most the prime
  have hle : vw w ≤ vw q := by
    have hMq : M * vw q ≤ (BW ^ n - 1) * vw q := Int.mul_le_mul_of_nonneg_right (by omega) (by omega)
    have : BW ^ n * vw w < BW ^ n * (vw q + 1) := by
      rw [he, Int.mul_add, Int.mul_one]
      rw [Int.sub_mul, Int.one_mul] at hMq
      omega
    have := Int.lt_of_mul_lt_mul_left this (by omega)
    omega
  refine ⟨by omega, k2, ?_, ?_⟩
  · rw [ke]; split <;> omega
  · have hd : vw q ∣ BW ^ n * vw w - vw zs := ⟨M, by rw [he, Int.mul_comm (vw q)]; omega⟩
    rw [ke]
    split
    · rw [Int.mul_comm]; exact hd
    · rw [Int.sub_mul, Int.mul_comm (vw w)]
      have : BW ^ n * vw w - vw q * BW ^ n - vw zs = (BW ^ n * vw w - vw zs) - vw q * BW ^ n := by omega
      rw [this]
      exact Int.dvd_sub hd (Int.dvd_mul_right _ _)
def fromT (n : Nat) (q : List Int) (qi : Int) : Tree := fmN q qi (fun os ne => redT q os ne fun rs _ => .fin (enc rs) st0) n (vr 0 n) n
theorem fromT_ok (hW : WAsk A n q) (hA : MAsk A) (hq : WQ n q) (hq0 : 0 < vw q) {qi : Int} (hqi : QInv q qi) (hn : n ≠ 0) {env : List Int} (hl : env.length = n) (hw : Wds env)
    (hk : ∀ (e : List Int) (os : List SI), Mont n q env (os.map (·.val (env ++ e))) → A.fin (enc os) st0 (env ++ e)) : (fromT n q qi).holds A env := by
  have h1 := one_vr hl
  refine fmN_ok hA hq hqi hn n (vr 0 n) n env vr_length hl.symm (vr_bd (by omega)) (by rw [h1]; exact hw) fun e os ne' h => ?_
  refine redT_ok hW hq h.len h.ne h.ob h.wd fun e2 rs ne2 g => ?_
  have hv := h.val
  rw [h1] at hv
  have gv := g.val
  rw [List.append_assoc] at gv ⊢
  exact hk _ rs (mont_of hq0 hl hw hv gv)

/-! ### halves -/
def halfCh : List SI → Nat → List SI → Tree
  | [a], ne, outs => .dfn (.bin .shr .u64) [a, .lit 1] (.fin (enc (outs ++ [.var ne])) st0)
  | a :: b :: r, ne, outs => .dfn (.bin .shr .u64) [a, .lit 1] (.dfn (.bin .shl .u64) [b, .lit 63] (.dfn (.bin .add .u64) [.var ne, .var (ne + 1)] (halfCh (b :: r) (ne + 3) (outs ++ [.var (ne + 2)]))))
  | [], _, _ => .bad 52
theorem shr1 {a : Int} (h : Wd a) : binEv .shr .u64 a 1 = a / 2 := by
  obtain ⟨a, rfl⟩ := Int.eq_ofNat_of_zero_le h.1
  have := shr_nat a 1 (by decide)
  simpa using this
theorem shl63 {b : Int} : binEv .shl .u64 b 63 = 9223372036854775808 * (b % 2) := by
  show IntKind.u64.wrap (b * 2 ^ (min (63 : Int).toNat 64)) = _
  rw [show (2 : Int) ^ (min (63 : Int).toNat 64) = 9223372036854775808 from rfl, IntKind.wrap_u64]
  omega
theorem halfCh_ok : ∀ (zs : List SI) (ne : Nat) (outs : List SI) (env : List Int), zs ≠ [] → ne = env.length → (∀ x ∈ zs, Bd ne x) → (∀ x ∈ outs, Bd ne x) → Wds (zs.map (·.val env)) →
    (∀ (e : List Int) (os : List SI) (d : List Int), os.map (·.val (env ++ e)) = outs.map (·.val env) ++ d → d.length = zs.length → Wds d → vw d = vw (zs.map (·.val env)) / 2 → A.fin (enc os) st0 (env ++ e)) → (halfCh zs ne outs).holds A env
  | [], _, _, _, h, _, _, _, _, _ => absurd rfl h
  | [a], ne, outs, env, _, hne, hz, ho, wz, hk => by
    obtain ⟨wa, _⟩ := Wds.tail (by simpa using wz)
    intro v hv
    have hv : v = binEv .shr .u64 (a.val env) 1 := hv
    rw [shr1 wa] at hv
    refine hk [v] _ [v] ?_ rfl (wds_cons (by rw [hv]; simp only [Wd] at *; omega) wds_nil) ?_
    · rw [List.map_append, vals_more fun x hx => by rw [← hne]; exact ho x hx, List.map_cons, List.map_nil, val_end hne]
    · simp [vw, hv]
  | a :: b :: r, ne, outs, env, _, hne, hz, ho, wz, hk => by
    obtain ⟨wa, wz'⟩ := Wds.tail (by simpa using wz)
    obtain ⟨wb, _⟩ := Wds.tail wz'
    have ba := hz a (List.mem_cons_self ..)
    have bb := hz b (List.mem_cons_of_mem _ (List.mem_cons_self ..))
    rw [hne] at ba bb
    intro v hv
    have hv : v = binEv .shr .u64 (a.val env) 1 := hv
    rw [shr1 wa] at hv
    intro s hs
    have hs : s = binEv .shl .u64 (b.val (env ++ [v])) 63 := hs
    rw [val_more bb, shl63] at hs
    intro t ht
    have ht : t = IntKind.u64.wrap ((SI.var ne).val (env ++ [v] ++ [s]) + (SI.var (ne + 1)).val (env ++ [v] ++ [s])) := ht
    rw [val_more (x := .var ne) (by show ne < _; simp [hne]), val_end hne, val_end (by simp [hne]), IntKind.wrap_u64] at ht
    have e3 : env ++ [v] ++ [s] ++ [t] = env ++ [v, s, t] := by simp
    have mz : (b :: r).map (·.val (env ++ [v] ++ [s] ++ [t])) = (b :: r).map (·.val env) := by rw [e3]; exact vals_more fun x hx => by rw [← hne]; exact hz x (List.mem_cons_of_mem _ hx)
    have mo : outs.map (·.val (env ++ [v] ++ [s] ++ [t])) = outs.map (·.val env) := by rw [e3]; exact vals_more fun x hx => by rw [← hne]; exact ho x hx
    have vt : (SI.var (ne + 2)).val (env ++ [v] ++ [s] ++ [t]) = t := val_end (by simp [hne])
    have hT : t = a.val env / 2 + 9223372036854775808 * (b.val env % 2) := by
      rw [ht, hv, hs]
      simp only [Wd] at *
      omega
    refine halfCh_ok (b :: r) (ne + 3) (outs ++ [.var (ne + 2)]) (env ++ [v] ++ [s] ++ [t]) (by simp) (by simp [hne]) (fun x hx => (hz x (List.mem_cons_of_mem _ hx)).more (by omega)) ?_ (by rw [mz]; exact wz') fun e os d h1 h2 h3 h4 => ?_
    · intro x hx
      rcases List.mem_append.1 hx with h | h
      · exact (ho x h).more (by omega)
      · simp at h; subst h; show ne + 2 < ne + 3; omega
    · rw [mz] at h4
      have := hk ([v, s, t] ++ e) os (t :: d) ?_ (by simp [h2]) (wds_cons (by rw [hT]; simp only [Wd] at *; omega) h3) ?_
      · rw [← List.append_assoc, ← e3] at this; exact this
      · rw [← List.append_assoc, ← e3, h1, List.map_append, mo, List.map_cons, List.map_nil, vt, List.append_assoc]; rfl
      · simp only [vw, List.map_cons] at h4 ⊢
        rw [h4, hT]
        simp only [Wd] at *
        generalize vw (r.map (·.val env)) = T at *
        omega
def Half (zs r : List Int) : Prop := r.length = zs.length ∧ Wds r ∧ vw r = vw zs / 2
theorem halfT_ok (hn : n ≠ 0) {env : List Int} (hl : env.length = n) (hw : Wds env)
    (hk : ∀ (e : List Int) (os : List SI), Half env (os.map (·.val (env ++ e))) → A.fin (enc os) st0 (env ++ e)) : (halfCh (vr 0 n) n []).holds A env := by
  have h1 := one_vr hl
  refine halfCh_ok (vr 0 n) n [] env ?_ hl.symm (vr_bd (by omega)) (fun x hx => by cases hx) (by rw [h1]; exact hw) fun e os d g1 g2 g3 g4 => hk e os ?_
  · intro h
    have := congrArg List.length h
    simp [vr] at this
    exact hn this
  · rw [h1] at g4
    rw [g1]
    exact ⟨by simp [g2, vr_length, hl], by simpa using g3, by simpa using g4⟩
end
end Eng
end
section
/-
  Numbers by words: bytes, the regular form, the law on bytes: as trees of facts, for any number of words.
-/
namespace Eng
open Go

section
variable {A : Ask} {n : Nat} {q : List Int}

/-! ### bytes -/
def by8 (z : Int) (s : Nat) : Int := IntKind.u8.wrap (binEv .shr .u64 z (s : Int))
def bytesCh (k : List SI → Nat → Tree) : List (SI × Nat) → Nat → List SI → Tree
  | p :: r, ne, outs => .dfn (.bin .shr .u64) [p.1, .lit (p.2 : Int)] (.dfn (.conv .u8) [.var ne] (bytesCh k r (ne + 2) (outs ++ [.var (ne + 1)])))
  | [], ne, outs => k outs ne
theorem bytesCh_ok {k : List SI → Nat → Tree} : ∀ (ps : List (SI × Nat)) (ne : Nat) (outs : List SI) (env : List Int), ne = env.length → (∀ p ∈ ps, Bd ne p.1) → (∀ x ∈ outs, Bd ne x) →
    (∀ (e : List Int) (os : List SI) (ne' : Nat), ne' = (env ++ e).length → os.map (·.val (env ++ e)) = outs.map (·.val env) ++ ps.map (fun p => by8 (p.1.val env) p.2) → (k os ne').holds A (env ++ e)) → (bytesCh k ps ne outs).holds A env
  | [], ne, outs, env, hne, _, _, hk => by
    have := hk [] outs ne (by simpa using hne) (by simp)
    simp only [List.append_nil] at this
    exact this
  | (z, s) :: r, ne, outs, env, hne, hp, ho, hk => by
    have bz := hp (z, s) (List.mem_cons_self ..)
    rw [hne] at bz
    intro v hv
    have hv : v = binEv .shr .u64 (z.val env) (s : Int) := hv
    intro b hb
    have hb : b = IntKind.u8.wrap ((SI.var ne).val (env ++ [v])) := hb
    rw [val_end hne, hv] at hb
    have hb : b = by8 (z.val env) s := hb
    have e2 : env ++ [v] ++ [b] = env ++ [v, b] := by simp
    have mp : r.map (fun p => by8 (p.1.val (env ++ [v] ++ [b])) p.2) = r.map (fun p => by8 (p.1.val env) p.2) := List.map_congr_left fun p h => by
      rw [e2, val_more (by rw [← hne]; exact hp p (List.mem_cons_of_mem _ h))]
    have mo : outs.map (·.val (env ++ [v] ++ [b])) = outs.map (·.val env) := by rw [e2]; exact vals_more fun x hx => by rw [← hne]; exact ho x hx
    have vb : (SI.var (ne + 1)).val (env ++ [v] ++ [b]) = b := val_end (by simp [hne])
    refine bytesCh_ok r (ne + 2) (outs ++ [.var (ne + 1)]) (env ++ [v] ++ [b]) (by simp [hne]) (fun p h => (hp p (List.mem_cons_of_mem _ h)).more (by omega)) ?_ fun e os ne' h1 h2 => ?_
    · intro x hx
      rcases List.mem_append.1 hx with h | h
      · exact (ho x h).more (by omega)
      · simp at h; subst h; show ne + 1 < ne + 2; omega
    · rw [mp, List.map_append, mo, List.map_cons, List.map_nil, vb] at h2
      have := hk ([v, b] ++ e) os ne' (by rw [h1, ← List.append_assoc, e2]) (by rw [← List.append_assoc, ← e2, h2, hb, List.append_assoc]; rfl)
      rw [← List.append_assoc, ← e2] at this
      exact this

/-- The bytes of a number, the highest first. -/
def beB (z : List Int) : List Int := (List.range (8 * z.length)).map fun p => by8 (z.getD ((8 * z.length - 1 - p) / 8) 0) (8 * ((8 * z.length - 1 - p) % 8))
theorem range_rev {α : Type} (m : Nat) (f : Nat → α) : ((List.range m).map f).reverse = (List.range m).map fun p => f (m - 1 - p) := by
  apply List.ext_getElem?
  intro i
  rcases Nat.lt_or_ge i m with h | h
  · rw [List.getElem?_reverse (by simpa using h)]
    simp [h, show m - 1 - i < m by omega]
  · rw [List.getElem?_eq_none (by simpa using h), List.getElem?_eq_none (by simpa using h)]
def ofWT (n : Nat) : Tree := bytesCh (fun os _ => .fin (enc os.reverse) st0) ((List.range (8 * n)).map fun j => (.var (j / 8), 8 * (j % 8))) n []
theorem ofWT_ok {env : List Int} (hl : env.length = n) (hk : ∀ (e : List Int) (os : List SI), os.map (·.val (env ++ e)) = beB env → A.fin (enc os) st0 (env ++ e)) : (ofWT n).holds A env := by
  refine bytesCh_ok _ n [] env hl.symm ?_ (fun x hx => by cases hx) fun e os ne' _ h => hk e os.reverse ?_
  · intro p hp
    obtain ⟨j, hj, rfl⟩ := List.mem_map.1 hp
    have := List.mem_range.1 hj
    show j / 8 < n
    omega
  · rw [List.map_reverse, h, List.map_nil, List.nil_append, List.map_map, range_rev, beB, hl]
    rfl

def ord (n : Nat) (os : List SI) : List SI := (List.range (8 * n)).map fun p => os.getD (8 * (n - 1 - p / 8) + p % 8) (.lit 0)
def bytesT (n : Nat) : Tree := .hav 23 (vr 0 n) n (bytesCh (fun os _ => .fin (enc (ord n os)) st0) ((List.range (8 * n)).map fun j => (.var (n + j / 8), 56 - 8 * (j % 8))) (2 * n) [])
structure BAsk (A : Ask) (n : Nat) (q : List Int) : Prop where
  pre : ∀ id xs, 20 ≤ id → Wds xs → A.pre id xs
  mont : ∀ xs ys, A.post 23 xs ys → Mont n q xs ys
  half : ∀ xs ys, A.post 24 xs ys → Half xs ys
  bytes : ∀ xs ys, A.post 25 xs ys → ∃ z, Mont n q xs z ∧ ys = beB z
  ofW : ∀ xs ys, A.post 26 xs ys → ys = beB xs
  sameB : ∀ xs ys, A.post 27 xs ys → ys = [b01 (decide (xs.take (8 * n) = xs.drop (8 * n)))]
theorem bytesT_ok (hB : BAsk A n q) {env : List Int} (hl : env.length = n) (hw : Wds env)
    (hk : ∀ (e : List Int) (os : List SI), (∃ z, Mont n q env z ∧ os.map (·.val (env ++ e)) = beB z) → A.fin (enc os) st0 (env ++ e)) : (bytesT n).holds A env := by
  have h1 := one_vr hl
  refine ⟨by rw [h1]; exact hB.pre _ _ (by decide) hw, fun z _ hz => ?_⟩
  rw [h1] at hz
  have hz := hB.mont _ _ hz
  have lz := hz.1
  refine bytesCh_ok _ (2 * n) [] (env ++ z) (by simp; omega) ?_ (fun x hx => by cases hx) fun e os ne' _ h => ?_
  · intro p hp
    obtain ⟨j, hj, rfl⟩ := List.mem_map.1 hp
    have := List.mem_range.1 hj
    show n + j / 8 < 2 * n
    omega
  · have := hk (z ++ e) (ord n os) ⟨z, hz, ?_⟩
    · rw [← List.append_assoc] at this; exact this
    · rw [List.map_nil, List.nil_append, List.map_map] at h
      have lo : os.length = 8 * n := by
        have := congrArg List.length h
        simpa using this
      rw [beB, lz, ord, List.map_map]
      apply List.map_congr_left
      intro p hp
      have hp := List.mem_range.1 hp
      have hi : 8 * (n - 1 - p / 8) + p % 8 < 8 * n := by omega
      have hg : (os.map (·.val (env ++ z ++ e)))[8 * (n - 1 - p / 8) + p % 8]? = some (by8 (z.getD (n - 1 - p / 8) 0) (56 - 8 * (p % 8))) := by
        rw [h, List.getElem?_map, List.getElem?_range hi, Option.map_some]
        simp only [Function.comp, SI.val]
        rw [show (8 * (n - 1 - p / 8) + p % 8) / 8 = n - 1 - p / 8 by omega, show (8 * (n - 1 - p / 8) + p % 8) % 8 = p % 8 by omega]
        congr 2
        rw [List.getD_eq_getElem?_getD, List.getElem?_append_right (by omega), List.getD_eq_getElem?_getD]
        congr 1
        congr 1
        omega
      rw [List.getElem?_map, List.getElem?_eq_getElem (by omega), Option.map_some] at hg
      injection hg with hg
      show (os.getD (8 * (n - 1 - p / 8) + p % 8) (.lit 0)).val (env ++ (z ++ e)) = _
      rw [List.getD_eq_getElem?_getD, List.getElem?_eq_getElem (by omega), ← List.append_assoc]
      show (os[8 * (n - 1 - p / 8) + p % 8]).val (env ++ z ++ e) = _
      rw [hg, show (8 * n - 1 - p) / 8 = n - 1 - p / 8 by omega, show 8 * ((8 * n - 1 - p) % 8) = 56 - 8 * (p % 8) by omega]

/-! ### the regular form -/
/-- What i halvings have come to. -/
def RegI (m a : List Int) (i : Nat) (c : List Int) : Prop := c.length = a.length ∧ Wds c ∧ (vw m % 2 = 1 → vw a < vw m → vw c < vw m ∧ vw m ∣ vw c * 2 ^ i - vw a)
theorem reg_zero {m a : List Int} (wa : Wds a) : RegI m a 0 a := ⟨rfl, wa, fun _ h => ⟨h, by simp⟩⟩
theorem reg_even {m a c h : List Int} {i : Nat} (hc : RegI m a i c) (he : vw c % 2 = 0) (hh : Half c h) : RegI m a (i + 1) h := by
  obtain ⟨h1, h2, h3⟩ := hc
  obtain ⟨g1, g2, g3⟩ := hh
  have b := vw_bounds h2
  refine ⟨by omega, g2, fun hm ha => ?_⟩
  obtain ⟨k1, k2⟩ := h3 hm ha
  refine ⟨by omega, ?_⟩
  have : vw h * 2 ^ (i + 1) = vw c * 2 ^ i := by
    rw [Int.pow_succ, Int.mul_comm (2 ^ i) 2, ← Int.mul_assoc]
    congr 1
    omega
  rw [this]
  exact k2
theorem reg_odd {m a c r : List Int} {i : Nat} (hc : RegI m a i c) (ho : vw c % 2 = 1) (lr : r.length = a.length) (wr : Wds r) (h : vw r = (vw c + vw m) / 2) : RegI m a (i + 1) r := by
  obtain ⟨h1, h2, h3⟩ := hc
  refine ⟨lr, wr, fun hm ha => ?_⟩
  obtain ⟨k1, k2⟩ := h3 hm ha
  have e : vw r * 2 = vw c + vw m := by omega
  refine ⟨by omega, ?_⟩
  have : vw r * 2 ^ (i + 1) - vw a = (vw c * 2 ^ i - vw a) + vw m * 2 ^ i := by
    rw [Int.pow_succ, Int.mul_comm (2 ^ i) 2, ← Int.mul_assoc, e, Int.add_mul]
    omega
  rw [this]
  exact Int.dvd_add k2 (Int.dvd_mul_right _ _)
end
end Eng
end
section
/-
  Numbers by words: one halving of the regular form, the law on bytes: as trees of facts, for any number of words.
-/
namespace Eng
open Go

section
variable {A : Ask} {n : Nat} {q : List Int}

theorem odd_low {c : List Int} (hc : c ≠ []) : vw c % 2 = c.headD 0 % 2 := by
  match c, hc with
  | x :: l, _ =>
    simp only [vw, List.headD_cons]
    omega
/-- The top word is below half where the number is. -/
theorem top_half {h : List Int} {t : Int} (hw : Wds (h ++ [t])) (hb : 2 * vw (h ++ [t]) < BW ^ (h.length + 1)) : t < 9223372036854775808 := by
  rw [vw_snoc, Int.pow_succ] at hb
  have h0 := (vw_bounds (fun x hx => hw x (List.mem_append_left _ hx) : Wds h)).1
  have hp := bw_pos h.length
  generalize BW ^ h.length = P at *
  have : P * (2 * t) < P * BW := by
    rw [Int.mul_left_comm]
    omega
  have := Int.lt_of_mul_lt_mul_left this (by omega)
  simp only [BW] at this
  omega

def regT (n : Nat) (cur : List SI) (ne : Nat) : Tree :=
  .dfn (.bin .rem .u64) [cur.headD (.lit 0), .lit 2] (.dfn (.cmp .eql) [.var ne, .lit 1] (.br (ne + 1)
    (.hav 4 (cur ++ vr n n) (n + 1) (.hav 24 (vr (ne + 2) n) n (.br (ne + 2 + n)
      (.dfn (.bin .add .u64) [.var (ne + 3 + n + (n - 1)), .lit 9223372036854775808] (.fin (enc (vr (ne + 3 + n) (n - 1) ++ [.var (ne + 3 + n + n)])) st0))
      (.fin (enc (vr (ne + 3 + n) n)) st0))))
    (.hav 24 cur n (.fin (enc (vr (ne + 2) n)) st0))))

theorem regT_ok (hA : WAsk A n q) (hB : BAsk A n q) (hn : n ≠ 0) {cur : List SI} {ne : Nat} {env : List Int} {c m : List Int} (lc : cur.length = n) (hne : ne = env.length) (hcb : ∀ x ∈ cur, Bd ne x) (hc : cur.map (·.val env) = c) (hm : (vr n n).map (·.val env) = m)
    (wc : Wds c) (wm : Wds m) (l2 : 2 * n ≤ ne)
    (hk : ∀ (e : List Int) (os : List SI), (os.map (·.val (env ++ e))).length = n → Wds (os.map (·.val (env ++ e))) → (vw c % 2 = 0 → Half c (os.map (·.val (env ++ e)))) → (vw c % 2 = 1 → vw (os.map (·.val (env ++ e))) = (vw c + vw m) / 2) → A.fin (enc os) st0 (env ++ e)) :
    (regT n cur ne).holds A env := by
  have lcl : c.length = n := by rw [← hc]; simpa using lc
  have lm : m.length = n := by rw [← hm]; simp [vr]
  have cne : c ≠ [] := fun h => by rw [h] at lcl; simp at lcl; exact hn lcl.symm
  have hd : (cur.headD (.lit 0)).val env = c.headD 0 := by
    rw [← hc]
    cases cur <;> rfl
  intro v hv
  have hv : v = Int.tmod ((cur.headD (.lit 0)).val env) 2 := hv
  rw [hd] at hv
  have wh : Wd (c.headD 0) := by
    cases c with
    | nil => exact absurd rfl cne
    | cons x l => exact wc x (List.mem_cons_self ..)
  have hv : v = vw c % 2 := by rw [hv, odd_low cne, Int.tmod_eq_emod_of_nonneg wh.1]
  intro t ht
  have ht : t = b01 ((env ++ [v]).getD ne 0 == 1) := ht
  rw [at_end hne] at ht
  have vt : (env ++ [v] ++ [t]).getD (ne + 1) 0 = t := at_end (by simp [hne])
  have e2 : env ++ [v] ++ [t] = env ++ [v, t] := by simp
  have kc : cur.map (·.val (env ++ [v] ++ [t])) = c := by rw [e2, vals_more (fun x hx => by rw [← hne]; exact hcb x hx), hc]
  have km : (vr n n).map (·.val (env ++ [v] ++ [t])) = m := by rw [e2, vals_more (vr_bd (by omega)), hm]
  have lE : (env ++ [v] ++ [t]).length = ne + 2 := by simp [hne]
  have app : ∀ e, env ++ [v] ++ [t] ++ e = env ++ ([v, t] ++ e) := by simp
  generalize env ++ [v] ++ [t] = E at *
  refine ⟨fun h1 => ?_, fun h0 => ?_⟩
  · rw [vt, ht, b01_one, beq_iff_eq, hv] at h1
    refine ⟨by rw [vals_app kc km]; exact hA.pre _ _ (by decide) (Wds.append wc wm), fun ys _ hp => ?_⟩
    rw [vals_app kc km] at hp
    have hp := hA.plus _ _ hp
    rw [take_app lcl, drop_app lcl] at hp
    obtain ⟨o, k, rfl, lo, bk, wo, eo⟩ := hp
    have ko : (vr (ne + 2) n).map (·.val (E ++ (o ++ [k]))) = o := by rw [← List.append_assoc, vals_more (vr_bd (by simp; omega)), vals_new lE.symm (by omega)]
    refine ⟨by rw [ko]; exact hB.pre _ _ (by decide) wo, fun hs _ hp => ?_⟩
    rw [ko] at hp
    obtain ⟨lh, wh', eh⟩ := hB.half _ _ hp
    have lh : hs.length = n := by omega
    have kk : (E ++ (o ++ [k]) ++ hs).getD (ne + 2 + n) 0 = k := by
      rw [at_old (by simp; omega), ← List.append_assoc]
      exact at_end (by simp; omega)
    have kh : (vr (ne + 3 + n) n).map (·.val (E ++ (o ++ [k]) ++ hs)) = hs := vals_new (by simp; omega) lh.symm
    have lE2 : (E ++ (o ++ [k]) ++ hs).length = ne + 3 + n + n := by simp; omega
    have app2 : ∀ e, E ++ (o ++ [k]) ++ hs ++ e = env ++ ([v, t] ++ (o ++ [k]) ++ hs ++ e) := by intro e; simp only [List.append_assoc]; rw [app]
    have bo := vw_bounds wo
    rw [lo, lcl] at bo
    rw [lcl] at eo
    refine ⟨fun h2 => ?_, fun h2 => ?_⟩
    · rw [kk] at h2
      intro s hs2
      -- the top word
      have split : hs = hs.take (n - 1) ++ [hs.getD (n - 1) 0] := by
        have := List.take_append_drop (n - 1) hs
        rw [List.drop_eq_getElem_cons (by omega), List.drop_of_length_le (by omega)] at this
        rw [List.getD_eq_getElem?_getD, List.getElem?_eq_getElem (by omega)]
        exact this.symm
      have hs2 : s = IntKind.u64.wrap ((E ++ (o ++ [k]) ++ hs).getD (ne + 3 + n + (n - 1)) 0 + 9223372036854775808) := hs2
      have kt : (E ++ (o ++ [k]) ++ hs).getD (ne + 3 + n + (n - 1)) 0 = hs.getD (n - 1) 0 := by
        rw [List.getD_eq_getElem?_getD, List.getElem?_append_right (by simp; omega), List.getD_eq_getElem?_getD]
        congr 2
        simp; omega
      rw [kt] at hs2
      have ltk : (hs.take (n - 1)).length = n - 1 := by simp; omega
      have hsum : 2 * vw hs ≤ vw o := by rw [eh]; omega
      have htop : hs.getD (n - 1) 0 < 9223372036854775808 := by
        refine top_half (h := hs.take (n - 1)) (by rw [← split]; exact wh') ?_
        rw [← split, ltk, show n - 1 + 1 = n by omega]
        omega
      have wt := wh'.get (n - 1)
      have hs3 : s = hs.getD (n - 1) 0 + 9223372036854775808 := by
        rw [hs2, IntKind.wrap_u64]
        simp only [Wd] at wt
        omega
      have kt2 : (vr (ne + 3 + n) (n - 1)).map (·.val (E ++ (o ++ [k]) ++ hs ++ [s])) = hs.take (n - 1) := by
        rw [vals_more (vr_bd (by omega)), vr_vals (by omega), List.drop_left' (by simp; omega)]
      have ks : (SI.var (ne + 3 + n + n)).val (E ++ (o ++ [k]) ++ hs ++ [s]) = s := val_end lE2.symm
      have hall : (vr (ne + 3 + n) (n - 1) ++ [SI.var (ne + 3 + n + n)]).map (·.val (E ++ (o ++ [k]) ++ hs ++ [s])) = hs.take (n - 1) ++ [s] := by
        rw [List.map_append, kt2, List.map_cons, List.map_nil, ks]
      have hvs : vw (hs.take (n - 1) ++ [s]) = vw hs + BW ^ (n - 1) * 9223372036854775808 := by
        have e1 : vw hs = vw (hs.take (n - 1) ++ [hs.getD (n - 1) 0]) := by rw [← split]
        rw [e1, vw_snoc, vw_snoc, ltk, hs3, Int.mul_add]
        omega
      have hpw : BW ^ n = BW ^ (n - 1) * BW := by
        rw [← Int.pow_succ]
        congr 1
        omega
      show A.fin _ _ _
      rw [app2] at hall ⊢
      refine hk _ _ (by rw [hall]; simp; omega) ?_ (fun he => absurd he (by omega)) fun _ => ?_
      · rw [hall]
        refine Wds.append (wh'.take _) (wds_cons ⟨?_, ?_⟩ wds_nil)
        · rw [hs3]; have := wt.1; omega
        · rw [hs3]; omega
      · rw [hall, hvs, ← eo, h2, eh, hpw]
        generalize BW ^ (n - 1) = P at *
        simp only [BW]
        omega
    · rw [kk] at h2
      show A.fin _ _ _
      have e0 : E ++ (o ++ [k]) ++ hs = env ++ ([v, t] ++ (o ++ [k]) ++ hs) := by
        have := app2 []
        simpa using this
      rw [e0] at kh ⊢
      refine hk _ _ (by rw [kh]; exact lh) (by rw [kh]; exact wh') (fun he => absurd he (by omega)) fun _ => ?_
      rw [kh, ← eo, h2, Int.mul_zero, Int.add_zero]
      exact eh
  · rw [vt, ht, b01_zero, beq_eq_false_iff_ne, hv] at h0
    refine ⟨by rw [kc]; exact hB.pre _ _ (by decide) wc, fun hs _ hp => ?_⟩
    rw [kc] at hp
    have hh := hB.half _ _ hp
    have lh : hs.length = n := by rw [hh.1]; exact lcl
    have kh : (vr (ne + 2) n).map (·.val (E ++ hs)) = hs := vals_new lE.symm lh.symm
    show A.fin _ _ _
    rw [app] at kh ⊢
    exact hk _ _ (by rw [kh]; exact lh) (by rw [kh]; exact hh.2.1) (fun _ => by rw [kh]; exact hh) fun h1 => absurd h1 (by omega)

/-! ### the law on bytes -/
theorem odd_dvd {q x : Int} (hq : q % 2 = 1) (h : q ∣ x * 2) : q ∣ x := by
  obtain ⟨t, ht⟩ := h
  have : t % 2 = 0 := by
    have h1 : (q * t) % 2 = 0 := by omega
    rw [Int.mul_emod, hq] at h1
    omega
  exact ⟨t / 2, by
    have : q * t = q * (2 * (t / 2)) := by congr 1; omega
    rw [this, Int.mul_left_comm] at ht
    omega⟩
theorem odd_dvd_pow {q : Int} (hq : q % 2 = 1) : ∀ (k : Nat) {x : Int}, q ∣ x * 2 ^ k → q ∣ x
  | 0, x, h => by simpa using h
  | k + 1, x, h => by
    rw [Int.pow_succ, ← Int.mul_assoc] at h
    exact odd_dvd_pow hq k (odd_dvd hq h)
theorem bw_two (n : Nat) : BW ^ n = 2 ^ (64 * n) := by rw [Int.pow_mul]; rfl
/-- Two numbers below the prime that answer to one number. -/
theorem mont_one {z r a : List Int} (hq1 : vw q % 2 = 1) (hz : vw q ∣ vw z * BW ^ n - vw a) (hr : vw q ∣ vw r * BW ^ n - vw a) (wz : Wds z) (wr : Wds r) (lz : z.length = r.length) (h1 : vw z < vw q) (h2 : vw r < vw q) : z = r := by
  have h := Int.dvd_sub hz hr
  have e : vw z * BW ^ n - vw a - (vw r * BW ^ n - vw a) = (vw z - vw r) * BW ^ n := by rw [Int.sub_mul]; omega
  rw [e, bw_two] at h
  have hd := odd_dvd_pow hq1 _ h
  have b1 := vw_bounds wz
  have b2 := vw_bounds wr
  have : vw z - vw r = 0 := by
    obtain ⟨t, ht⟩ := hd
    rcases Int.lt_trichotomy t 0 with h | h | h
    · have : vw q * t ≤ vw q * (-1) := Int.mul_le_mul_of_nonneg_left (by omega) (by omega)
      omega
    · rw [ht, h]; simp
    · have : vw q * 1 ≤ vw q * t := Int.mul_le_mul_of_nonneg_left (by omega) (by omega)
      omega
  exact vw_inj lz wz wr (by omega)

def lawBytesT (n : Nat) (q : List Int) : Tree :=
  chkT q (vr 0 n) n (.hav 25 (vr 0 n) (8 * n) (.hav 28 (vr 0 n ++ ls q) n (.hav 26 (vr (n + 1 + 8 * n) n) (8 * n) (.hav 27 (vr (n + 1) (8 * n) ++ vr (2 * n + 1 + 8 * n) (8 * n)) 1 (.fin (enc [.var (2 * n + 1 + 16 * n)]) st0)))))
theorem by8_wd (z : Int) (s : Nat) : Wd (by8 z s) := by
  have := (fits_iff _ _).1 (fits_wrap .u8 (binEv .shr .u64 z (s : Int)))
  simp [kMin, kMax] at this
  exact ⟨this.1, by have := this.2; unfold by8; omega⟩
theorem beB_wds (z : List Int) : Wds (beB z) := by
  intro x hx
  obtain ⟨p, _, rfl⟩ := List.mem_map.1 hx
  exact by8_wd _ _
theorem beB_len (z : List Int) : (beB z).length = 8 * z.length := by simp [beB]
theorem lawBytesT_ok (hA : WAsk A n q) (hB : BAsk A n q) (hR : ∀ xs ys, A.post 28 xs ys → RegI (xs.drop n) (xs.take n) (64 * n) ys) (hq : WQ n q) (hq1 : vw q % 2 = 1) {env : List Int} (hl : env.length = n) (hw : Wds env)
    (hfin : ∀ (e : List Int) (o : SI), o.val (env ++ e) = 1 → A.fin (enc [o]) st0 (env ++ e)) : (lawBytesT n q).holds A env := by
  have h1 := one_vr hl
  refine chkT_ok hA hq vr_length hl.symm (by rw [h1]; exact hw) (fun e => hfin e (.lit 1) rfl) fun ha v => ?_
  rw [h1] at ha
  have k1 : (vr 0 n).map (·.val (env ++ [v])) = env := by rw [vals_more (vr_bd (by omega)), h1]
  have l2 : (env ++ [v]).length = n + 1 := by simp [hl]
  have e2 : ∀ e, env ++ [v] ++ e = env ++ ([v] ++ e) := by simp
  generalize hE : env ++ [v] = E at *
  refine ⟨by rw [k1]; exact hB.pre _ _ (by decide) hw, fun bs _ hp => ?_⟩
  rw [k1] at hp
  obtain ⟨z, hz, rfl⟩ := hB.bytes _ _ hp
  have lz := hz.1
  have lbz : (beB z).length = 8 * n := by rw [beB_len, lz]
  have k2 : (vr 0 n).map (·.val (E ++ beB z)) = env := by rw [vals_more (vr_bd (by omega)), k1]
  have k3 := vals_app k2 (ls_vals (q := q) (env := E ++ beB z))
  have l3 : (E ++ beB z).length = n + 1 + 8 * n := by simp; omega
  have kb : (vr (n + 1) (8 * n)).map (·.val (E ++ beB z)) = beB z := vals_new l2.symm lbz.symm
  refine ⟨by rw [k3]; exact hB.pre _ _ (by decide) (Wds.append hw hq.wd), fun r _ hp => ?_⟩
  rw [k3] at hp
  have hr := hR _ _ hp
  rw [take_app hl, drop_app hl] at hr
  obtain ⟨lr, wr, hr⟩ := hr
  obtain ⟨r1, r2⟩ := hr hq1 ha
  rw [← bw_two] at r2
  have hzr := mont_one hq1 hz.2.2.2 r2 hz.2.1 wr (by omega) hz.2.2.1 r1
  subst hzr
  have kz : (vr (n + 1 + 8 * n) n).map (·.val (E ++ beB z ++ z)) = z := vals_new l3.symm lz.symm
  have l4 : (E ++ beB z ++ z).length = 2 * n + 1 + 8 * n := by simp; omega
  refine ⟨by rw [kz]; exact hB.pre _ _ (by decide) wr, fun cs _ hp => ?_⟩
  rw [kz] at hp
  have hc := hB.ofW _ _ hp
  subst hc
  have kb2 : (vr (n + 1) (8 * n)).map (·.val (E ++ beB z ++ z ++ beB z)) = beB z := by rw [vals_more (vr_bd (by omega)), vals_more (vr_bd (by omega)), kb]
  have kb3 : (vr (2 * n + 1 + 8 * n) (8 * n)).map (·.val (E ++ beB z ++ z ++ beB z)) = beB z := vals_new l4.symm lbz.symm
  refine ⟨by rw [vals_app kb2 kb3]; exact hB.pre _ _ (by decide) (Wds.append (beB_wds z) (beB_wds z)), fun ts _ hp => ?_⟩
  rw [vals_app kb2 kb3] at hp
  have ht := hB.sameB _ _ hp
  rw [take_app lbz, drop_app lbz, decide_eq_true rfl] at ht
  subst ht
  have := hfin ([v] ++ (beB z ++ z ++ beB z ++ [b01 true])) (.var (2 * n + 1 + 16 * n)) (by
    rw [← e2, show E ++ (beB z ++ z ++ beB z ++ [b01 true]) = E ++ beB z ++ z ++ beB z ++ [b01 true] by simp]
    exact val_end (by simp; omega))
  rw [← e2, show E ++ (beB z ++ z ++ beB z ++ [b01 true]) = E ++ beB z ++ z ++ beB z ++ [b01 true] by simp] at this
  exact this
end
end Eng
end
section
/-
  Numbers by words: Montgomery's product, as a tree of facts, for any number of words.
-/
namespace Eng
open Go

section
variable {A : Ask} {n : Nat} {q : List Int}

structure PAsk (A : Ask) : Prop where
  pre : ∀ xs, Wds xs → A.pre 20 xs
  mul : ∀ xs ys, A.post 20 xs ys → Mul64 xs ys

/-- Products of one word with many. -/
def muCh (k : List SI → List SI → Nat → Tree) (v : SI) : List SI → Nat → List SI → List SI → Tree
  | y :: ys, ne, us, ls => .hav 20 [v, y] 2 (muCh k v ys (ne + 2) (us ++ [.var ne]) (ls ++ [.var (ne + 1)]))
  | [], ne, us, ls => k us ls ne
/-- Products of one word with many, and many added. -/
def maCh (fl : Bool) (k : List SI → List SI → SI → Nat → Tree) (v : SI) : List SI → List SI → SI → Nat → List SI → List SI → Tree
  | y :: ys, x :: xs, c, ne, outs, us => .hav 20 [v, y] 2 (.dfn .addS (bif fl then [.var (ne + 1), x, c] else [x, .var (ne + 1), c]) (.dfn .addC (bif fl then [.var (ne + 1), x, c] else [x, .var (ne + 1), c])
      (maCh fl k v ys xs (.var (ne + 3)) (ne + 4) (outs ++ [.var (ne + 2)]) (us ++ [.var ne]))))
  | _, _, c, ne, outs, us => k outs us c ne

theorem two_end {env : List Int} {a b : Int} {ne : Nat} (h : ne = env.length) : (SI.var ne).val (env ++ [a, b]) = a ∧ (SI.var (ne + 1)).val (env ++ [a, b]) = b := by
  have e : env ++ [a, b] = env ++ [a] ++ [b] := by simp
  rw [e]
  exact ⟨by rw [val_more (x := .var ne) (by show ne < _; simp [h])]; exact val_end h, val_end (by simp [h])⟩
theorem bd_snoc {m i : Nat} {os : List SI} (h : ∀ z ∈ os, Bd m z) {m' : Nat} (hm : m ≤ m') (hi : i < m') : ∀ z ∈ os ++ [SI.var i], Bd m' z := by
  intro z hz
  rcases List.mem_append.1 hz with hz | hz
  · exact (h z hz).more hm
  · simp at hz; subst hz; exact hi

structure MuOk (env : List Int) (us ls : List SI) (v : Int) (Y : List Int) (n : Nat) (e : List Int) (us' ls' : List SI) (ne' : Nat) : Prop where
  ne : ne' = (env ++ e).length
  ub : ∀ z ∈ us', Bd ne' z
  lb : ∀ z ∈ ls', Bd ne' z
  val : ∃ U L : List Int, us'.map (·.val (env ++ e)) = us.map (·.val env) ++ U ∧ ls'.map (·.val (env ++ e)) = ls.map (·.val env) ++ L ∧ Wds U ∧ Wds L ∧ U.length = n ∧ L.length = n ∧ BW * vw U + vw L = v * vw Y
theorem muCh_ok (hA : PAsk A) {k : List SI → List SI → Nat → Tree} {v : SI} : ∀ (ys : List SI) (ne : Nat) (us ls : List SI) (env : List Int), ne = env.length → Bd ne v → (∀ y ∈ ys, Bd ne y) → (∀ z ∈ us, Bd ne z) → (∀ z ∈ ls, Bd ne z) →
    Wd (v.val env) → Wds (ys.map (·.val env)) →
    (∀ (e : List Int) (us' ls' : List SI) (ne' : Nat), MuOk env us ls (v.val env) (ys.map (·.val env)) ys.length e us' ls' ne' → (k us' ls' ne').holds A (env ++ e)) → (muCh k v ys ne us ls).holds A env
  | [], ne, us, ls, env, hne, _, _, hu, hl, _, _, hk => by
    have := hk [] us ls ne ⟨by simpa using hne, hu, hl, [], [], by simp, by simp, wds_nil, wds_nil, rfl, rfl, by simp [vw]⟩
    simp only [List.append_nil] at this
    exact this
  | y :: ys, ne, us, ls, env, hne, hv, hy, hu, hl, wv, wy, hk => by
    obtain ⟨wy0, wy⟩ := Wds.tail (by simpa using wy)
    refine ⟨hA.pre _ (wds_cons wv (wds_cons wy0 wds_nil)), fun zs _ h => ?_⟩
    obtain ⟨u, l, rfl, wu, wl, e⟩ := hA.mul _ _ h
    have e : BW * u + l = v.val env * y.val env := e
    obtain ⟨vu, vl⟩ := two_end (a := u) (b := l) hne
    have mv : v.val (env ++ [u, l]) = v.val env := val_more (by rw [← hne]; exact hv)
    have my : ys.map (·.val (env ++ [u, l])) = ys.map (·.val env) := vals_more fun z hz => by rw [← hne]; exact hy z (List.mem_cons_of_mem _ hz)
    have mu : us.map (·.val (env ++ [u, l])) = us.map (·.val env) := vals_more fun z hz => by rw [← hne]; exact hu z hz
    have ml : ls.map (·.val (env ++ [u, l])) = ls.map (·.val env) := vals_more fun z hz => by rw [← hne]; exact hl z hz
    refine muCh_ok hA ys (ne + 2) _ _ (env ++ [u, l]) (by simp [hne]) (hv.more (by omega)) (fun z hz => (hy z (List.mem_cons_of_mem _ hz)).more (by omega)) (bd_snoc hu (by omega) (by omega)) (bd_snoc hl (by omega) (by omega))
      (by rw [mv]; exact wv) (by rw [my]; exact wy) fun e' us' ls' ne' g => ?_
    obtain ⟨g1, g2, g3, U, L, g4, g5, g6, g7, g8, g9, g10⟩ := g
    have ee : env ++ ([u, l] ++ e') = env ++ [u, l] ++ e' := by rw [List.append_assoc]
    have := hk ([u, l] ++ e') us' ls' ne' ⟨by rw [ee]; exact g1, g2, g3, u :: U, l :: L, ?_, ?_, wds_cons wu g6, wds_cons wl g7, by simp [g8], by simp [g9], ?_⟩
    · rw [ee] at this; exact this
    · rw [ee, g4, List.map_append, mu, List.map_cons, List.map_nil, vu, List.append_assoc]; rfl
    · rw [ee, g5, List.map_append, ml, List.map_cons, List.map_nil, vl, List.append_assoc]; rfl
    · rw [mv, my] at g10
      simp only [vw, List.map_cons]
      rw [Int.mul_add, Int.mul_add, ← e, Int.mul_left_comm (v.val env), ← g10]
      simp only [BW]
      omega

structure MaOk (env : List Int) (outs us : List SI) (v c : Int) (Y X : List Int) (n : Nat) (e : List Int) (os us' : List SI) (c' : SI) (ne' : Nat) : Prop where
  ne : ne' = (env ++ e).length
  ob : ∀ z ∈ os, Bd ne' z
  ub : ∀ z ∈ us', Bd ne' z
  cb : Bd ne' c'
  bit : c'.val (env ++ e) = 0 ∨ c'.val (env ++ e) = 1
  val : ∃ D U : List Int, os.map (·.val (env ++ e)) = outs.map (·.val env) ++ D ∧ us'.map (·.val (env ++ e)) = us.map (·.val env) ++ U ∧ Wds D ∧ Wds U ∧ D.length = n ∧ U.length = n ∧
    vw D + BW ^ n * c'.val (env ++ e) + BW * vw U = vw X + v * vw Y + c
theorem maCh_ok (hA : PAsk A) {fl : Bool} {k : List SI → List SI → SI → Nat → Tree} {v : SI} : ∀ (ys xs : List SI) (c : SI) (ne : Nat) (outs us : List SI) (env : List Int), ys.length = xs.length → ne = env.length → Bd ne v → (∀ y ∈ ys, Bd ne y) → (∀ x ∈ xs, Bd ne x) → Bd ne c → (∀ z ∈ outs, Bd ne z) → (∀ z ∈ us, Bd ne z) →
    Wd (v.val env) → Wds (ys.map (·.val env)) → Wds (xs.map (·.val env)) → (c.val env = 0 ∨ c.val env = 1) →
    (∀ (e : List Int) (os us' : List SI) (c' : SI) (ne' : Nat), MaOk env outs us (v.val env) (c.val env) (ys.map (·.val env)) (xs.map (·.val env)) ys.length e os us' c' ne' → (k os us' c' ne').holds A (env ++ e)) → (maCh fl k v ys xs c ne outs us).holds A env
  | [], [], c, ne, outs, us, env, _, hne, _, _, _, hc, ho, hu, _, _, _, bc, hk => by
    have := hk [] outs us c ne ⟨by simpa using hne, ho, hu, hc, by simpa using bc, [], [], by simp, by simp, wds_nil, wds_nil, rfl, rfl, by simp [vw]⟩
    simp only [List.append_nil] at this
    exact this
  | y :: ys, x :: xs, c, ne, outs, us, env, hl, hne, hv, hy, hx, hc, ho, hu, wv, wy, wx, bc, hk => by
    obtain ⟨wy0, wy⟩ := Wds.tail (by simpa using wy)
    obtain ⟨wx0, wx⟩ := Wds.tail (by simpa using wx)
    have bx := hx x (List.mem_cons_self ..)
    rw [hne] at bx hc
    refine ⟨hA.pre _ (wds_cons wv (wds_cons wy0 wds_nil)), fun zs _ h => ?_⟩
    obtain ⟨u, l, rfl, wu, wl, e⟩ := hA.mul _ _ h
    have e : BW * u + l = v.val env * y.val env := e
    obtain ⟨vu, vl⟩ := two_end (a := u) (b := l) hne
    have mx0 : x.val (env ++ [u, l]) = x.val env := val_more bx
    have mc : c.val (env ++ [u, l]) = c.val env := val_more hc
    intro s hs
    intro b hb
    have hs : s = (((x.val env).toNat + l.toNat + (c.val env).toNat) % 18446744073709551616 : Nat) := by
      cases fl
      · have hs : s = (((x.val (env ++ [u, l])).toNat + ((SI.var (ne + 1)).val (env ++ [u, l])).toNat + (c.val (env ++ [u, l])).toNat) % 18446744073709551616 : Nat) := hs
        rw [mx0, vl, mc] at hs; exact hs
      · have hs : s = ((((SI.var (ne + 1)).val (env ++ [u, l])).toNat + (x.val (env ++ [u, l])).toNat + (c.val (env ++ [u, l])).toNat) % 18446744073709551616 : Nat) := hs
        rw [mx0, vl, mc, Nat.add_comm l.toNat] at hs; exact hs
    have e3 : env ++ [u, l] ++ [s] = env ++ [u, l, s] := by simp
    have e4 : env ++ [u, l] ++ [s] ++ [b] = env ++ [u, l, s, b] := by simp
    have vl3 : (SI.var (ne + 1)).val (env ++ [u, l] ++ [s]) = l := by rw [val_more (x := .var (ne + 1)) (by show ne + 1 < _; simp [hne]), vl]
    have mx3 : x.val (env ++ [u, l] ++ [s]) = x.val env := by rw [e3]; exact val_more bx
    have mc3 : c.val (env ++ [u, l] ++ [s]) = c.val env := by rw [e3]; exact val_more hc
    have hb : b = b01 (decide (18446744073709551616 ≤ (x.val env).toNat + l.toNat + (c.val env).toNat)) := by
      cases fl
      · have hb : b = b01 (decide (18446744073709551616 ≤ (x.val (env ++ [u, l] ++ [s])).toNat + ((SI.var (ne + 1)).val (env ++ [u, l] ++ [s])).toNat + (c.val (env ++ [u, l] ++ [s])).toNat)) := hb
        rw [mx3, vl3, mc3] at hb; exact hb
      · have hb : b = b01 (decide (18446744073709551616 ≤ ((SI.var (ne + 1)).val (env ++ [u, l] ++ [s])).toNat + (x.val (env ++ [u, l] ++ [s])).toNat + (c.val (env ++ [u, l] ++ [s])).toNat)) := hb
        rw [mx3, vl3, mc3, Nat.add_comm l.toNat] at hb; exact hb
    obtain ⟨ws, bb, es⟩ := add_step wx0 wl bc hs hb
    have mv : v.val (env ++ [u, l] ++ [s] ++ [b]) = v.val env := by rw [e4]; exact val_more (by rw [← hne]; exact hv)
    have my : ys.map (·.val (env ++ [u, l] ++ [s] ++ [b])) = ys.map (·.val env) := by rw [e4]; exact vals_more fun z hz => by rw [← hne]; exact hy z (List.mem_cons_of_mem _ hz)
    have mx : xs.map (·.val (env ++ [u, l] ++ [s] ++ [b])) = xs.map (·.val env) := by rw [e4]; exact vals_more fun z hz => by rw [← hne]; exact hx z (List.mem_cons_of_mem _ hz)
    have mo : outs.map (·.val (env ++ [u, l] ++ [s] ++ [b])) = outs.map (·.val env) := by rw [e4]; exact vals_more fun z hz => by rw [← hne]; exact ho z hz
    have mu : us.map (·.val (env ++ [u, l] ++ [s] ++ [b])) = us.map (·.val env) := by rw [e4]; exact vals_more fun z hz => by rw [← hne]; exact hu z hz
    have vb : (SI.var (ne + 3)).val (env ++ [u, l] ++ [s] ++ [b]) = b := val_end (by simp [hne])
    have vs : (SI.var (ne + 2)).val (env ++ [u, l] ++ [s] ++ [b]) = s := by rw [val_more (x := .var (ne + 2)) (by show ne + 2 < _; simp [hne])]; exact val_end (by simp [hne])
    have vu4 : (SI.var ne).val (env ++ [u, l] ++ [s] ++ [b]) = u := by rw [val_more (x := .var ne) (by show ne < _; simp [hne]), val_more (x := .var ne) (by show ne < _; simp [hne]), vu]
    refine maCh_ok hA ys xs (.var (ne + 3)) (ne + 4) _ _ (env ++ [u, l] ++ [s] ++ [b]) (by simpa using hl) (by simp [hne]) (hv.more (by omega)) (fun z hz => (hy z (List.mem_cons_of_mem _ hz)).more (by omega)) (fun z hz => (hx z (List.mem_cons_of_mem _ hz)).more (by omega))
      (show ne + 3 < ne + 4 by omega) (bd_snoc ho (by omega) (by omega)) (bd_snoc hu (by omega) (by omega)) (by rw [mv]; exact wv) (by rw [my]; exact wy) (by rw [mx]; exact wx) (by rw [vb]; exact bb) fun e' os us' c' ne' g => ?_
    obtain ⟨g1, g2, g3, g4, g5, D, U, g6, g7, g8, g9, g10, g11, g12⟩ := g
    have ee : env ++ ([u, l, s, b] ++ e') = env ++ [u, l] ++ [s] ++ [b] ++ e' := by simp
    have := hk ([u, l, s, b] ++ e') os us' c' ne' ⟨by rw [ee]; exact g1, g2, g3, g4, by rw [ee]; exact g5, s :: D, u :: U, ?_, ?_, wds_cons ws g8, wds_cons wu g9, by simp [g10], by simp [g11], ?_⟩
    · rw [ee] at this; exact this
    · rw [ee, g6, List.map_append, mo, List.map_cons, List.map_nil, vs, List.append_assoc]; rfl
    · rw [ee, g7, List.map_append, mu, List.map_cons, List.map_nil, vu4, List.append_assoc]; rfl
    · rw [mv, my, mx, vb] at g12
      rw [ee]
      simp only [vw, List.map_cons, List.length_cons, Int.pow_succ]
      rw [Int.mul_comm (BW ^ ys.length) BW, Int.mul_assoc, Int.mul_add (v.val env), ← e, Int.mul_left_comm (v.val env)]
      generalize BW ^ ys.length * c'.val (env ++ [u, l] ++ [s] ++ [b] ++ e') = T at *
      generalize v.val env * vw (ys.map (·.val env)) = V at *
      simp only [BW] at *
      omega
  | [], _ :: _, _, _, _, _, _, h, _, _, _, _, _, _, _, _, _, _, _, _ => by simp at h
  | _ :: _, [], _, _, _, _, _, h, _, _, _, _, _, _, _, _, _, _, _, _ => by simp at h
end
end Eng
end
section
/-
  Numbers by words: Montgomery's product: the rounds, the whole.
-/
namespace Eng
open Go

section
variable {A : Ask} {n : Nat} {q : List Int}

theorem last_split {U : List Int} (h : U ≠ []) : U = U.dropLast ++ [U.getLastD 0] := by
  have := (List.dropLast_concat_getLast h).symm
  rw [List.getLastD_eq_getLast?, List.getLast?_eq_some_getLast h]
  exact this
theorem last_val {env : List Int} : ∀ {os : List SI}, (os.getLastD (.lit 0)).val env = (os.map (·.val env)).getLastD 0
  | [] => rfl
  | [x] => rfl
  | x :: y :: l => by
    have := last_val (env := env) (os := y :: l)
    simp only [List.map_cons, List.getLastD_cons] at this ⊢
    exact this
theorem last_bd {m : Nat} {os : List SI} (h : ∀ z ∈ os, Bd m z) : Bd m (os.getLastD (.lit 0)) := by
  cases hs : os.getLast? with
  | none => rw [List.getLastD_eq_getLast?, hs]; trivial
  | some x => rw [List.getLastD_eq_getLast?, hs]; exact h x (List.mem_of_getLast? hs)
theorem wd_last {U : List Int} (h : Wds U) : Wd (U.getLastD 0) := by
  cases hs : U.getLast? with
  | none => rw [List.getLastD_eq_getLast?, hs]; exact wd0
  | some x => rw [List.getLastD_eq_getLast?, hs]; exact h x (List.mem_of_getLast? hs)
theorem wds_dropLast {U : List Int} (h : Wds U) : Wds U.dropLast := fun x hx => h x (by rw [List.dropLast_eq_take] at hx; exact List.mem_of_mem_take hx)
theorem bd_dropLast {m : Nat} {os : List SI} (h : ∀ z ∈ os, Bd m z) : ∀ z ∈ os.dropLast, Bd m z := fun z hz => h z (by rw [List.dropLast_eq_take] at hz; exact List.mem_of_mem_take hz)
theorem bd_tail {m : Nat} {os : List SI} (h : ∀ z ∈ os, Bd m z) : ∀ z ∈ os.tail, Bd m z := fun z hz => h z (List.mem_of_mem_tail hz)
theorem wds_tail {U : List Int} (h : Wds U) : Wds U.tail := fun x hx => h x (List.mem_of_mem_tail hx)
theorem head_val {env : List Int} : ∀ {os : List SI}, (os.headD (.lit 0)).val env = (os.map (·.val env)).headD 0
  | [] => rfl
  | _ :: _ => rfl
theorem head_bd {m : Nat} {os : List SI} (h : ∀ z ∈ os, Bd m z) : Bd m (os.headD (.lit 0)) := by
  cases os with
  | nil => trivial
  | cons x l => exact h x (List.mem_cons_self ..)
theorem vw_head {U : List Int} (h : U ≠ []) : vw U = U.headD 0 + BW * vw U.tail := by
  cases U with
  | nil => exact absurd rfl h
  | cons x l => rfl
theorem vw_last {U : List Int} (h : U ≠ []) : vw U = vw U.dropLast + BW ^ (U.length - 1) * U.getLastD 0 := by
  have e : vw U = vw (U.dropLast ++ [U.getLastD 0]) := by rw [← last_split h]
  rw [e, vw_snoc, List.length_dropLast]

/-- Two facts of one sum with carry. -/
theorem add_facts {env : List Int} {x y c : SI} {s b : Int} (hx : Bd env.length x) (hy : Bd env.length y) (hc : Bd env.length c) (wx : Wd (x.val env)) (wy : Wd (y.val env)) (bc : c.val env = 0 ∨ c.val env = 1)
    (hs : s = IOp.addS.ev ([x, y, c].map (·.val env))) (hb : b = IOp.addC.ev ([x, y, c].map (·.val (env ++ [s])))) : Wd s ∧ (b = 0 ∨ b = 1) ∧ s + BW * b = x.val env + y.val env + c.val env := by
  have hb : b = b01 (decide (18446744073709551616 ≤ (x.val (env ++ [s])).toNat + (y.val (env ++ [s])).toNat + (c.val (env ++ [s])).toNat)) := hb
  rw [val_more hx, val_more hy, val_more hc] at hb
  exact add_step wx wy bc hs hb

/-! ### one word times the number, and what there is -/
def p1F (v : SI) (ys : List SI) (ne : Nat) (k : List SI → Nat → Tree) : Tree :=
  muCh (fun us ls ne' => addCh (fun ts c ne2 => .dfn .addS [us.getLastD (.lit 0), .lit 0, c] (.dfn .addC [us.getLastD (.lit 0), .lit 0, c] (k (ls.headD (.lit 0) :: ts ++ [.var ne2]) (ne2 + 2)))) us.dropLast ls.tail (.lit 0) ne' []) v ys ne [] []
def p1N (v : SI) (ys ts : List SI) (ne : Nat) (k : List SI → Nat → Tree) : Tree :=
  maCh true (fun os us c ne' => .dfn .addS [.lit 0, .lit 0, c] (.dfn .addC [.lit 0, .lit 0, c]
    (addCh (fun ss c2 ne2 => .dfn .addS [us.getLastD (.lit 0), .var ne', c2] (.dfn .addC [us.getLastD (.lit 0), .var ne', c2] (k (os.headD (.lit 0) :: ss ++ [.var ne2]) (ne2 + 2)))) us.dropLast os.tail (.lit 0) (ne' + 2) []))) v ys ts (.lit 0) ne [] []

theorem mul_bound {v : Int} {Y : List Int} (hv : Wd v) (hY : Wds Y) : 0 ≤ v * vw Y ∧ v * vw Y ≤ (BW - 1) * (BW ^ Y.length - 1) := by
  have b := vw_bounds hY
  refine ⟨Int.mul_nonneg hv.1 b.1, ?_⟩
  exact Int.mul_le_mul (by have := hv.2; simp only [BW]; omega) (by omega) b.1 (by simp only [BW]; decide)

theorem p1F_ok (hA : PAsk A) (hn : n ≠ 0) {v : SI} {ys : List SI} {ne : Nat} {env : List Int} {k : List SI → Nat → Tree} (ly : ys.length = n) (hne : ne = env.length) (hv : Bd ne v) (hy : ∀ y ∈ ys, Bd ne y) (wv : Wd (v.val env)) (wy : Wds (ys.map (·.val env)))
    (hk : ∀ (e : List Int) (T : List SI) (ne' : Nat), ROk (fun l => vw l = v.val env * vw (ys.map (·.val env))) env e T ne' (n + 1) → (k T ne').holds A (env ++ e)) : (p1F v ys ne k).holds A env := by
  refine muCh_ok hA ys ne [] [] env hne hv hy (fun z hz => by cases hz) (fun z hz => by cases hz) wv wy fun e us ls ne' g => ?_
  obtain ⟨g1, g2, g3, U, L, g4, g5, g6, g7, g8, g9, g10⟩ := g
  rw [List.map_nil, List.nil_append] at g4 g5
  rw [ly] at g8 g9
  have lu : us.length = n := by rw [map_len g4, g8]
  have ll : ls.length = n := by rw [map_len g5, g9]
  have une : U ≠ [] := fun h => by rw [h] at g8; exact hn g8.symm
  have lne : L ≠ [] := fun h => by rw [h] at g9; exact hn g9.symm
  refine addCh_ok us.dropLast ls.tail (.lit 0) ne' [] (env ++ e) (by simp [lu, ll]) g1 (bd_dropLast g2) (bd_tail g3) trivial (fun z hz => by cases hz) (by rw [List.map_dropLast, g4]; exact wds_dropLast g6) (by rw [List.map_tail, g5]; exact wds_tail g7) (.inl rfl) fun e2 ts c ne2 h => ?_
  rw [List.map_dropLast, List.map_tail, g4, g5] at h
  obtain ⟨h1, h2, h3, h4, d, h5, h6, h7, h8⟩ := h
  rw [List.map_nil, List.nil_append] at h5
  simp only [Int.one_mul, val_lit, Int.add_zero, List.length_dropLast, lu] at h7 h8
  have lt : ts.length = n - 1 := by rw [map_len h5, h7]
  have hle : ne' ≤ ne2 := by rw [h1, g1]; simp
  intro s hs b hb
  have ul : (us.getLastD (.lit 0)).val (env ++ e ++ e2) = U.getLastD 0 := by rw [val_more (last_bd (by rw [← g1]; exact g2)), last_val, g4]
  obtain ⟨ws, bb, es⟩ := add_facts (x := us.getLastD (.lit 0)) (y := .lit 0) (c := c) (by rw [← h1]; exact (last_bd g2).more hle) trivial (by rw [← h1]; exact h2) (by rw [ul]; exact wd_last g6) wd0 h4 hs hb
  rw [ul] at es
  simp only [val_lit, Int.add_zero] at es
  have e3 : env ++ e ++ e2 ++ [s] ++ [b] = env ++ (e ++ e2 ++ [s, b]) := by simp
  have e4 : env ++ e ++ e2 ++ [s] ++ [b] = env ++ e ++ e2 ++ [s, b] := by simp
  have hT : (ls.headD (.lit 0) :: ts ++ [SI.var ne2]).map (·.val (env ++ e ++ e2 ++ [s] ++ [b])) = L.headD 0 :: d ++ [s] := by
    rw [List.map_append, List.map_cons, List.map_cons, List.map_nil]
    congr 1
    · congr 1
      · rw [show env ++ e ++ e2 ++ [s] ++ [b] = env ++ e ++ (e2 ++ [s, b]) by simp, val_more (head_bd (by rw [← g1]; exact g3)), head_val, g5]
      · rw [e4, vals_more (by rw [← h1]; exact h3), h5]
    · rw [val_more (x := .var ne2) (by show ne2 < _; simp [h1]), val_end h1]
  have wL0 : Wd (L.headD 0) := by
    cases L with
    | nil => exact absurd rfl lne
    | cons x l => exact g7 x (List.mem_cons_self ..)
  have wT : Wds (L.headD 0 :: d ++ [s]) := Wds.append (wds_cons wL0 h6) (wds_cons ws wds_nil)
  have lT : (L.headD 0 :: d ++ [s]).length = n + 1 := by simp [h7]; omega
  -- the value
  have hval : vw (L.headD 0 :: d ++ [s]) + BW ^ (n + 1) * b = v.val env * vw (ys.map (·.val env)) := by
    have e5 : L.headD 0 :: d ++ [s] = (L.headD 0 :: d) ++ [s] := rfl
    have hp : BW ^ (n + 1) = BW * (BW * BW ^ (n - 1)) := by
      rw [Int.pow_succ, Int.mul_comm]
      congr 1
      rw [Int.mul_comm, ← Int.pow_succ]
      congr 1
      omega
    have hp2 : BW ^ n = BW * BW ^ (n - 1) := by
      rw [Int.mul_comm, ← Int.pow_succ]
      congr 1
      omega
    rw [e5, vw_snoc, List.length_cons, h7, show n - 1 + 1 = n by omega, hp, hp2, ← g10, vw_last une, g8, vw_head lne]
    simp only [vw]
    have es' : s = U.getLastD 0 + c.val (env ++ e ++ e2) - BW * b := by omega
    have hd : vw d = vw U.dropLast + vw L.tail - BW ^ (n - 1) * c.val (env ++ e ++ e2) := by omega
    rw [es', hd]
    generalize BW ^ (n - 1) = P
    simp only [Int.mul_add, Int.mul_sub, Int.mul_assoc]
    rw [Int.mul_left_comm P BW b]
    generalize P * U.getLastD 0 = a1
    generalize P * c.val (env ++ e ++ e2) = a2
    generalize P * b = a3
    simp only [BW]
    omega
  have hb0 : b = 0 := by
    have m1 := mul_bound wv wy
    have b1 := vw_bounds wT
    rw [lT] at b1
    rw [List.length_map, ly] at m1
    rcases bb with h | h
    · exact h
    · exfalso
      rw [h, Int.mul_one] at hval
      have : (BW - 1) * (BW ^ n - 1) < BW ^ (n + 1) := by
        rw [Int.pow_succ, Int.mul_comm _ BW, Int.sub_mul, Int.mul_sub]
        have := bw_pos n
        simp only [BW] at *
        omega
      omega
  rw [hb0, Int.mul_zero, Int.add_zero] at hval
  rw [e3] at hT ⊢
  refine hk _ _ (ne2 + 2) ⟨by rw [← e3]; simp [h1]; omega, fun z hz => ?_, by simp [lt]; omega, by rw [hT]; exact wT, by rw [hT]; exact hval⟩
  rcases List.mem_append.1 hz with hz | hz
  · rcases List.mem_cons.1 hz with rfl | hz
    · exact (head_bd g3).more (by omega)
    · exact (h3 z hz).more (by omega)
  · simp at hz; subst hz; show ne2 < ne2 + 2; omega

theorem p1N_ok (hA : PAsk A) (hn : n ≠ 0) {v : SI} {ys zs : List SI} {ne : Nat} {env : List Int} {k : List SI → Nat → Tree} (ly : ys.length = n) (lz : zs.length = n) (hne : ne = env.length) (hv : Bd ne v) (hy : ∀ y ∈ ys, Bd ne y) (hz : ∀ z ∈ zs, Bd ne z)
    (wv : Wd (v.val env)) (wy : Wds (ys.map (·.val env))) (wz : Wds (zs.map (·.val env)))
    (hk : ∀ (e : List Int) (T : List SI) (ne' : Nat), ROk (fun l => vw l = vw (zs.map (·.val env)) + v.val env * vw (ys.map (·.val env))) env e T ne' (n + 1) → (k T ne').holds A (env ++ e)) : (p1N v ys zs ne k).holds A env := by
  refine maCh_ok hA ys zs (.lit 0) ne [] [] env (by omega) hne hv hy hz trivial (fun z hz => by cases hz) (fun z hz => by cases hz) wv wy wz (.inl rfl) fun e os us c ne' g => ?_
  obtain ⟨g1, g2, g3, g4, g5, D, U, g6, g7, g8, g9, g10, g11, g12⟩ := g
  rw [List.map_nil, List.nil_append] at g6 g7
  rw [ly] at g10 g11 g12
  simp only [val_lit, Int.add_zero] at g12
  have lo : os.length = n := by rw [map_len g6, g10]
  have lu : us.length = n := by rw [map_len g7, g11]
  have une : U ≠ [] := fun h => by rw [h] at g11; exact hn g11.symm
  have dne : D ≠ [] := fun h => by rw [h] at g10; exact hn g10.symm
  intro w hw b0 hb0
  obtain ⟨ww, bb0, ew⟩ := add_facts (x := .lit 0) (y := .lit 0) (c := c) trivial trivial (by rw [← g1]; exact g4) wd0 wd0 g5 hw hb0
  simp only [val_lit, Int.zero_add] at ew
  have hwc : w = c.val (env ++ e) := by
    simp only [Wd, BW] at *
    rcases bb0 with h | h <;> rcases g5 with h' | h' <;> omega
  have eE : env ++ e ++ [w] ++ [b0] = env ++ e ++ [w, b0] := by simp
  have mo : os.map (·.val (env ++ e ++ [w] ++ [b0])) = D := by rw [eE, vals_more (by rw [← g1]; exact g2), g6]
  have mu : us.map (·.val (env ++ e ++ [w] ++ [b0])) = U := by rw [eE, vals_more (by rw [← g1]; exact g3), g7]
  have vw' : (SI.var ne').val (env ++ e ++ [w] ++ [b0]) = w := by rw [val_more (x := .var ne') (by show ne' < _; simp [g1])]; exact val_end g1
  have lE : ne' + 2 = (env ++ e ++ [w] ++ [b0]).length := by simp [g1]; omega
  have app : ∀ e', env ++ e ++ [w] ++ [b0] ++ e' = env ++ (e ++ [w, b0] ++ e') := by simp
  generalize env ++ e ++ [w] ++ [b0] = E at *
  refine addCh_ok us.dropLast os.tail (.lit 0) (ne' + 2) [] E (by simp [lu, lo]) lE (bd_dropLast fun z hz => (g3 z hz).more (by omega)) (bd_tail fun z hz => (g2 z hz).more (by omega)) trivial (fun z hz => by cases hz) (by rw [List.map_dropLast, mu]; exact wds_dropLast g9) (by rw [List.map_tail, mo]; exact wds_tail g8) (.inl rfl) fun e2 ts c2 ne2 h => ?_
  rw [List.map_dropLast, List.map_tail, mu, mo] at h
  obtain ⟨h1, h2, h3, h4, d, h5, h6, h7, h8⟩ := h
  rw [List.map_nil, List.nil_append] at h5
  simp only [Int.one_mul, val_lit, Int.add_zero, List.length_dropLast, lu] at h7 h8
  have lt : ts.length = n - 1 := by rw [map_len h5, h7]
  have hle : ne' + 2 ≤ ne2 := by rw [h1, lE]; simp
  intro s hs b hb
  have ul : (us.getLastD (.lit 0)).val (E ++ e2) = U.getLastD 0 := by rw [val_more (by rw [← lE]; exact (last_bd g3).more (by omega)), last_val, mu]
  have vn : (SI.var ne').val (E ++ e2) = w := by rw [val_more (x := .var ne') (by show ne' < _; omega), vw']
  obtain ⟨ws, bb, es⟩ := add_facts (x := us.getLastD (.lit 0)) (y := .var ne') (c := c2) (by rw [← h1]; exact (last_bd g3).more (by omega)) (by rw [← h1]; show ne' < ne2; omega) (by rw [← h1]; exact h2) (by rw [ul]; exact wd_last g9) (by rw [vn]; exact ww) h4 hs hb
  rw [ul, vn] at es
  have e4 : E ++ e2 ++ [s] ++ [b] = E ++ e2 ++ [s, b] := by simp
  have e3 : E ++ e2 ++ [s] ++ [b] = env ++ (e ++ [w, b0] ++ (e2 ++ [s, b])) := by rw [← app]; simp
  have hT : (os.headD (.lit 0) :: ts ++ [SI.var ne2]).map (·.val (E ++ e2 ++ [s] ++ [b])) = D.headD 0 :: d ++ [s] := by
    rw [List.map_append, List.map_cons, List.map_cons, List.map_nil]
    congr 1
    · congr 1
      · rw [show E ++ e2 ++ [s] ++ [b] = E ++ (e2 ++ [s, b]) by simp, val_more (by rw [← lE]; exact (head_bd g2).more (by omega)), head_val, mo]
      · rw [e4, vals_more (by rw [← h1]; exact h3), h5]
    · rw [val_more (x := .var ne2) (by show ne2 < _; simp [h1]), val_end h1]
  have wD0 : Wd (D.headD 0) := by
    cases D with
    | nil => exact absurd rfl dne
    | cons x l => exact g8 x (List.mem_cons_self ..)
  have wT : Wds (D.headD 0 :: d ++ [s]) := Wds.append (wds_cons wD0 h6) (wds_cons ws wds_nil)
  have lT : (D.headD 0 :: d ++ [s]).length = n + 1 := by simp [h7]; omega
  have hp2 : BW ^ n = BW * BW ^ (n - 1) := by
    rw [Int.mul_comm, ← Int.pow_succ]
    congr 1
    omega
  have hval : vw (D.headD 0 :: d ++ [s]) + BW ^ (n + 1) * b = vw (zs.map (·.val env)) + v.val env * vw (ys.map (·.val env)) := by
    have e5 : D.headD 0 :: d ++ [s] = (D.headD 0 :: d) ++ [s] := rfl
    have hp : BW ^ (n + 1) = BW * (BW * BW ^ (n - 1)) := by
      rw [Int.pow_succ, Int.mul_comm, hp2]
    rw [e5, vw_snoc, List.length_cons, h7, show n - 1 + 1 = n by omega, hp, hp2, ← g12, vw_last une, g11, vw_head dne, hp2, ← hwc]
    simp only [vw]
    have es' : s = U.getLastD 0 + w + c2.val (E ++ e2) - BW * b := by omega
    have hd : vw d = vw U.dropLast + vw D.tail - BW ^ (n - 1) * c2.val (E ++ e2) := by omega
    rw [es', hd]
    generalize BW ^ (n - 1) = P
    simp only [Int.mul_add, Int.mul_sub, Int.mul_assoc]
    rw [Int.mul_left_comm P BW b]
    generalize P * U.getLastD 0 = a1
    generalize P * c2.val (E ++ e2) = a2
    generalize P * b = a3
    generalize P * w = a4
    simp only [BW]
    omega
  have hb0 : b = 0 := by
    have m1 := mul_bound wv wy
    have b1 := vw_bounds wT
    have b2 := vw_bounds wz
    rw [lT] at b1
    rw [List.length_map, ly] at m1
    rw [List.length_map, lz] at b2
    rcases bb with h | h
    · exact h
    · exfalso
      rw [h, Int.mul_one] at hval
      have : (BW - 1) * (BW ^ n - 1) + BW ^ n ≤ BW ^ (n + 1) := by
        rw [Int.pow_succ, Int.mul_comm _ BW, Int.sub_mul, Int.mul_sub]
        have := bw_pos n
        simp only [BW] at *
        omega
      omega
  rw [hb0, Int.mul_zero, Int.add_zero] at hval
  rw [e3] at hT ⊢
  refine hk _ _ (ne2 + 2) ⟨by rw [← e3]; simp [h1]; omega, fun z hz => ?_, by simp [lt]; omega, by rw [hT]; exact wT, by rw [hT]; exact hval⟩
  rcases List.mem_append.1 hz with hz | hz
  · rcases List.mem_cons.1 hz with rfl | hz
    · exact (head_bd g2).more (by omega)
    · exact (h3 z hz).more (by omega)
  · simp at hz; subst hz; show ne2 < ne2 + 2; omega
end
end Eng
end
section
/-
  Numbers by words: Montgomery's product: the whole, for any number of words.
-/
namespace Eng
open Go

section
variable {A : Ask} {n : Nat} {q : List Int}

/-- A multiple of the prime is added, and one word is left off. -/
def p2 (q : List Int) (qi : Int) (T : List SI) (ne : Nat) (k : List SI → Nat → Tree) : Tree :=
  .dfn (.bin .mul .u64) [.lit qi, T.headD (.lit 0)] (maCh false (fun rs us c ne' => .dfn .addS [us.getLastD (.lit 0), .lit 0, c] (.dfn .addC [us.getLastD (.lit 0), .lit 0, c]
    (addCh (fun ss k1 ne2 => .dfn .addS [T.getLastD (.lit 0), .lit 0, k1] (.dfn .addC [T.getLastD (.lit 0), .lit 0, k1]
      (.dfn .addS [T.dropLast.getLastD (.lit 0), ss.getLastD (.lit 0), .lit 0] (.dfn .addC [T.dropLast.getLastD (.lit 0), ss.getLastD (.lit 0), .lit 0]
        (.dfn .addS [.var ne', .var ne2, .var (ne2 + 3)] (.dfn .addC [.var ne', .var ne2, .var (ne2 + 3)] (k (ss.dropLast ++ [.var (ne2 + 2), .var (ne2 + 4)]) (ne2 + 6)))))))) us.dropLast rs.tail (.lit 0) (ne' + 2) [])))
    (.var ne) (ls q) (T.dropLast.dropLast ++ [.lit 0]) (.lit 0) (ne + 1) [] [])

theorem low_zero' {q0 qi z m : Int} (h : (q0 * qi + 1) % BW = 0) (hm : m = IntKind.u64.wrap (qi * z)) : (m * q0 + z) % BW = 0 := low_zero h (by rw [hm, Int.mul_comm])

theorem low_word {n : Nat} {D V U q : List Int} {c m qi : Int} (hn : 2 ≤ n) (lq : q.length = n) (lV : V.length = n + 1) (lD : D.length = n) (wD : Wds D) (hinv : (q.headD 0 * qi + 1) % BW = 0) (hm : m = IntKind.u64.wrap (qi * V.headD 0))
    (h : vw D + BW ^ n * c + BW * vw U = vw (V.dropLast.dropLast ++ [0]) + m * vw q) : D.headD 0 = 0 := by
  have h0 := low_zero' hinv hm
  have qne : q ≠ [] := fun h => by rw [h] at lq; simp at lq; omega
  have dne : D ≠ [] := fun h => by rw [h] at lD; simp at lD; omega
  have hV0 : V.dropLast.dropLast ++ [(0 : Int)] ≠ [] := by simp
  have hVh : (V.dropLast.dropLast ++ [(0 : Int)]).headD 0 = V.headD 0 := by
    match V, lV with
    | [], h => simp at h
    | [a], h => simp at h; omega
    | [a, b], h => simp at h; omega
    | a :: b :: d :: l, _ => simp [List.dropLast]
  rw [vw_head dne, vw_head hV0, hVh, vw_head qne] at h
  have hw0 : Wd (D.headD 0) := by
    cases D with
    | nil => exact absurd rfl dne
    | cons x l => exact wD x (List.mem_cons_self ..)
  have hp : BW ^ n = BW * BW ^ (n - 1) := by
    rw [Int.mul_comm, ← Int.pow_succ]
    congr 1
    omega
  rw [hp, Int.mul_add, Int.mul_assoc, Int.mul_left_comm m] at h
  obtain ⟨t, ht⟩ := Int.dvd_of_emod_eq_zero h0
  generalize m * vw q.tail = a1 at *
  generalize m * q.headD 0 = a2 at *
  generalize BW ^ (n - 1) * c = a3 at *
  generalize vw D.tail = a4 at *
  generalize vw (V.dropLast.dropLast ++ [0]).tail = a5 at *
  generalize vw U = a6 at *
  generalize V.headD 0 = a7 at *
  generalize D.headD 0 = a8 at *
  clear hVh hV0 qne dne hinv hm h0 hp
  simp only [Wd, BW] at *
  omega
theorem p2_val {n : Nat} {D V U q S : List Int} {c m u' d1 c2 d2 s k1 k2 f d3 : Int} (hn : 2 ≤ n) (lV : V.length = n + 1) (lD : D.length = n) (lU : U.length = n) (lS : S.length = n - 1) (hD0 : D.headD 0 = 0)
    (h : vw D + BW ^ n * c + BW * vw U = vw (V.dropLast.dropLast ++ [0]) + m * vw q) (h8 : vw S + BW ^ (n - 1) * k1 = vw U.dropLast + vw D.tail)
    (eu : u' + BW * d1 = U.getLastD 0 + c) (ec : c2 + BW * d2 = V.getLastD 0 + k1) (es : s + BW * k2 = V.dropLast.getLastD 0 + S.getLastD 0) (ef : f + BW * d3 = u' + c2 + k2) :
    BW * (vw (S.dropLast ++ [s, f]) + BW ^ n * (d1 + d2 + d3)) = vw V + m * vw q := by
  have une : U ≠ [] := fun h => by rw [h] at lU; simp at lU; omega
  have dne : D ≠ [] := fun h => by rw [h] at lD; simp at lD; omega
  have vne : V ≠ [] := fun h => by rw [h] at lV; simp at lV
  have sne : S ≠ [] := fun h => by rw [h] at lS; simp at lS; omega
  have vdne : V.dropLast ≠ [] := fun h => by
    have := congrArg List.length h
    simp [lV] at this; omega
  have hp1 : BW ^ (n - 1) = BW * BW ^ (n - 2) := by
    rw [Int.mul_comm, ← Int.pow_succ]
    congr 1
    omega
  have hp : BW ^ n = BW * (BW * BW ^ (n - 2)) := by
    rw [← hp1, Int.mul_comm, ← Int.pow_succ]
    congr 1
    omega
  have e6 : vw (S.dropLast ++ [s, f]) = vw S.dropLast + BW ^ (n - 2) * s + BW * BW ^ (n - 2) * f := by
    rw [show S.dropLast ++ [s, f] = (S.dropLast ++ [s]) ++ [f] by simp, vw_snoc, vw_snoc, List.length_append, List.length_dropLast, lS, List.length_cons, List.length_nil, show n - 1 - 1 = n - 2 by omega, show n - 2 + (0 + 1) = n - 1 by omega, hp1]
  have e7 : vw S = vw S.dropLast + BW ^ (n - 2) * S.getLastD 0 := by rw [vw_last sne, lS, show n - 1 - 1 = n - 2 by omega]
  have e8 : vw U = vw U.dropLast + BW * BW ^ (n - 2) * U.getLastD 0 := by rw [vw_last une, lU, hp1]
  have e9 : vw D = BW * vw D.tail := by rw [vw_head dne, hD0, Int.zero_add]
  have e10 : vw V = vw V.dropLast.dropLast + BW * BW ^ (n - 2) * V.dropLast.getLastD 0 + BW * (BW * BW ^ (n - 2)) * V.getLastD 0 := by
    rw [vw_last vne, lV, show n + 1 - 1 = n by omega, vw_last vdne, List.length_dropLast, lV, show n + 1 - 1 - 1 = n - 1 by omega, hp1, hp]
  have e11 : vw (V.dropLast.dropLast ++ [0]) = vw V.dropLast.dropLast := by rw [vw_snoc, Int.mul_zero, Int.add_zero]
  rw [e11, e8, e9, hp] at h
  rw [hp1, e7] at h8
  rw [e6, e10, hp]
  have hs' : s = V.dropLast.getLastD 0 + S.getLastD 0 - BW * k2 := by omega
  have hf' : f = u' + c2 + k2 - BW * d3 := by omega
  have hu : u' = U.getLastD 0 + c - BW * d1 := by omega
  have hc : c2 = V.getLastD 0 + k1 - BW * d2 := by omega
  rw [hf', hs', hu, hc]
  clear hf' hs' hu hc e6 e7 e8 e9 e10 e11 hp hp1 une dne vne sne vdne lV lD lU lS hD0 eu ec es ef
  generalize BW ^ (n - 2) = P at *
  generalize vw S.dropLast = b1 at *
  generalize vw U.dropLast = b2 at *
  generalize vw D.tail = b3 at *
  generalize vw V.dropLast.dropLast = b4 at *
  generalize m * vw q = a11 at *
  generalize U.getLastD 0 = x1 at *
  generalize S.getLastD 0 = x4 at *
  generalize V.dropLast.getLastD 0 = x5 at *
  generalize V.getLastD 0 = x6 at *
  simp only [Int.mul_add, Int.mul_sub, Int.mul_assoc] at *
  rw [Int.mul_left_comm P BW k2, Int.mul_left_comm P BW d3, Int.mul_left_comm P BW d1, Int.mul_left_comm P BW d2]
  generalize P * x1 = a1 at *
  generalize P * c = a2 at *
  generalize P * k1 = a3 at *
  generalize P * x4 = a4 at *
  generalize P * x5 = a5 at *
  generalize P * x6 = a6 at *
  generalize P * k2 = a7 at *
  generalize P * d1 = a8 at *
  generalize P * d2 = a9 at *
  generalize P * d3 = a10 at *
  simp only [BW] at *
  omega

theorem p2_ok (hA : PAsk A) (hq : WQ n q) {qi : Int} (hqi : QInv q qi) (hn : 2 ≤ n) {T : List SI} {ne : Nat} {env : List Int} {k : List SI → Nat → Tree} (lT : T.length = n + 1) (hne : ne = env.length) (hT : ∀ z ∈ T, Bd ne z)
    (wT : Wds (T.map (·.val env))) (hb : vw (T.map (·.val env)) + (BW - 1) * vw q < BW ^ (n + 1))
    (hk : ∀ (e : List Int) (os : List SI) (ne' : Nat), ROk (fun l => ∃ m, Wd m ∧ BW * vw l = vw (T.map (·.val env)) + m * vw q) env e os ne' n → (k os ne').holds A (env ++ e)) : (p2 q qi T ne k).holds A env := by
  have lq := hq.len
  -- the words of T
  generalize hTv : T.map (·.val env) = V at *
  have lV : V.length = n + 1 := by rw [← hTv]; simpa using lT
  have vne : V ≠ [] := fun h => by rw [h] at lV; simp at lV
  have vdne : V.dropLast ≠ [] := fun h => by
    have := congrArg List.length h
    simp [lV] at this; omega
  have kh : (T.headD (.lit 0)).val env = V.headD 0 := by rw [head_val, hTv]
  have wh : Wd (V.headD 0) := by
    cases V with
    | nil => exact absurd rfl vne
    | cons x l => exact wT x (List.mem_cons_self ..)
  intro m hm
  have hm : m = IntKind.u64.wrap (qi * (T.headD (.lit 0)).val env) := hm
  rw [kh] at hm
  have wm : Wd m := by rw [hm]; exact wd_wrap _
  have vm : (SI.var ne).val (env ++ [m]) = m := val_end hne
  have mT : T.map (·.val (env ++ [m])) = V := by rw [vals_more (by rw [← hne]; exact hT), hTv]
  have hT1 : ∀ z ∈ T, Bd (ne + 1) z := fun z hz => (hT z hz).more (by omega)
  have l1 : ne + 1 = (env ++ [m]).length := by simp [hne]
  have app1 : ∀ e, env ++ [m] ++ e = env ++ ([m] ++ e) := by simp
  generalize env ++ [m] = E1 at *
  have mX : (T.dropLast.dropLast ++ [SI.lit 0]).map (·.val E1) = V.dropLast.dropLast ++ [0] := by
    rw [List.map_append, List.map_dropLast, List.map_dropLast, mT]; rfl
  refine maCh_ok hA (v := .var ne) (ls q) (T.dropLast.dropLast ++ [.lit 0]) (.lit 0) (ne + 1) [] [] E1 (by simp [ls, lq, lT]; omega) l1 (show ne < ne + 1 by omega) ls_bd ?_ trivial (fun z hz => by cases hz) (fun z hz => by cases hz) (by rw [vm]; exact wm) (by rw [ls_vals]; exact hq.wd) ?_ (.inl rfl) fun e rs us c ne' g => ?_
  · intro z hz
    rcases List.mem_append.1 hz with h | h
    · exact bd_dropLast (bd_dropLast hT1) z h
    · simp at h; subst h; trivial
  · rw [mX]
    exact Wds.append (wds_dropLast (wds_dropLast wT)) (wds_cons wd0 wds_nil)
  rw [ls_vals, mX, vm] at g
  obtain ⟨g1, g2, g3, g4, g5, D, U, g6, g7, g8, g9, g10, g11, g12⟩ := g
  rw [List.map_nil, List.nil_append] at g6 g7
  have lsq : (ls q).length = n := by simp [ls, lq]
  rw [lsq] at g10 g11 g12
  simp only [val_lit, Int.add_zero] at g12
  have lr : rs.length = n := by rw [map_len g6, g10]
  have lu : us.length = n := by rw [map_len g7, g11]
  have une : U ≠ [] := fun h => by rw [h] at g11; simp at g11; omega
  have dne : D ≠ [] := fun h => by rw [h] at g10; simp at g10; omega
  have hle1 : ne + 1 ≤ ne' := by rw [g1, List.length_append]; omega
  intro u' hu' d1 hd1
  have ul : (us.getLastD (.lit 0)).val (E1 ++ e) = U.getLastD 0 := by rw [last_val, g7]
  obtain ⟨wu', bd1, eu'⟩ := add_facts (x := us.getLastD (.lit 0)) (y := .lit 0) (c := c) (by rw [← g1]; exact last_bd g3) trivial (by rw [← g1]; exact g4) (by rw [ul]; exact wd_last g9) wd0 g5 hu' hd1
  rw [ul] at eu'
  simp only [val_lit, Int.add_zero] at eu'
  have eE : E1 ++ e ++ [u'] ++ [d1] = E1 ++ e ++ [u', d1] := by simp
  have mr : rs.map (·.val (E1 ++ e ++ [u'] ++ [d1])) = D := by rw [eE, vals_more (by rw [← g1]; exact g2), g6]
  have mu : us.map (·.val (E1 ++ e ++ [u'] ++ [d1])) = U := by rw [eE, vals_more (by rw [← g1]; exact g3), g7]
  have mT2 : T.map (·.val (E1 ++ e ++ [u'] ++ [d1])) = V := by
    rw [show E1 ++ e ++ [u'] ++ [d1] = E1 ++ (e ++ [u', d1]) by simp, vals_more (by rw [← l1]; exact hT1), mT]
  have vu' : (SI.var ne').val (E1 ++ e ++ [u'] ++ [d1]) = u' := by rw [val_more (x := .var ne') (by show ne' < _; simp [g1])]; exact val_end g1
  have l2 : ne' + 2 = (E1 ++ e ++ [u'] ++ [d1]).length := by simp [g1]; omega
  have app2 : ∀ e', E1 ++ e ++ [u'] ++ [d1] ++ e' = env ++ ([m] ++ (e ++ [u', d1] ++ e')) := by intro e'; rw [← app1]; simp
  generalize E1 ++ e ++ [u'] ++ [d1] = E2 at *
  refine addCh_ok us.dropLast rs.tail (.lit 0) (ne' + 2) [] E2 (by simp [lu, lr]) l2 (bd_dropLast fun z hz => (g3 z hz).more (by omega)) (bd_tail fun z hz => (g2 z hz).more (by omega)) trivial (fun z hz => by cases hz) (by rw [List.map_dropLast, mu]; exact wds_dropLast g9) (by rw [List.map_tail, mr]; exact wds_tail g8) (.inl rfl) fun e2 ss k1 ne2 h => ?_
  rw [List.map_dropLast, List.map_tail, mu, mr] at h
  obtain ⟨h1, h2, h3, h4, S, h5, h6, h7, h8⟩ := h
  rw [List.map_nil, List.nil_append] at h5
  simp only [Int.one_mul, val_lit, Int.add_zero, List.length_dropLast, lu] at h7 h8
  have lss : ss.length = n - 1 := by rw [map_len h5, h7]
  have sne : S ≠ [] := fun h => by rw [h] at h7; simp at h7; omega
  have hle2 : ne' + 2 ≤ ne2 := by rw [h1, l2]; simp
  -- the last words
  intro c2 hc2 d2 hd2
  have vT2 : ∀ e', T.map (·.val (E2 ++ e')) = V := fun e' => by rw [vals_more (by rw [← l2]; exact fun z hz => (hT z hz).more (by omega)), mT2]
  have tl : (T.getLastD (.lit 0)).val (E2 ++ e2) = V.getLastD 0 := by rw [last_val, vT2]
  obtain ⟨wc2, bd2, ec2⟩ := add_facts (x := T.getLastD (.lit 0)) (y := .lit 0) (c := k1) (by rw [← h1]; exact (last_bd hT).more (by omega)) trivial (by rw [← h1]; exact h2) (by rw [tl]; exact wd_last wT) wd0 h4 hc2 hd2
  rw [tl] at ec2
  simp only [val_lit, Int.add_zero] at ec2
  have e3 : E2 ++ e2 ++ [c2] ++ [d2] = E2 ++ (e2 ++ [c2, d2]) := by simp
  have e3' : E2 ++ e2 ++ [c2] ++ [d2] = E2 ++ e2 ++ [c2, d2] := by simp
  have l3 : (E2 ++ e2 ++ [c2] ++ [d2]).length = ne2 + 2 := by simp [h1]; omega
  have tl1 : (T.dropLast.getLastD (.lit 0)).val (E2 ++ e2 ++ [c2] ++ [d2]) = V.dropLast.getLastD 0 := by rw [last_val, List.map_dropLast, e3, vT2]
  have sl : (ss.getLastD (.lit 0)).val (E2 ++ e2 ++ [c2] ++ [d2]) = S.getLastD 0 := by rw [last_val, e3', vals_more (by rw [← h1]; exact h3), h5]
  have vc2 : (SI.var ne2).val (E2 ++ e2 ++ [c2] ++ [d2]) = c2 := by rw [val_more (x := .var ne2) (by show ne2 < _; simp [h1])]; exact val_end h1
  have vu2 : (SI.var ne').val (E2 ++ e2 ++ [c2] ++ [d2]) = u' := by rw [e3, val_more (x := .var ne') (by show ne' < _; omega), vu']
  have ms : ss.map (·.val (E2 ++ e2 ++ [c2] ++ [d2])) = S := by rw [e3', vals_more (by rw [← h1]; exact h3), h5]
  have app3 : ∀ e', E2 ++ e2 ++ [c2] ++ [d2] ++ e' = env ++ ([m] ++ (e ++ [u', d1] ++ (e2 ++ [c2, d2] ++ e'))) := by intro e'; rw [← app2]; simp
  generalize E2 ++ e2 ++ [c2] ++ [d2] = E3 at *
  intro s hs k2 hk2
  obtain ⟨ws, bk2, es⟩ := add_facts (x := T.dropLast.getLastD (.lit 0)) (y := ss.getLastD (.lit 0)) (c := .lit 0) (by rw [l3]; exact (last_bd (bd_dropLast hT)).more (by omega)) (by rw [l3]; exact (last_bd h3).more (by omega)) trivial (by rw [tl1]; exact wd_last (wds_dropLast wT)) (by rw [sl]; exact wd_last h6) (.inl rfl) hs hk2
  rw [tl1, sl] at es
  simp only [val_lit, Int.add_zero] at es
  have e4 : E3 ++ [s] ++ [k2] = E3 ++ [s, k2] := by simp
  have vu3 : (SI.var ne').val (E3 ++ [s] ++ [k2]) = u' := by rw [e4, val_more (x := .var ne') (by show ne' < _; omega), vu2]
  have vc3 : (SI.var ne2).val (E3 ++ [s] ++ [k2]) = c2 := by rw [e4, val_more (x := .var ne2) (by show ne2 < _; omega), vc2]
  have vk3 : (SI.var (ne2 + 3)).val (E3 ++ [s] ++ [k2]) = k2 := val_end (by simp; omega)
  have vs3 : (SI.var (ne2 + 2)).val (E3 ++ [s] ++ [k2]) = s := by rw [val_more (x := .var (ne2 + 2)) (by show ne2 + 2 < _; simp; omega)]; exact val_end l3.symm
  have l4 : (E3 ++ [s] ++ [k2]).length = ne2 + 4 := by simp; omega
  intro f hf d3 hd3
  obtain ⟨wf, bd3, ef⟩ := add_facts (x := .var ne') (y := .var ne2) (c := .var (ne2 + 3)) (by rw [l4]; show ne' < _; omega) (by rw [l4]; show ne2 < _; omega) (by rw [l4]; show ne2 + 3 < _; omega) (by rw [vu3]; exact wu') (by rw [vc3]; exact wc2) (by rw [vk3]; exact bk2) hf hd3
  rw [vu3, vc3, vk3] at ef
  have e5 : E3 ++ [s] ++ [k2] ++ [f] ++ [d3] = E3 ++ [s, k2, f, d3] := by simp
  have hR : (ss.dropLast ++ [SI.var (ne2 + 2), SI.var (ne2 + 4)]).map (·.val (E3 ++ [s] ++ [k2] ++ [f] ++ [d3])) = S.dropLast ++ [s, f] := by
    rw [List.map_append, List.map_cons, List.map_cons, List.map_nil]
    congr 1
    · rw [e5, List.map_dropLast, vals_more (fun z hz => by rw [l3]; exact (h3 z hz).more (by omega)), ms]
    · congr 1
      · rw [show E3 ++ [s] ++ [k2] ++ [f] ++ [d3] = E3 ++ [s] ++ [k2] ++ [f, d3] by simp, val_more (x := .var (ne2 + 2)) (by rw [l4]; show ne2 + 2 < _; omega), vs3]
      · congr 1
        rw [val_more (x := .var (ne2 + 4)) (by show ne2 + 4 < _; simp; omega)]
        exact val_end l4.symm
  have wR : Wds (S.dropLast ++ [s, f]) := Wds.append (wds_dropLast h6) (wds_cons ws (wds_cons wf wds_nil))
  have lR : (S.dropLast ++ [s, f]).length = n := by simp [h7]; omega
  have hD0 : D.headD 0 = 0 := low_word hn lq lV g10 g8 hqi.2 hm g12
  have hval : BW * (vw (S.dropLast ++ [s, f]) + BW ^ n * (d1 + d2 + d3)) = vw V + m * vw q := p2_val hn lV g10 g11 h7 hD0 g12 h8 eu' ec2 es ef
  have hd0 : d1 + d2 + d3 = 0 := by
    have bR := vw_bounds wR
    have bq := vw_bounds hq.wd
    have hmq : m * vw q ≤ (BW - 1) * vw q := Int.mul_le_mul_of_nonneg_right (by have := wm.2; simp only [BW]; omega) bq.1
    have hlt : BW * (vw (S.dropLast ++ [s, f]) + BW ^ n * (d1 + d2 + d3)) < BW * BW ^ n := by
      have e : BW * BW ^ n = BW ^ (n + 1) := by rw [Int.pow_succ, Int.mul_comm]
      rw [hval, e]
      omega
    have := Int.lt_of_mul_lt_mul_left hlt (by decide)
    have hp := bw_pos n
    rcases bd1 with h | h <;> rcases bd2 with h' | h' <;> rcases bd3 with h'' | h'' <;> rw [h, h', h''] at this ⊢ <;> first | rfl | (exfalso; generalize BW ^ n = W at *; omega)
  rw [hd0, Int.mul_zero, Int.add_zero] at hval
  have app4 : E3 ++ [s] ++ [k2] ++ [f] ++ [d3] = env ++ ([m] ++ (e ++ [u', d1] ++ (e2 ++ [c2, d2] ++ [s, k2, f, d3]))) := by rw [← app3]; exact e5
  rw [app4] at hR ⊢
  refine hk _ _ (ne2 + 6) ⟨by rw [← app4, e5]; simp; omega, fun z hz => ?_, by simp [lss]; omega, by rw [hR]; exact wR, m, wm, by rw [hR]; exact hval⟩
  rcases List.mem_append.1 hz with hz | hz
  · exact (bd_dropLast h3 z hz).more (by omega)
  · simp at hz
    rcases hz with rfl | rfl
    · show ne2 + 2 < ne2 + 6; omega
    · show ne2 + 4 < ne2 + 6; omega

/-! ### all rounds -/
def mulN (q : List Int) (qi : Int) (ys : List SI) (k : List SI → Nat → Tree) : List SI → List SI → Nat → Tree
  | [], ts, ne => k ts ne
  | x :: xs, ts, ne => p1N x ys ts ne fun T ne' => p2 q qi T ne' fun ts' ne2 => mulN q qi ys k xs ts' ne2
def mulA (q : List Int) (qi : Int) (xs ys : List SI) (ne : Nat) (k : List SI → Nat → Tree) : Tree :=
  p1F (xs.headD (.lit 0)) ys ne fun T ne' => p2 q qi T ne' fun ts ne2 => mulN q qi ys (fun os ne3 => redT q os ne3 k) xs.tail ts ne2

/-- What remains to be multiplied. -/
def MulI (q X Y t l : List Int) : Prop := vw l < 2 * vw q ∧ ∃ M, BW ^ X.length * vw l = vw t + vw X * vw Y + M * vw q
theorem round_bound {x y t Q : Int} (hx : Wd x) (hy : 0 ≤ y) (hyq : y < Q) (ht : t < 2 * Q) : t + x * y < (BW + 1) * Q := by
  have h1 : x * y ≤ (BW - 1) * y := Int.mul_le_mul_of_nonneg_right (by have := hx.2; simp only [BW]; omega) hy
  have h2 : (BW - 1) * y ≤ (BW - 1) * Q := Int.mul_le_mul_of_nonneg_left (by omega) (by simp only [BW]; decide)
  have e : (BW + 1) * Q = (BW - 1) * Q + 2 * Q := by
    rw [Int.add_mul, Int.sub_mul]
    omega
  omega
theorem room {n : Nat} {q : List Int} (hq : WQ n q) {T : Int} (h : T < (BW + 1) * vw q) : T + (BW - 1) * vw q < BW ^ (n + 1) := by
  have e : (BW + 1) * vw q + (BW - 1) * vw q = BW * (2 * vw q) := by
    rw [Int.add_mul, Int.sub_mul, ← Int.mul_assoc, Int.mul_comm BW 2, Int.mul_assoc]
    omega
  have : BW * (2 * vw q) ≤ BW * BW ^ n := Int.mul_le_mul_of_nonneg_left hq.low (by decide)
  rw [Int.pow_succ, Int.mul_comm _ BW]
  omega
theorem less_two {T m Q l : Int} (hT : T < (BW + 1) * Q) (hm : Wd m) (hQ : 0 ≤ Q) (h : BW * l = T + m * Q) : l < 2 * Q := by
  have h1 : m * Q ≤ (BW - 1) * Q := Int.mul_le_mul_of_nonneg_right (by have := hm.2; simp only [BW]; omega) hQ
  have e : (BW + 1) * Q + (BW - 1) * Q = BW * (2 * Q) := by
    rw [Int.add_mul, Int.sub_mul, ← Int.mul_assoc, Int.mul_comm BW 2, Int.mul_assoc]
    omega
  have : BW * l < BW * (2 * Q) := by omega
  exact Int.lt_of_mul_lt_mul_left this (by decide)

theorem mulN_ok (hA : PAsk A) (hq : WQ n q) {qi : Int} (hqi : QInv q qi) (hn : 2 ≤ n) {ys : List SI} {k : List SI → Nat → Tree} {Y : List Int} (ly : ys.length = n) (wY : Wds Y) (hY : vw Y < vw q) : ∀ (xs ts : List SI) (ne : Nat) (env : List Int), ts.length = n → ne = env.length → (∀ y ∈ ys, Bd ne y) → (∀ x ∈ xs, Bd ne x) → (∀ t ∈ ts, Bd ne t) →
    ys.map (·.val env) = Y → Wds (xs.map (·.val env)) → Wds (ts.map (·.val env)) → vw (ts.map (·.val env)) < 2 * vw q →
    (∀ (e : List Int) (os : List SI) (ne' : Nat), ROk (MulI q (xs.map (·.val env)) Y (ts.map (·.val env))) env e os ne' n → (k os ne').holds A (env ++ e)) → (mulN q qi ys k xs ts ne).holds A env
  | [], ts, ne, env, lt, hne, _, _, ht, _, _, wt, hlt, hk => by
    have := hk [] ts ne ⟨by simpa using hne, ht, lt, by simpa using wt, by
      rw [List.append_nil]
      exact ⟨hlt, 0, by simp [vw]⟩⟩
    simp only [List.append_nil] at this
    exact this
  | x :: xs, ts, ne, env, lt, hne, hy, hx, ht, kY, wx, wt, hlt, hk => by
    obtain ⟨wx0, wxs⟩ := Wds.tail (by simpa using wx)
    have bY := vw_bounds wY
    refine p1N_ok hA (by omega) ly lt hne (hx x (List.mem_cons_self ..)) hy ht wx0 (by rw [kY]; exact wY) wt fun e T ne' h => ?_
    rw [kY] at h
    have hv := h.val
    have hTb := round_bound wx0 bY.1 hY hlt
    have hle : ne ≤ ne' := by rw [h.ne, hne]; simp
    refine p2_ok hA hq hqi hn h.len h.ne h.ob h.wd (by rw [hv]; exact room hq hTb) fun e2 os ne2 g => ?_
    obtain ⟨m, wm, em⟩ := g.val
    rw [hv] at em
    have hos : vw (os.map (·.val (env ++ e ++ e2))) < 2 * vw q := less_two hTb wm (vw_bounds hq.wd).1 em
    have hle2 : ne' ≤ ne2 := by rw [g.ne, h.ne]; simp
    have eE : env ++ e ++ e2 = env ++ (e ++ e2) := by simp
    have mx : xs.map (·.val (env ++ e ++ e2)) = xs.map (·.val env) := by rw [eE]; exact vals_more fun z hz => by rw [← hne]; exact hx z (List.mem_cons_of_mem _ hz)
    have my : ys.map (·.val (env ++ e ++ e2)) = Y := by rw [eE, vals_more (by rw [← hne]; exact hy), kY]
    refine mulN_ok hA hq hqi hn ly wY hY xs os ne2 (env ++ e ++ e2) g.len g.ne (fun z hz => (hy z hz).more (by omega)) (fun z hz => (hx z (List.mem_cons_of_mem _ hz)).more (by omega)) g.ob my (by rw [mx]; exact wxs) g.wd hos fun e3 rs ne3 f => ?_
    rw [mx] at f
    have e6 : env ++ e ++ e2 ++ e3 = env ++ (e ++ e2 ++ e3) := by simp
    obtain ⟨f1, M, f2⟩ := f.val
    have := hk (e ++ e2 ++ e3) rs ne3 ⟨by rw [← e6]; exact f.ne, f.ob, f.len, by rw [← e6]; exact f.wd, ?_⟩
    · rw [← e6] at this; exact this
    rw [← e6]
    refine ⟨f1, m + BW * M, ?_⟩
    rw [List.map_cons, List.length_cons, Int.pow_succ, Int.mul_comm (BW ^ _) BW, Int.mul_assoc, f2, Int.mul_add, Int.mul_add, em]
    simp only [vw]
    rw [Int.add_mul, Int.add_mul, ← Int.mul_assoc, ← Int.mul_assoc]
    simp only [BW]
    omega

/-- The product, in Montgomery's form. -/
def MulM (n : Nat) (q X Y r : List Int) : Prop := r.length = n ∧ Wds r ∧ vw r < vw q ∧ vw q ∣ vw r * BW ^ n - vw X * vw Y
theorem mulA_ok (hW : WAsk A n q) (hA : PAsk A) (hq : WQ n q) {qi : Int} (hqi : QInv q qi) (hn : 2 ≤ n) {xs ys : List SI} {ne : Nat} {env : List Int} {k : List SI → Nat → Tree} (lx : xs.length = n) (ly : ys.length = n) (hne : ne = env.length) (hx : ∀ x ∈ xs, Bd ne x) (hy : ∀ y ∈ ys, Bd ne y)
    (wx : Wds (xs.map (·.val env))) (wy : Wds (ys.map (·.val env))) (hY : vw (ys.map (·.val env)) < vw q)
    (hk : ∀ (e : List Int) (os : List SI) (ne' : Nat), ROk (MulM n q (xs.map (·.val env)) (ys.map (·.val env))) env e os ne' n → (k os ne').holds A (env ++ e)) : (mulA q qi xs ys ne k).holds A env := by
  have bY := vw_bounds wy
  match xs, lx with
  | [], h => simp at h; omega
  | x :: xs, lx =>
    obtain ⟨wx0, wxs⟩ := Wds.tail (by simpa using wx)
    generalize hYv : ys.map (·.val env) = Y at *
    refine p1F_ok hA (by omega) ly hne (hx x (List.mem_cons_self ..)) hy wx0 (by rw [hYv]; exact wy) fun e T ne' h => ?_
    rw [hYv] at h
    have hv := h.val
    have hv : vw (T.map (·.val (env ++ e))) = x.val env * vw Y := hv
    have hTb : x.val env * vw Y < (BW + 1) * vw q := by
      have := round_bound (t := 0) wx0 bY.1 hY (by omega)
      omega
    have hle : ne ≤ ne' := by rw [h.ne, hne]; simp
    refine p2_ok hA hq hqi hn h.len h.ne h.ob h.wd (by rw [hv]; exact room hq hTb) fun e2 ts ne2 g => ?_
    obtain ⟨m, wm, em⟩ := g.val
    rw [hv] at em
    have hts : vw (ts.map (·.val (env ++ e ++ e2))) < 2 * vw q := less_two hTb wm (vw_bounds hq.wd).1 em
    have hle2 : ne' ≤ ne2 := by rw [g.ne, h.ne]; simp
    have eE : env ++ e ++ e2 = env ++ (e ++ e2) := by simp
    have mx : xs.map (·.val (env ++ e ++ e2)) = xs.map (·.val env) := by rw [eE]; exact vals_more fun z hz => by rw [← hne]; exact hx z (List.mem_cons_of_mem _ hz)
    have my : ys.map (·.val (env ++ e ++ e2)) = Y := by rw [eE, vals_more (by rw [← hne]; exact hy), hYv]
    refine mulN_ok hA hq hqi hn ly wy hY xs ts ne2 (env ++ e ++ e2) g.len g.ne (fun z hz => (hy z hz).more (by omega)) (fun z hz => (hx z (List.mem_cons_of_mem _ hz)).more (by omega)) g.ob my (by rw [mx]; exact wxs) g.wd hts fun e3 os ne3 f => ?_
    rw [mx] at f
    obtain ⟨f1, M, f2⟩ := f.val
    refine redT_ok hW hq f.len f.ne f.ob f.wd fun e4 rs ne4 r => ?_
    have e6 : env ++ e ++ e2 ++ e3 ++ e4 = env ++ (e ++ e2 ++ e3 ++ e4) := by simp
    obtain ⟨r1, r2, r3⟩ := r.val
    have := hk (e ++ e2 ++ e3 ++ e4) rs ne4 ⟨by rw [← e6]; exact r.ne, r.ob, r.len, by rw [← e6]; exact r.wd, ?_⟩
    · rw [← e6] at this; exact this
    rw [← e6]
    have bo := vw_bounds f.wd
    refine ⟨by rw [List.length_map, r.len], r2, by rw [r3]; split <;> omega, ?_⟩
    -- the equation
    have key : BW ^ n * vw (os.map (·.val (env ++ e ++ e2 ++ e3))) = vw ((x :: xs).map (·.val env)) * vw Y + (m + BW * M) * vw q := by
      have hp : BW ^ n = BW * BW ^ (xs.map (·.val env)).length := by
        rw [Int.mul_comm, ← Int.pow_succ]
        congr 1
        simp at lx ⊢
        omega
      rw [hp, Int.mul_assoc, f2, Int.mul_add, Int.mul_add, em]
      simp only [List.map_cons, vw]
      rw [Int.add_mul, Int.add_mul, ← Int.mul_assoc, ← Int.mul_assoc]
      simp only [BW]
      omega
    have hd : vw q ∣ BW ^ n * vw (os.map (·.val (env ++ e ++ e2 ++ e3))) - vw ((x :: xs).map (·.val env)) * vw Y := ⟨m + BW * M, by rw [key, Int.mul_comm (vw q)]; omega⟩
    rw [r3]
    split
    · rw [Int.mul_comm]; exact hd
    · rw [Int.sub_mul, Int.mul_comm (vw (os.map _))]
      have : ∀ a b c : Int, a - b - c = a - c - b := by intro a b c; omega
      rw [this]
      exact Int.dvd_sub hd (Int.dvd_mul_right _ _)
end
end Eng
end
section
/-
  Numbers by words: the laws on Montgomery's products of two, as trees of facts, for any number of words: an order turned, one as a factor, a square.
-/
namespace Eng
open Go

section
variable {A : Ask} {n : Nat} {q : List Int}

theorem vw_one (t : Int) : vw [t] = t := by simp [vw]
/-- Two products of the same number are the same words. -/
theorem mul_eq {X Y X' Y' r s : List Int} (hq1 : vw q % 2 = 1) (hr : MulM n q X Y r) (hs : MulM n q X' Y' s) (he : vw q ∣ vw X * vw Y - vw X' * vw Y') : r = s := by
  obtain ⟨lr, wr, br, dr⟩ := hr
  obtain ⟨ls, ws, bs, ds⟩ := hs
  refine mont_one (n := n) (a := [vw X' * vw Y']) hq1 ?_ (by rw [vw_one]; exact ds) wr ws (lr.trans ls.symm) br bs
  rw [vw_one]
  have := Int.dvd_add dr he
  have e : vw r * BW ^ n - vw X * vw Y + (vw X * vw Y - vw X' * vw Y') = vw r * BW ^ n - vw X' * vw Y' := by omega
  rw [e] at this; exact this
theorem mul_turn {X Y r s : List Int} (hq1 : vw q % 2 = 1) (hr : MulM n q X Y r) (hs : MulM n q Y X s) : r = s :=
  mul_eq hq1 hr hs (by rw [Int.mul_comm (vw Y), Int.sub_self]; exact Int.dvd_zero _)
theorem mul_same {X Y r s : List Int} (hq1 : vw q % 2 = 1) (hr : MulM n q X Y r) (hs : MulM n q X Y s) : r = s :=
  mul_eq hq1 hr hs (by rw [Int.sub_self]; exact Int.dvd_zero _)
/-- One as a factor. -/
theorem mul_one {X one r : List Int} (hq1 : vw q % 2 = 1) (ho : vw q ∣ vw one - BW ^ n) (lX : X.length = n) (wX : Wds X) (bX : vw X < vw q) (hr : MulM n q X one r) : r = X := by
  obtain ⟨lr, wr, br, dr⟩ := hr
  refine mont_one (n := n) (a := [vw X * vw one]) hq1 (by rw [vw_one]; exact dr) ?_ wr wX (lr.trans lX.symm) br bX
  rw [vw_one, ← Int.mul_sub]
  have := Int.dvd_neg.2 ho
  have e : -(vw one - BW ^ n) = BW ^ n - vw one := by omega
  rw [e] at this
  exact Int.dvd_mul_of_dvd_right this

/-- What is asked of the products. -/
structure XAsk (A : Ask) (n : Nat) (q : List Int) : Prop where
  pre30 : ∀ xs, Wds xs → vw (xs.drop (2 * n)) < vw q → A.pre 30 xs
  mulE : ∀ xs ys, A.post 30 xs ys → MulM n q ((xs.drop n).take n) (xs.drop (2 * n)) ys
  pre31 : ∀ xs, Wds xs → vw (xs.drop n) < vw q → A.pre 31 xs
  mul : ∀ xs ys, A.post 31 xs ys → MulM n q (xs.take n) (xs.drop n) ys
  pre32 : ∀ xs, Wds xs → vw (xs.drop n) < vw q → A.pre 32 xs
  sqE : ∀ xs ys, A.post 32 xs ys → MulM n q (xs.drop n) (xs.drop n) ys
  pre33 : ∀ xs, Wds xs → vw xs < vw q → A.pre 33 xs
  sq : ∀ xs ys, A.post 33 xs ys → MulM n q xs xs ys

theorem mul_step (hX : XAsk A n q) {xs ys : List SI} {t : Tree} {env a b : List Int} (hx : xs.map (·.val env) = a) (hy : ys.map (·.val env) = b) (la : a.length = n) (wa : Wds a) (wb : Wds b) (hb : vw b < vw q)
    (k : ∀ r, MulM n q a b r → t.holds A (env ++ r)) : (Tree.hav 31 (xs ++ ys) n t).holds A env := by
  refine ⟨?_, fun r _ h => ?_⟩
  · rw [vals_app hx hy]
    exact hX.pre31 _ (wa.append wb) (by rw [drop_app la]; exact hb)
  · rw [vals_app hx hy] at h
    have h := hX.mul _ _ h
    rw [take_app la, drop_app la] at h
    exact k r h
theorem sq_step (hX : XAsk A n q) {xs : List SI} {t : Tree} {env a : List Int} (hx : xs.map (·.val env) = a) (wa : Wds a) (hb : vw a < vw q)
    (k : ∀ r, MulM n q a a r → t.holds A (env ++ r)) : (Tree.hav 33 xs n t).holds A env := by
  refine ⟨by rw [hx]; exact hX.pre33 _ wa hb, fun r _ h => ?_⟩
  rw [hx] at h
  exact k r (hX.sq _ _ h)
theorem eqs_step {xs ys : List SI} {t : Tree} {env a b : List Int} (hx : xs.map (·.val env) = a) (hy : ys.map (·.val env) = b) (la : a.length = n) (k : t.holds A (env ++ [b01 (decide (a = b))])) : (Tree.dfn (.eqs n) (xs ++ ys) t).holds A env := by
  intro x hx'
  have hx' : x = b01 ((((xs ++ ys).map (·.val env)).take n) == (((xs ++ ys).map (·.val env)).drop n)) := hx'
  rw [vals_app hx hy, take_app la, drop_app la, beq_dec] at hx'
  subst hx'
  exact k
theorem vals_mid {env r e : List Int} {i m : Nat} (hi : i = env.length) (hm : m = r.length) : (vr i m).map (·.val (env ++ r ++ e)) = r := by
  rw [vals_more (vr_bd (by simp; omega)), vals_new hi hm]

def mulW (n : Nat) : Tree := .hav 30 (List.replicate n (.lit 0) ++ (vr 0 n ++ vr n n)) n (.fin (enc (vr (2 * n) n)) st0)
theorem mulW_ok (hX : XAsk A n q) {env : List Int} (hl : env.length = 2 * n) (hw : Wds env) (hb : vw (env.drop n) < vw q)
    (hk : ∀ (e : List Int) (os : List SI), MulM n q (env.take n) (env.drop n) (os.map (·.val (env ++ e))) → A.fin (enc os) st0 (env ++ e)) : (mulW n).holds A env := by
  obtain ⟨h1, h2⟩ := two_vr hl
  have hz : (List.replicate n (SI.lit 0)).map (·.val env) = List.replicate n 0 := by simp [SI.val]
  have e2 : env.take n ++ env.drop n = env := List.take_append_drop ..
  have lz : (List.replicate n (0 : Int)).length = n := by simp
  have d2 : (List.replicate n (0 : Int) ++ env).drop (2 * n) = env.drop n := by
    rw [Nat.two_mul, ← List.drop_drop, drop_app lz]
  refine ⟨?_, fun r lr h => ?_⟩
  · rw [vals_app hz (vals_app h1 h2), e2]
    refine hX.pre30 _ ?_ (by rw [d2]; exact hb)
    refine Wds.append (fun x hx => ?_) hw
    rw [List.eq_of_mem_replicate hx]
    exact ⟨by decide, by decide⟩
  · rw [vals_app hz (vals_app h1 h2), e2] at h
    have h := hX.mulE _ _ h
    rw [drop_app lz, d2] at h
    exact hk r _ (by rw [vals_new hl.symm lr.symm]; exact h)
def sqW (n : Nat) : Tree := .hav 32 (List.replicate n (.lit 0) ++ vr 0 n) n (.fin (enc (vr n n)) st0)
theorem sqW_ok (hX : XAsk A n q) {env : List Int} (hl : env.length = n) (hw : Wds env) (hb : vw env < vw q)
    (hk : ∀ (e : List Int) (os : List SI), MulM n q env env (os.map (·.val (env ++ e))) → A.fin (enc os) st0 (env ++ e)) : (sqW n).holds A env := by
  have h1 := one_vr hl
  have hz : (List.replicate n (SI.lit 0)).map (·.val env) = List.replicate n 0 := by simp [SI.val]
  have lz : (List.replicate n (0 : Int)).length = n := by simp
  refine ⟨?_, fun r lr h => ?_⟩
  · rw [vals_app hz h1]
    refine hX.pre32 _ ?_ (by rw [drop_app lz]; exact hb)
    refine Wds.append (fun x hx => ?_) hw
    rw [List.eq_of_mem_replicate hx]
    exact ⟨by decide, by decide⟩
  · rw [vals_app hz h1] at h
    have h := hX.sqE _ _ h
    rw [drop_app lz] at h
    exact hk r _ (by rw [vals_new hl.symm lr.symm]; exact h)

def lawTurnT (n : Nat) (q one : List Int) : Tree :=
  chkT q (vr 0 n) (2 * n) (chkT q (vr n n) (2 * n + 1) (.hav 31 (vr 0 n ++ vr n n) n (.hav 31 (vr n n ++ vr 0 n) n (.dfn (.eqs n) (vr (2 * n + 2) n ++ vr (3 * n + 2) n)
    (.br (4 * n + 2) (.hav 31 (vr 0 n ++ ls one) n (.dfn (.eqs n) (vr (4 * n + 3) n ++ vr 0 n) (.fin (enc [.var (5 * n + 3)]) st0))) (.fin (enc [.lit 0]) st0))))))
theorem lawTurnT_ok (hA : WAsk A n q) (hX : XAsk A n q) (hq : WQ n q) (hq1 : vw q % 2 = 1) {one : List Int} (wo : Wds one) (bo : vw one < vw q) (ho : vw q ∣ vw one - BW ^ n) {env : List Int} (hl : env.length = 2 * n) (hw : Wds env)
    (hfin : ∀ (e : List Int) (o : SI), o.val (env ++ e) = 1 → A.fin (enc [o]) st0 (env ++ e)) : (lawTurnT n q one).holds A env := by
  obtain ⟨h1, h2⟩ := two_vr hl
  have la : (env.take n).length = n := by simp; omega
  have lb : (env.drop n).length = n := by simp; omega
  have wa := hw.take n
  have wb := hw.drop n
  generalize env.take n = a at *
  generalize env.drop n = b at *
  refine chkT_ok hA hq vr_length hl.symm (by rw [h1]; exact wa) (fun e => hfin e (.lit 1) rfl) fun ha v => ?_
  rw [h1] at ha
  have k2 : (vr n n).map (·.val (env ++ [v])) = b := by rw [vals_more (vr_bd (by omega)), h2]
  refine chkT_ok hA hq vr_length (by simp [hl]) (by rw [k2]; exact wb) (fun e => by rw [List.append_assoc]; exact hfin _ (.lit 1) rfl) fun hb v' => ?_
  rw [k2] at hb
  have up : ∀ e, (vr 0 n).map (·.val (env ++ e)) = a ∧ (vr n n).map (·.val (env ++ e)) = b := fun e => ⟨by rw [vals_more (vr_bd (by omega)), h1], by rw [vals_more (vr_bd (by omega)), h2]⟩
  rw [List.append_assoc env]
  generalize hE : [v] ++ [v'] = E
  have lE : E.length = 2 := by rw [← hE]; rfl
  refine mul_step hX (up _).1 (up _).2 la wa wb hb fun r hr => ?_
  rw [List.append_assoc]
  refine mul_step hX (up _).2 (up _).1 lb wb wa ha fun s hs => ?_
  have ers := mul_turn hq1 hr hs
  subst ers
  have lr := hr.1
  have e1 : (vr (2 * n + 2) n).map (·.val (env ++ (E ++ r) ++ r)) = r := by
    rw [← List.append_assoc env]; exact vals_mid (by simp; omega) lr.symm
  have e2 : (vr (3 * n + 2) n).map (·.val (env ++ (E ++ r) ++ r)) = r := vals_new (by simp; omega) lr.symm
  refine eqs_step e1 e2 lr ?_
  rw [decide_eq_true rfl]
  refine ⟨fun _ => ?_, fun h => ?_⟩
  · rw [List.append_assoc env, List.append_assoc env]
    refine mul_step hX (up _).1 ls_vals la wa wo bo fun s hs => ?_
    have es := mul_one hq1 ho la wa ha hs
    subst es
    have e3 : (vr (4 * n + 3) n).map (·.val (env ++ ((E ++ r) ++ r ++ [b01 true]) ++ s)) = s := vals_new (by simp; omega) la.symm
    rw [List.append_assoc env] at e3 ⊢
    refine eqs_step e3 (up _).1 la ?_
    rw [decide_eq_true rfl, List.append_assoc env]
    refine hfin _ _ ?_
    rw [← List.append_assoc env, val_end (by simp; omega)]
    rfl
  · rw [at_end (by simp; omega)] at h
    cases h

def lawSqT (n : Nat) (q one : List Int) : Tree :=
  chkT q (vr 0 n) n (.hav 33 (vr 0 n) n (.hav 31 (vr 0 n ++ vr 0 n) n (.dfn (.eqs n) (vr (n + 1) n ++ vr (2 * n + 1) n)
    (.br (3 * n + 1) (.hav 33 (ls one) n (.dfn (.eqs n) (vr (3 * n + 2) n ++ ls one) (.br (4 * n + 2) (.dfn (.eqs n) (ls one ++ List.replicate n (.lit 0)) (.dfn (.cmp .neq) [.var (4 * n + 3), .lit 1] (.fin (enc [.var (4 * n + 4)]) st0)))
      (.fin (enc [.lit 0]) st0)))) (.fin (enc [.lit 0]) st0)))))
theorem lawSqT_ok (hA : WAsk A n q) (hX : XAsk A n q) (hq : WQ n q) (hq1 : vw q % 2 = 1) {one : List Int} (lo : one.length = n) (wo : Wds one) (bo : vw one < vw q) (ho : vw q ∣ vw one - BW ^ n) (hz : one ≠ List.replicate n 0) {env : List Int} (hl : env.length = n) (hw : Wds env)
    (hfin : ∀ (e : List Int) (o : SI), o.val (env ++ e) = 1 → A.fin (enc [o]) st0 (env ++ e)) : (lawSqT n q one).holds A env := by
  have h1 := one_vr hl
  refine chkT_ok hA hq vr_length hl.symm (by rw [h1]; exact hw) (fun e => hfin e (.lit 1) rfl) fun ha v => ?_
  rw [h1] at ha
  have up : ∀ e, (vr 0 n).map (·.val (env ++ e)) = env := fun e => by rw [vals_more (vr_bd (by omega)), h1]
  refine sq_step hX (up _) hw ha fun r hr => ?_
  rw [List.append_assoc]
  refine mul_step hX (up _) (up _) hl hw hw ha fun s hs => ?_
  have ers := mul_same hq1 hr hs
  subst ers
  have lr := hr.1
  have e1 : (vr (n + 1) n).map (·.val (env ++ ([v] ++ r) ++ r)) = r := by
    rw [← List.append_assoc env]; exact vals_mid (by simp; omega) lr.symm
  have e2 : (vr (2 * n + 1) n).map (·.val (env ++ ([v] ++ r) ++ r)) = r := vals_new (by simp; omega) lr.symm
  refine eqs_step e1 e2 lr ?_
  rw [decide_eq_true rfl]
  refine ⟨fun _ => ?_, fun h => ?_⟩
  · rw [List.append_assoc env, List.append_assoc env]
    refine sq_step hX ls_vals wo bo fun s hs => ?_
    have es := mul_one hq1 ho lo wo bo hs
    subst es
    have e3 : (vr (3 * n + 2) n).map (·.val (env ++ (([v] ++ r) ++ r ++ [b01 true]) ++ s)) = s := vals_new (by simp; omega) lo.symm
    rw [List.append_assoc env] at e3 ⊢
    refine eqs_step e3 ls_vals lo ?_
    rw [decide_eq_true rfl]
    refine ⟨fun _ => ?_, fun h => ?_⟩
    · have hzz : ∀ E : List Int, (List.replicate n (SI.lit 0)).map (·.val E) = List.replicate n 0 := fun E => by simp [SI.val]
      refine eqs_step ls_vals (hzz _) lo ?_
      rw [decide_eq_false hz]
      intro x hx
      generalize hG : env ++ (([v] ++ r) ++ r ++ [b01 true] ++ s) ++ [b01 true] = G at *
      have lG : G.length = 4 * n + 3 := by rw [← hG]; simp; omega
      have hv : (SI.var (4 * n + 3)).val (G ++ [b01 false]) = b01 false := val_end lG.symm
      have hx : x = b01 (cmpEv .neq ((SI.var (4 * n + 3)).val (G ++ [b01 false])) 1) := hx
      rw [hv] at hx
      have hx : x = 1 := hx
      have hF := hfin (([v] ++ r) ++ r ++ [b01 true] ++ s ++ [b01 true] ++ [b01 false] ++ [x]) (.var (4 * n + 4))
      have eG : env ++ (([v] ++ r) ++ r ++ [b01 true] ++ s ++ [b01 true] ++ [b01 false] ++ [x]) = G ++ [b01 false] ++ [x] := by rw [← hG]; simp
      rw [eG] at hF
      refine hF ?_
      rw [val_end (by simp; omega), hx]
    · rw [at_end (by simp; omega)] at h
      cases h
  · rw [at_end (by simp; omega)] at h
    cases h
end
end Eng
end
section
/-
  Numbers by words: the opposite, elements of numbers of 64 bits with and without a sign, and the law on them: as trees of facts, for any number of words.
-/
namespace Eng
open Go

section
variable {A : Ask} {n : Nat} {q : List Int}

theorem vw_zeros : ∀ k : Nat, vw (List.replicate k 0) = 0
  | 0 => rfl
  | k + 1 => by rw [List.replicate_succ]; show 0 + BW * vw (List.replicate k 0) = 0; rw [vw_zeros k]; simp
theorem wds_zeros (k : Nat) : Wds (List.replicate k 0) := fun x hx => by rw [List.eq_of_mem_replicate hx]; exact ⟨by decide, by decide⟩
theorem lz_vals {E : List Int} (k : Nat) : (List.replicate k (SI.lit 0)).map (·.val E) = List.replicate k 0 := by simp [SI.val]
theorem vw_all : ∀ {l : List Int}, Wds l → (vw l = 0 ↔ ∀ x ∈ l, x = 0)
  | [], _ => by simp [vw]
  | x :: l, h => by
    obtain ⟨hx, hl⟩ := Wds.tail h
    have b := vw_bounds hl
    have e : vw (x :: l) = x + BW * vw l := rfl
    have ih := vw_all hl
    rw [e]
    constructor
    · intro h0 y hy
      have h1 : x = 0 ∧ vw l = 0 := by
        have := hx.1
        have hB : BW = 18446744073709551616 := rfl
        rw [hB] at h0
        omega
      rcases List.mem_cons.1 hy with rfl | hy
      · exact h1.1
      · exact ih.1 h1.2 y hy
    · intro ha
      rw [ha x (List.mem_cons_self ..), ih.2 fun y hy => ha y (List.mem_cons_of_mem _ hy)]
      simp

def orCh (k : SI → Nat → Tree) : SI → List SI → Nat → Tree
  | c, x :: xs, ne => .dfn (.bin .or .u64) [c, x] (orCh k (.var ne) xs (ne + 1))
  | c, [], ne => k c ne
theorem orCh_ok {k : SI → Nat → Tree} : ∀ (xs : List SI) (c : SI) (ne : Nat) (env : List Int), ne = env.length → Bd ne c → (∀ x ∈ xs, Bd ne x) → Wd (c.val env) → Wds (xs.map (·.val env)) →
    (∀ (e : List Int) (c' : SI) (ne' : Nat), ne' = (env ++ e).length → Bd ne' c' → (c'.val (env ++ e) = 0 ↔ c.val env = 0 ∧ ∀ y ∈ xs.map (·.val env), y = 0) → (k c' ne').holds A (env ++ e)) → (orCh k c xs ne).holds A env
  | [], c, ne, env, hne, hc, _, _, _, hk => by
    have := hk [] c ne (by simpa using hne) hc (by simp)
    simp only [List.append_nil] at this
    exact this
  | x :: xs, c, ne, env, hne, hc, hx, wc, wx, hk => by
    obtain ⟨wx0, wx⟩ := Wds.tail (by simpa using wx)
    intro v hv
    have hv : v = orr (c.val env) (x.val env) := hv
    have h0 := orr_zero wc wx0
    rw [← hv] at h0
    have vv : (SI.var ne).val (env ++ [v]) = v := val_end hne
    have mx : xs.map (·.val (env ++ [v])) = xs.map (·.val env) := vals_more fun z hz => by rw [← hne]; exact hx z (List.mem_cons_of_mem _ hz)
    refine orCh_ok xs (.var ne) (ne + 1) (env ++ [v]) (by simp [hne]) (show ne < ne + 1 by omega) (fun z hz => (hx z (List.mem_cons_of_mem _ hz)).more (by omega)) (by rw [vv, hv]; exact wd_wrap _) (by rw [mx]; exact wx) fun e c' ne' h1 h2 h3 => ?_
    rw [mx, vv, h0] at h3
    have := hk ([v] ++ e) c' ne' (by rw [h1]; simp) h2 (by
      rw [← List.append_assoc, h3, List.map_cons, List.forall_mem_cons, and_assoc])
    rw [← List.append_assoc] at this
    exact this

/-- The opposite. -/
def NegM (n : Nat) (q X r : List Int) : Prop := r.length = n ∧ Wds r ∧ vw r = if vw X = 0 then 0 else vw q - vw X
def negT (n : Nat) (q : List Int) (xs : List SI) (ne : Nat) : Tree :=
  orCh (fun c ne => .dfn (.cmp .eql) [c, .lit 0] (.br ne (.fin (enc (List.replicate n (.lit 0))) st0) (subCh (fun os _ _ => .fin (enc os) st0) (ls q) xs (.lit 0) (ne + 1) []))) (xs.getLastD (.lit 0)) xs.dropLast.reverse ne
theorem negT_ok (hq : WQ n q) (hn : n ≠ 0) {xs : List SI} {ne : Nat} {env X : List Int} (lx : xs.length = n) (hne : ne = env.length) (hx : ∀ x ∈ xs, Bd ne x) (hX : xs.map (·.val env) = X) (wX : Wds X) (bX : vw X < vw q)
    (hk : ∀ (e : List Int) (os : List SI), NegM n q X (os.map (·.val (env ++ e))) → A.fin (enc os) st0 (env ++ e)) : (negT n q xs ne).holds A env := by
  have lX : X.length = n := by rw [← hX, List.length_map, lx]
  have nX : X ≠ [] := fun h => hn (by rw [← lX, h]; rfl)
  have hsp := last_split nX
  have eL : (xs.getLastD (.lit 0)).val env = X.getLastD 0 := by rw [last_val, hX]
  have eD : xs.dropLast.reverse.map (·.val env) = X.dropLast.reverse := by rw [List.map_reverse, ← hX, List.map_dropLast]
  refine orCh_ok _ _ _ _ hne (last_bd hx) (fun z hz => bd_dropLast hx z (List.mem_reverse.1 hz)) (by rw [eL]; exact wd_last wX) (by rw [eD]; exact wds_rev (wds_dropLast wX)) fun e c ne' h1 h2 h3 => ?_
  have h3 : c.val (env ++ e) = 0 ↔ vw X = 0 := by
    rw [h3, eL, eD, vw_all wX]
    conv => rhs; rw [hsp]
    constructor
    · intro ⟨h, k⟩ y hy
      rcases List.mem_append.1 hy with hy | hy
      · exact k y (List.mem_reverse.2 hy)
      · rw [List.mem_singleton.1 hy]; exact h
    · intro h
      exact ⟨h _ (List.mem_append_right _ (List.mem_singleton.2 rfl)), fun y hy => h y (List.mem_append_left _ (List.mem_reverse.1 hy))⟩
  intro t ht
  have ht : t = b01 (c.val (env ++ e) == 0) := ht
  have vt : (env ++ e ++ [t]).getD ne' 0 = t := at_end h1
  rw [List.append_assoc] at vt ⊢
  refine ⟨fun h => ?_, fun h => ?_⟩
  · rw [vt, ht, b01_one, beq_iff_eq, h3] at h
    refine hk _ _ ?_
    rw [lz_vals]
    exact ⟨by simp, wds_zeros n, by rw [vw_zeros, if_pos h]⟩
  · rw [vt, ht, b01_zero, beq_eq_false_iff_ne, ne_eq, h3] at h
    have mx : xs.map (·.val (env ++ (e ++ [t]))) = X := by rw [vals_more (by rw [← hne]; exact hx), hX]
    refine subCh_ok (ls q) xs (.lit 0) (ne' + 1) [] (env ++ (e ++ [t])) (by simp [ls, hq.len, lx]) (by rw [h1]; simp; omega) (ls_bd) (fun z hz => (hx z hz).more (by rw [h1, hne]; simp; omega)) trivial (fun z hz => by cases hz)
      (by rw [ls_vals]; exact hq.wd) (by rw [mx]; exact wX) (Or.inl rfl) fun e2 os c2 ne2 g => ?_
    obtain ⟨d, g1, g2, g3, g4⟩ := g.val
    rw [ls_vals, mx] at g4
    rw [List.append_assoc]
    refine hk _ _ ?_
    rw [List.append_assoc] at g1 g4
    have gb := g.bit
    rw [List.append_assoc] at gb
    rw [g1]
    have bq := vw_bounds hq.wd
    have bx := vw_bounds wX
    have bd := vw_bounds g2
    have ld : d.length = n := by rw [g3]; simp [ls, hq.len]
    have hlq := hq.len
    rw [hlq] at bq
    rw [ld] at bd
    refine ⟨by simpa using ld, by simpa using g2, ?_⟩
    rw [if_neg h]
    show vw ([] ++ d) = _
    rw [List.nil_append]
    have lls : (ls q).length = n := by simp [ls, hq.len]
    rw [lls] at g4
    have hz : (SI.lit 0).val (env ++ (e ++ [t])) = 0 := rfl
    rw [hz] at g4
    rcases gb with hb | hb <;> rw [hb] at g4
    · rw [Int.mul_zero] at g4; omega
    · rw [Int.mul_one] at g4; omega

/-! ### numbers with a sign -/
def I63 (x : Int) : Prop := -9223372036854775808 < x ∧ x < 9223372036854775808
def ab (x : Int) : Int := if x < 0 then -x else x
def sg (x : Int) : Int := if x < 0 then -1 else 0
theorem fit64 {y : Int} (h : -9223372036854775808 ≤ y ∧ y < 9223372036854775808) : IntKind.i64.wrap y = y := (fits_iff .i64 y).2 ⟨by simp [kMin]; omega, by simp [kMax]; omega⟩
theorem fitu64 {y : Int} (h : Wd y) : IntKind.u64.wrap y = y := (fits_iff .u64 y).2 ⟨by simp [kMin]; exact h.1, by have := h.2; simp [kMax]; omega⟩
theorem shr63 {x : Int} (h : I63 x) : binEv .shr .i64 x 63 = sg x := by
  show Int.fdiv x (2 ^ (min (63 : Int).toNat 64)) = _
  rw [show (2 : Int) ^ (min (63 : Int).toNat 64) = 9223372036854775808 by decide, Int.fdiv_eq_ediv_of_nonneg _ (by decide)]
  have := h.1; have := h.2
  unfold sg; split <;> omega
theorem xor63 {x : Int} (h : I63 x) : binEv .xor .i64 x (sg x) = if x < 0 then -x - 1 else x := by
  show IntKind.i64.wrap ((BitVec.ofInt 64 x ^^^ BitVec.ofInt 64 (sg x)).toNat) = _
  have h1 := h.1; have h2 := h.2
  unfold sg
  split
  · rename_i hx
    have e : BitVec.ofInt 64 x ^^^ BitVec.ofInt 64 (-1) = ~~~(BitVec.ofInt 64 x) := by
      rw [show BitVec.ofInt 64 (-1) = BitVec.allOnes 64 by decide, BitVec.xor_allOnes]
    have t : (BitVec.ofInt 64 x).toNat = (x + 18446744073709551616).toNat := by
      rw [BitVec.toNat_ofInt]; simp; omega
    rw [e, BitVec.toNat_not, t]
    rw [show (((2 ^ 64 - 1 - (x + 18446744073709551616).toNat : Nat)) : Int) = -x - 1 by omega]
    exact fit64 (by omega)
  · have t : (BitVec.ofInt 64 x).toNat = x.toNat := by
      rw [BitVec.toNat_ofInt]; simp; omega
    rw [show BitVec.ofInt 64 0 = 0#64 by decide, BitVec.xor_zero, t, Int.toNat_of_nonneg (by omega)]
    exact fit64 (by omega)
theorem sub63 {x : Int} (h : I63 x) : binEv .sub .i64 (if x < 0 then -x - 1 else x) (sg x) = ab x := by
  show IntKind.i64.wrap (_ - _) = _
  have h1 := h.1; have h2 := h.2
  unfold sg ab
  split
  · rw [fit64 (by omega)]; omega
  · rw [fit64 (by omega)]; omega
theorem ab_wd {x : Int} (h : I63 x) : Wd (ab x) := by
  have h1 := h.1; have h2 := h.2
  unfold ab; split <;> exact ⟨by omega, by omega⟩

/-- The words of a number of one word. -/
def w0 (n : Nat) (v : Int) : List Int := v :: List.replicate (n - 1) 0
theorem w0_len (hn : n ≠ 0) (v : Int) : (w0 n v).length = n := by simp [w0]; omega
theorem w0_wds {v : Int} (h : Wd v) : Wds (w0 n v) := wds_cons h (wds_zeros _)
theorem w0_vw (v : Int) : vw (w0 n v) = v := by
  show v + BW * vw (List.replicate (n - 1) 0) = v
  rw [vw_zeros]; simp

structure ZAsk (A : Ask) (n : Nat) (q rsq : List Int) : Prop where
  pre34 : ∀ xs, Wds xs → vw xs < vw q → A.pre 34 xs
  neg : ∀ xs ys, A.post 34 xs ys → NegM n q xs ys
  pre35 : ∀ xs, Wds xs → vw (xs.drop n) < vw q → A.pre 35 xs
  mulZ : ∀ xs ys, A.post 35 xs ys → MulM n q (xs.take n) (xs.drop n) ys
  pre36 : ∀ v, Wd v → A.pre 36 [v]
  su : ∀ v ys, A.post 36 [v] ys → MulM n q (w0 n v) rsq ys
  pre37 : ∀ x, I63 x → A.pre 37 [x]
  si : ∀ x ys, A.post 37 [x] ys → ∃ s, MulM n q (w0 n (ab x)) rsq s ∧ (if x < 0 then NegM n q s ys else ys = s)

variable {rsq : List Int}
theorem z_step (hZ : ZAsk A n q rsq) (hn : n ≠ 0) (wr : Wds rsq) (br : vw rsq < vw q) {x : SI} {t : Tree} {env : List Int} {v : Int} (hx : x.val env = v) (wv : Wd v)
    (k : ∀ r, MulM n q (w0 n v) rsq r → t.holds A (env ++ r)) : (Tree.hav 35 (x :: List.replicate (n - 1) (.lit 0) ++ ls rsq) n t).holds A env := by
  have hv : (x :: List.replicate (n - 1) (SI.lit 0)).map (·.val env) = w0 n v := by rw [List.map_cons, lz_vals, hx]; rfl
  refine ⟨?_, fun r _ h => ?_⟩
  · rw [vals_app hv ls_vals]
    exact hZ.pre35 _ ((w0_wds wv).append wr) (by rw [drop_app (w0_len hn v)]; exact br)
  · rw [vals_app hv ls_vals] at h
    have h := hZ.mulZ _ _ h
    rw [take_app (w0_len hn v), drop_app (w0_len hn v)] at h
    exact k r h
def setUT (n : Nat) (rsq : List Int) : Tree := .hav 35 (.var 0 :: List.replicate (n - 1) (.lit 0) ++ ls rsq) n (.fin (enc (vr 1 n)) st0)
theorem setUT_ok (hZ : ZAsk A n q rsq) (hn : n ≠ 0) (wr : Wds rsq) (br : vw rsq < vw q) {v : Int} (wv : Wd v)
    (hk : ∀ (e : List Int) (os : List SI), MulM n q (w0 n v) rsq (os.map (·.val ([v] ++ e))) → A.fin (enc os) st0 ([v] ++ e)) : (setUT n rsq).holds A [v] := by
  refine z_step hZ hn wr br rfl wv fun r h => hk r _ ?_
  have e : (vr 1 n).map (·.val ([v] ++ r)) = r := vals_new rfl h.1.symm
  rw [e]
  exact h
def setIT (n : Nat) (q rsq : List Int) : Tree :=
  .dfn (.bin .shr .i64) [.var 0, .lit 63] (.dfn (.bin .xor .i64) [.var 0, .var 1] (.dfn (.bin .sub .i64) [.var 2, .var 1] (.dfn (.conv .u64) [.var 3]
    (.hav 35 (.var 4 :: List.replicate (n - 1) (.lit 0) ++ ls rsq) n (.dfn (.cmp .neq) [.var 1, .lit 0] (.br (n + 5) (negT n q (vr 5 n) (n + 6)) (.fin (enc (vr 5 n)) st0)))))))
theorem setIT_ok (hZ : ZAsk A n q rsq) (hq : WQ n q) (hn : n ≠ 0) (wr : Wds rsq) (br : vw rsq < vw q) {x : Int} (hx : I63 x)
    (hk : ∀ (e : List Int) (os : List SI), (∃ s, MulM n q (w0 n (ab x)) rsq s ∧ (if x < 0 then NegM n q s (os.map (·.val ([x] ++ e))) else os.map (·.val ([x] ++ e)) = s)) → A.fin (enc os) st0 ([x] ++ e)) : (setIT n q rsq).holds A [x] := by
  intro a ha
  have ha : a = binEv .shr .i64 x 63 := ha
  rw [shr63 hx] at ha
  subst ha
  intro b hb
  have hb : b = binEv .xor .i64 x (sg x) := hb
  rw [xor63 hx] at hb
  subst hb
  intro c hc
  have hc : c = binEv .sub .i64 (if x < 0 then -x - 1 else x) (sg x) := hc
  rw [sub63 hx] at hc
  subst hc
  intro d hd
  have hd : d = IntKind.u64.wrap (ab x) := hd
  rw [fitu64 (ab_wd hx)] at hd
  subst hd
  refine z_step hZ hn wr br (v := ab x) rfl (ab_wd hx) fun r hr => ?_
  have lr := hr.1
  intro t ht
  have ht' : t = b01 (sg x != 0) := ht
  clear ht ha hb hc hd
  generalize (if x < 0 then -x - 1 else x) = y at *
  have e5 : (vr 5 n).map (·.val ([x] ++ [sg x] ++ [y] ++ [ab x] ++ [ab x] ++ r ++ [t])) = r := vals_mid rfl lr.symm
  have vt : ([x] ++ [sg x] ++ [y] ++ [ab x] ++ [ab x] ++ r ++ [t]).getD (n + 5) 0 = t := at_end (by simp; omega)
  have eE : [x] ++ [sg x] ++ [y] ++ [ab x] ++ [ab x] ++ r ++ [t] = [x] ++ ([sg x] ++ [y] ++ [ab x] ++ [ab x] ++ r ++ [t]) := by simp
  have lE : ([x] ++ [sg x] ++ [y] ++ [ab x] ++ [ab x] ++ r ++ [t]).length = n + 6 := by simp; omega
  refine ⟨fun h => ?_, fun h => ?_⟩
  · rw [vt, ht', b01_one] at h
    have hneg : x < 0 := by
      unfold sg at h
      split at h
      · assumption
      · cases h
    refine negT_ok hq hn (X := r) vr_length lE.symm (vr_bd (by omega)) e5 hr.2.1 hr.2.2.1 fun e os hN => ?_
    rw [eE, List.append_assoc] at hN ⊢
    exact hk _ _ ⟨r, hr, by rw [if_pos hneg]; exact hN⟩
  · rw [vt, ht', b01_zero] at h
    have hneg : ¬ x < 0 := by
      intro hn
      unfold sg at h
      rw [if_pos hn] at h
      cases h
    rw [eE] at e5 ⊢
    exact hk _ _ ⟨r, hr, by rw [if_neg hneg]; exact e5⟩

def setP (n : Nat) : Tree :=
  .hav 37 [.var 0] n (.dfn (.bin .sub .i64) [.lit 0, .var 0] (.dfn (.conv .u64) [.var (n + 3)] (.hav 36 [.var (n + 4)] n (.hav 34 (vr (n + 5) n) n (.dfn (.eqs n) (vr 3 n ++ vr (2 * n + 5) n) (.br (3 * n + 5)
    (.hav 37 [.var 0] n (.dfn (.eqs n) (vr (3 * n + 6) n ++ List.replicate n (.lit 0)) (.dfn (.cmp .neq) [.var (4 * n + 6), .lit 1] (.fin (enc [.var (4 * n + 7)]) st0)))) (.fin (enc [.lit 0]) st0)))))))
def setN (n : Nat) (one : List Int) : Tree :=
  .hav 37 [.var 0] n (.dfn (.conv .u64) [.var 0] (.hav 36 [.var (n + 3)] n (.dfn (.eqs n) (vr 3 n ++ vr (n + 4) n) (.br (2 * n + 4)
    (.dfn (.eqs n) (ls one ++ List.replicate n (.lit 0)) (.dfn (.cmp .neq) [.var (2 * n + 5), .lit 1] (.fin (enc [.var (2 * n + 6)]) st0))) (.fin (enc [.lit 0]) st0)))))
def lawSetT (n : Nat) (one : List Int) : Tree :=
  .dfn (.cmp .eql) [.var 0, .lit (-9223372036854775808)] (.br 1 (.fin (enc [.lit 1]) st0) (.dfn (.cmp .lss) [.var 0, .lit 0] (.br 2 (setP n) (setN n one))))

theorem vals_at {E env r e : List Int} {i m : Nat} (hE : E = env ++ r ++ e) (hi : i = env.length) (hm : m = r.length) : (vr i m).map (·.val E) = r := by
  rw [hE]; exact vals_mid hi hm
theorem neg_same {X r s : List Int} (hr : NegM n q X r) (hs : NegM n q X s) : r = s := vw_inj (hr.1.trans hs.1.symm) hr.2.1 hs.2.1 (hr.2.2.trans hs.2.2.symm)
/-- A number of one word that is not 0 gives an element that is not 0. -/
theorem set_pos {v : Int} {s : List Int} (hv : 0 < v) (wv : Wd v) (hb : BW ≤ vw q) (hinv : ∃ w, vw q ∣ vw rsq * w - 1) (hs : MulM n q (w0 n v) rsq s) : vw s ≠ 0 := by
  intro h
  obtain ⟨_, _, _, hd⟩ := hs
  obtain ⟨w, hw⟩ := hinv
  rw [h, w0_vw, Int.zero_mul, Int.zero_sub] at hd
  have h1 : vw q ∣ v * vw rsq * w := Int.dvd_mul_of_dvd_left (Int.dvd_neg.1 hd)
  have h2 : vw q ∣ v * (vw rsq * w - 1) := Int.dvd_mul_of_dvd_right hw
  have e : v * vw rsq * w - v * (vw rsq * w - 1) = v := by rw [Int.mul_sub, Int.mul_assoc, Int.mul_one]; omega
  have h3 := Int.dvd_sub h1 h2
  rw [e] at h3
  have := Int.le_of_dvd hv h3
  have hB : BW = 18446744073709551616 := rfl
  have := wv.2
  omega
theorem neg_ne {s r : List Int} (h0 : vw s ≠ 0) (hs : vw s < vw q) (hr : NegM n q s r) : r ≠ List.replicate n 0 := by
  intro h
  have h1 := hr.2.2
  rw [if_neg h0, h, vw_zeros] at h1
  omega
/-- The last step of the law: what is held against zeros is not zero. -/
theorem ne_step {A : Ask} {m : Nat} {xs : List SI} {env c : List Int} (hx : xs.map (·.val env) = c) (lc : c.length = n) (hc : c ≠ List.replicate n 0) (hm : m = env.length)
    (hfin : ∀ (e : List Int) (o : SI), o.val (env ++ e) = 1 → A.fin (enc [o]) st0 (env ++ e)) : (Tree.dfn (.eqs n) (xs ++ List.replicate n (.lit 0)) (.dfn (.cmp .neq) [.var m, .lit 1] (.fin (enc [.var (m + 1)]) st0))).holds A env := by
  refine eqs_step hx (lz_vals n) lc ?_
  rw [decide_eq_false hc]
  intro x h
  have h : x = b01 (cmpEv .neq ((SI.var m).val (env ++ [b01 false])) 1) := h
  rw [val_end hm] at h
  have h : x = 1 := h
  rw [List.append_assoc]
  refine hfin _ _ ?_
  rw [← List.append_assoc, val_end (by simp [hm]), h]

theorem lawSetT_ok (hZ : ZAsk A n q rsq) (hq1 : vw q % 2 = 1) (hb : BW ≤ vw q) (hinv : ∃ w, vw q ∣ vw rsq * w - 1) {one : List Int} (lo : one.length = n) (ho : one ≠ List.replicate n 0) {x : Int} (hx : -9223372036854775808 ≤ x ∧ x < 9223372036854775808)
    (hfin : ∀ (e : List Int) (o : SI), o.val ([x] ++ e) = 1 → A.fin (enc [o]) st0 ([x] ++ e)) : (lawSetT n one).holds A [x] := by
  intro t ht
  have ht' : t = b01 (x == -9223372036854775808) := ht
  clear ht
  refine ⟨fun _ => hfin _ (.lit 1) rfl, fun h => ?_⟩
  have h : t = 0 := h
  rw [ht', b01_zero, beq_eq_false_iff_ne] at h
  have hI : I63 x := ⟨by omega, hx.2⟩
  clear ht' h
  intro u hu
  have hu' : u = b01 (decide (x < 0)) := hu
  clear hu
  refine ⟨fun h => ?_, fun h => ?_⟩
  · have h : u = 1 := h
    rw [hu', b01_one, decide_eq_true_eq] at h
    clear hu'
    have eab : ab x = -x := by unfold ab; rw [if_pos h]
    refine ⟨hZ.pre37 x hI, fun r lr hr => ?_⟩
    obtain ⟨s, hs, hN⟩ := hZ.si x r hr
    rw [if_pos h] at hN
    intro a ha
    have ha' : a = IntKind.i64.wrap (0 - x) := ha
    clear ha
    rw [fit64 (by have := hI.1; omega), Int.zero_sub, ← eab] at ha'
    subst ha'
    intro b hb'
    have hb' : b = IntKind.u64.wrap ((SI.var (n + 3)).val ([x] ++ [t] ++ [u] ++ r ++ [ab x])) := hb'
    rw [val_end (by simp; omega), fitu64 (ab_wd hI)] at hb'
    subst hb'
    have v4 : (SI.var (n + 4)).val ([x] ++ [t] ++ [u] ++ r ++ [ab x] ++ [ab x]) = ab x := val_end (by simp; omega)
    refine ⟨?_, fun s' ls' hs' => ?_⟩
    · show A.pre 36 [(SI.var (n + 4)).val _]
      rw [v4]; exact hZ.pre36 _ (ab_wd hI)
    have hs' : A.post 36 [(SI.var (n + 4)).val ([x] ++ [t] ++ [u] ++ r ++ [ab x] ++ [ab x])] s' := hs'
    rw [v4] at hs'
    have es := mul_same hq1 (hZ.su _ _ hs') hs
    subst es
    have e5 : (vr (n + 5) n).map (·.val ([x] ++ [t] ++ [u] ++ r ++ [ab x] ++ [ab x] ++ s')) = s' := vals_new (by simp; omega) ls'.symm
    refine ⟨by rw [e5]; exact hZ.pre34 _ hs.2.1 hs.2.2.1, fun r' lr' hr' => ?_⟩
    rw [e5] at hr'
    have er := neg_same (hZ.neg _ _ hr') hN
    subst er
    refine eqs_step (a := r') (b := r') (vals_at (env := [x] ++ [t] ++ [u]) (e := [ab x] ++ [ab x] ++ s' ++ r') (by simp) rfl lr.symm) (vals_new (by simp; omega) lr.symm) lr ?_
    rw [decide_eq_true rfl]
    refine ⟨fun _ => ?_, fun h => ?_⟩
    · refine ⟨hZ.pre37 x hI, fun r2 lr2 hr2 => ?_⟩
      obtain ⟨s2, hs2, hN2⟩ := hZ.si x r2 hr2
      rw [if_pos h] at hN2
      have h0 := set_pos (n := n) (v := ab x) (by omega) (ab_wd hI) hb hinv hs2
      have eE : [x] ++ [t] ++ [u] ++ r' ++ [ab x] ++ [ab x] ++ s' ++ r' ++ [b01 true] ++ r2 = [x] ++ ([t] ++ [u] ++ r' ++ [ab x] ++ [ab x] ++ s' ++ r' ++ [b01 true] ++ r2) := by simp
      refine ne_step (vals_new (by simp; omega) lr2.symm) lr2 (neg_ne h0 hs2.2.2.1 hN2) (by simp; omega) fun e o ho => ?_
      rw [eE, List.append_assoc] at ho ⊢
      exact hfin _ _ ho
    · rw [at_end (by simp; omega)] at h
      cases h
  · have h : u = 0 := h
    rw [hu', b01_zero, decide_eq_false_iff_not] at h
    clear hu'
    have eab : ab x = x := by unfold ab; rw [if_neg h]
    refine ⟨hZ.pre37 x hI, fun r lr hr => ?_⟩
    obtain ⟨s, hs, hN⟩ := hZ.si x r hr
    rw [if_neg h] at hN
    subst hN
    intro b hb'
    have hb' : b = IntKind.u64.wrap x := hb'
    rw [fitu64 (by rw [← eab]; exact ab_wd hI)] at hb'
    subst hb'
    have v3 : (SI.var (n + 3)).val ([b] ++ [t] ++ [u] ++ r ++ [b]) = b := val_end (by simp; omega)
    refine ⟨?_, fun s' ls' hs' => ?_⟩
    · show A.pre 36 [(SI.var (n + 3)).val _]
      rw [v3]; exact hZ.pre36 _ (by rw [← eab]; exact ab_wd hI)
    have hs' : A.post 36 [(SI.var (n + 3)).val ([b] ++ [t] ++ [u] ++ r ++ [b])] s' := hs'
    rw [v3] at hs'
    rw [eab] at hs
    have es := mul_same hq1 (hZ.su _ _ hs') hs
    subst es
    refine eqs_step (a := s') (b := s') (vals_at (env := [b] ++ [t] ++ [u]) (e := [b] ++ s') (by simp) rfl ls'.symm) (vals_new (by simp; omega) ls'.symm) ls' ?_
    rw [decide_eq_true rfl]
    refine ⟨fun _ => ?_, fun h => ?_⟩
    · have eE : [b] ++ [t] ++ [u] ++ s' ++ [b] ++ s' ++ [b01 true] = [b] ++ ([t] ++ [u] ++ s' ++ [b] ++ s' ++ [b01 true]) := by simp
      refine ne_step ls_vals lo ho (by simp; omega) fun e o ho => ?_
      rw [eE, List.append_assoc] at ho ⊢
      exact hfin _ _ ho
    · rw [at_end (by simp; omega)] at h
      cases h
end
end Eng
end
