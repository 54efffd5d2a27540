/-
  Numbers by words: the reference's sum and difference, as trees of facts, for any number of words.
-/
import Derived.Test.YtakddcclpocejaaEng19
namespace Eng
open Go

def BW : Int := 18446744073709551616
def vw : List Int → Int
  | [] => 0
  | x :: l => x + 18446744073709551616 * vw l
theorem vw_snoc (l : List Int) (x : Int) : vw (l ++ [x]) = vw l + BW ^ l.length * x := by
  induction l with
  | nil => simp [vw]
  | cons y l ih =>
    simp only [List.cons_append, vw, ih, List.length_cons, Int.pow_succ]
    rw [Int.mul_add]
    simp only [BW]
    have : (18446744073709551616 : Int) * ((18446744073709551616 : Int) ^ l.length * x) = (18446744073709551616 : Int) ^ l.length * 18446744073709551616 * x := by
      rw [← Int.mul_assoc, Int.mul_comm 18446744073709551616]
    omega
theorem vw_take {a : List Int} {i : Nat} (h : i < a.length) : vw (a.take (i + 1)) = vw (a.take i) + BW ^ i * a.getD i 0 := by
  have : a.take (i + 1) = a.take i ++ [a.getD i 0] := by
    rw [List.take_add_one, List.getD_eq_getElem?_getD, List.getElem?_eq_getElem h]
    rfl
  rw [this, vw_snoc, List.length_take, Nat.min_eq_left (by omega)]
def Wd (x : Int) : Prop := 0 ≤ x ∧ x < 18446744073709551616
def Wds (l : List Int) : Prop := ∀ x, x ∈ l → Wd x
theorem Wds.get {l : List Int} (h : Wds l) (i : Nat) : Wd (l.getD i 0) := by
  rw [List.getD_eq_getElem?_getD]
  cases hi : l[i]? with
  | none => exact ⟨by simp, by simp⟩
  | some x => exact h x (List.mem_of_getElem? hi)
theorem wrap_add {x y : Int} (hx : Wd x) (hy : Wd y) : IntKind.u64.wrap (x + y) = x + y ∧ x + y < 18446744073709551616 ∨ IntKind.u64.wrap (x + y) = x + y - 18446744073709551616 ∧ 18446744073709551616 ≤ x + y := by
  obtain ⟨h1, h2⟩ := hx
  obtain ⟨h3, h4⟩ := hy
  rw [IntKind.wrap_u64]
  omega
theorem wrap_sub {x y : Int} (hx : Wd x) (hy : Wd y) : IntKind.u64.wrap (x - y) = x - y ∧ y ≤ x ∨ IntKind.u64.wrap (x - y) = x - y + 18446744073709551616 ∧ x < y := by
  obtain ⟨h1, h2⟩ := hx
  obtain ⟨h3, h4⟩ := hy
  rw [IntKind.wrap_u64]
  omega

def plusT (n : Nat) : Nat → Nat → Int → Nat → List Nat → Tree
  | 0, _, c, _, outs => .fin (enc (outs.map SI.var ++ [.lit c])) st0
  | rem + 1, i, c, ne, outs => .dfn (.bin .add .u64) [.var i, .lit c] (.dfn (.cmp .lss) [.var ne, .lit c] (.dfn (.bin .add .u64) [.var ne, .var (n + i)]
      (.br (ne + 1) (plusT n rem (i + 1) 1 (ne + 3) (outs ++ [ne + 2]))
        (.dfn (.cmp .lss) [.var (ne + 2), .var ne] (.br (ne + 3) (plusT n rem (i + 1) 1 (ne + 4) (outs ++ [ne + 2])) (plusT n rem (i + 1) 0 (ne + 4) (outs ++ [ne + 2])))))))
def lessenT (n : Nat) : Nat → Nat → Int → Nat → List Nat → Tree
  | 0, _, c, _, outs => .fin (enc (outs.map SI.var ++ [.lit c])) st0
  | rem + 1, i, c, ne, outs => .dfn (.bin .sub .u64) [.var i, .lit c] (.dfn (.cmp .lss) [.var i, .lit c] (.dfn (.bin .sub .u64) [.var ne, .var (n + i)]
      (.br (ne + 1) (lessenT n rem (i + 1) 1 (ne + 3) (outs ++ [ne + 2]))
        (.dfn (.cmp .lss) [.var ne, .var (n + i)] (.br (ne + 3) (lessenT n rem (i + 1) 1 (ne + 4) (outs ++ [ne + 2])) (lessenT n rem (i + 1) 0 (ne + 4) (outs ++ [ne + 2])))))))

def Plus (a b ys : List Int) : Prop := ∃ o c, ys = o ++ [c] ∧ o.length = a.length ∧ (c = 0 ∨ c = 1) ∧ Wds o ∧ vw o + BW ^ a.length * c = vw a + vw b
def Lessen (a b ys : List Int) : Prop := ∃ o c, ys = o ++ [c] ∧ o.length = a.length ∧ (c = 0 ∨ c = 1) ∧ Wds o ∧ vw o - BW ^ a.length * c = vw a - vw b

theorem at_a {a b e : List Int} {i : Nat} (h : i < a.length) : (a ++ b ++ e).getD i 0 = a.getD i 0 := by
  rw [List.getD_eq_getElem?_getD, List.getD_eq_getElem?_getD, List.append_assoc, List.getElem?_append_left h]
theorem at_b {a b e : List Int} {n i : Nat} (ha : a.length = n) (h : i < b.length) : (a ++ b ++ e).getD (n + i) 0 = b.getD i 0 := by
  subst ha
  rw [List.getD_eq_getElem?_getD, List.getD_eq_getElem?_getD, List.append_assoc, List.getElem?_append_right (by omega), Nat.add_sub_cancel_left, List.getElem?_append_left h]
theorem at_end {l : List Int} {x : Int} {n : Nat} (h : n = l.length) : (l ++ [x]).getD n 0 = x := by
  subst h
  simp [List.getD_eq_getElem?_getD]
theorem at_old {l m : List Int} {n : Nat} (h : n < l.length) : (l ++ m).getD n 0 = l.getD n 0 := by
  rw [List.getD_eq_getElem?_getD, List.getD_eq_getElem?_getD, List.getElem?_append_left h]
theorem map_old {l m : List Int} {o : List Nat} (h : ∀ x ∈ o, x < l.length) : o.map (fun x => (l ++ m).getD x 0) = o.map fun x => l.getD x 0 :=
  List.map_congr_left fun x hx => at_old (h x hx)

theorem plusT_ok {A : Ask} {n : Nat} {a b : List Int} (ha : a.length = n) (hb : b.length = n) (wa : Wds a) (wb : Wds b)
    (hfin : ∀ (τ : List SI) (ext : List Int), Plus a b (τ.map (·.val (a ++ b ++ ext))) → A.fin (enc τ) st0 (a ++ b ++ ext)) :
    ∀ (rem i : Nat) (c : Int) (ne : Nat) (outs : List Nat) (ext : List Int), i + rem = n → ne = (a ++ b ++ ext).length → (c = 0 ∨ c = 1) → (∀ x ∈ outs, x < ne) → outs.length = i →
      Wds (outs.map fun x => (a ++ b ++ ext).getD x 0) → vw (outs.map fun x => (a ++ b ++ ext).getD x 0) + BW ^ i * c = vw (a.take i) + vw (b.take i) →
      (plusT n rem i c ne outs).holds A (a ++ b ++ ext)
  | 0, i, c, ne, outs, ext, hi, hne, hc, ho, hol, hw, hv => by
    refine hfin _ _ ⟨outs.map fun x => (a ++ b ++ ext).getD x 0, c, ?_, by simp [hol, ha, ← hi], hc, hw, ?_⟩
    · simp [SI.val, Function.comp_def]
    · rw [ha, ← show i = n by omega, hv, List.take_of_length_le (by omega), List.take_of_length_le (by omega)]
  | rem + 1, i, c, ne, outs, ext, hi, hne, hc, ho, hol, hw, hv => by
    intro x hx
    have hx : x = IntKind.u64.wrap ((a ++ b ++ ext).getD i 0 + c) := hx
    rw [at_a (by omega)] at hx
    intro t ht
    have ht : t = b01 (decide ((a ++ b ++ ext ++ [x]).getD ne 0 < c)) := ht
    rw [at_end hne] at ht
    intro y hy
    have hy : y = IntKind.u64.wrap ((a ++ b ++ ext ++ [x] ++ [t]).getD ne 0 + (a ++ b ++ ext ++ [x] ++ [t]).getD (n + i) 0) := hy
    have e1 : a ++ b ++ ext ++ [x] ++ [t] = a ++ b ++ (ext ++ [x] ++ [t]) := by simp
    rw [at_old (by simp at hne ⊢; omega), at_end hne, e1, at_b ha (by omega)] at hy
    have hA := wa.get i
    have hB := wb.get i
    have hC : Wd c := by rcases hc with rfl | rfl <;> exact ⟨by decide, by decide⟩
    have hX : Wd x := by rw [hx]; rcases wrap_add hA hC with h | h <;> (simp only [Wd] at *; omega)
    have hY : Wd y := by rw [hy]; rcases wrap_add hX hB with h | h <;> (simp only [Wd] at *; omega)
    have go : ∀ (c' : Int) (e : List Int) (ne' : Nat), ne' = (a ++ b ++ (ext ++ [x] ++ [t] ++ [y] ++ e)).length → (c' = 0 ∨ c' = 1) → y + BW * c' = a.getD i 0 + b.getD i 0 + c →
        (plusT n rem (i + 1) c' ne' (outs ++ [ne + 2])).holds A (a ++ b ++ (ext ++ [x] ++ [t] ++ [y] ++ e)) := by
      intro c' e ne' hne' hc' hsum
      have e2 : a ++ b ++ (ext ++ [x] ++ [t] ++ [y] ++ e) = (a ++ b ++ ext) ++ ([x] ++ [t] ++ [y] ++ e) := by simp
      have e3 : (outs ++ [ne + 2]).map (fun z => (a ++ b ++ (ext ++ [x] ++ [t] ++ [y] ++ e)).getD z 0) = (outs.map fun z => (a ++ b ++ ext).getD z 0) ++ [y] := by
        rw [List.map_append, e2, map_old (by rw [← hne]; exact ho)]
        congr 1
        simp only [List.map_cons, List.map_nil]
        congr 1
        rw [show a ++ b ++ ext ++ ([x] ++ [t] ++ [y] ++ e) = a ++ b ++ ext ++ [x] ++ [t] ++ [y] ++ e by simp, at_old (by simp at hne ⊢; omega), at_end (by simp at hne ⊢; omega)]
      refine plusT_ok ha hb wa wb hfin rem (i + 1) c' ne' (outs ++ [ne + 2]) _ (by omega) hne' hc' ?_ (by simp [hol]) ?_ ?_
      · intro z hz
        rcases List.mem_append.1 hz with h | h
        · have := ho z h
          rw [hne', e2]
          simp only [List.length_append] at hne ⊢
          omega
        · simp at h
          subst h
          rw [hne', e2]
          simp only [List.length_append, List.length_cons, List.length_nil] at hne ⊢
          omega
      · rw [e3]
        intro z hz
        rcases List.mem_append.1 hz with h | h
        · exact hw z h
        · simp at h
          subst h
          exact hY
      · rw [e3, vw_snoc, vw_take (by omega), vw_take (by omega), List.length_map, hol, Int.pow_succ]
        have : BW ^ i * y + BW ^ i * BW * c' = BW ^ i * a.getD i 0 + BW ^ i * b.getD i 0 + BW ^ i * c := by
          rw [Int.mul_assoc, ← Int.mul_add, hsum, Int.mul_add, Int.mul_add]
        omega
    refine ⟨fun hb1 => ?_, fun hb0 => ?_⟩
    · have hb1 : (a ++ b ++ ext ++ [x] ++ [t] ++ [y]).getD (ne + 1) 0 = 1 := hb1
      have ht1 : t = 1 := by
        rw [at_old (by simp at hne ⊢; omega), at_end (by simp at hne ⊢; omega)] at hb1
        exact hb1
      have := go 1 [] (ne + 3) (by simp at hne ⊢; omega) (.inr rfl) ?_
      · simpa using this
      · rw [ht1] at ht
        have hlt : x < c := by
          have := ht.symm
          cases h : decide (x < c) with
          | true => exact of_decide_eq_true h
          | false => rw [h] at this; simp [b01] at this
        rcases wrap_add hA hC with h | h <;> rcases wrap_add hX hB with h' | h' <;> simp only [Wd, BW] at * <;> rcases hc with rfl | rfl <;> omega
    · have hb0 : (a ++ b ++ ext ++ [x] ++ [t] ++ [y]).getD (ne + 1) 0 = 0 := hb0
      have ht0 : t = 0 := by
        rw [at_old (by simp at hne ⊢; omega), at_end (by simp at hne ⊢; omega)] at hb0
        exact hb0
      have hge : ¬ x < c := by
        rw [ht0] at ht
        have := ht.symm
        cases h : decide (x < c) with
        | true => rw [h] at this; simp [b01] at this
        | false => exact of_decide_eq_false h
      intro s hs
      have hs : s = b01 (decide ((a ++ b ++ ext ++ [x] ++ [t] ++ [y]).getD (ne + 2) 0 < (a ++ b ++ ext ++ [x] ++ [t] ++ [y]).getD ne 0)) := hs
      rw [at_end (by simp at hne ⊢; omega), at_old (by simp at hne ⊢; omega), at_old (by simp at hne ⊢; omega), at_end hne] at hs
      refine ⟨fun hb1 => ?_, fun hb0 => ?_⟩
      · have hb1 : (a ++ b ++ ext ++ [x] ++ [t] ++ [y] ++ [s]).getD (ne + 3) 0 = 1 := hb1
        rw [at_end (by simp at hne ⊢; omega)] at hb1
        have := go 1 [s] (ne + 4) (by simp at hne ⊢; omega) (.inr rfl) ?_
        · simpa using this
        · have hlt : y < x := by
            rw [hb1] at hs
            have := hs.symm
            cases h : decide (y < x) with
            | true => exact of_decide_eq_true h
            | false => rw [h] at this; simp [b01] at this
          rcases wrap_add hA hC with h | h <;> rcases wrap_add hX hB with h' | h' <;> simp only [Wd, BW] at * <;> omega
      · have hb0 : (a ++ b ++ ext ++ [x] ++ [t] ++ [y] ++ [s]).getD (ne + 3) 0 = 0 := hb0
        rw [at_end (by simp at hne ⊢; omega)] at hb0
        have := go 0 [s] (ne + 4) (by simp at hne ⊢; omega) (.inl rfl) ?_
        · simpa using this
        · have hlt : ¬ y < x := by
            rw [hb0] at hs
            have := hs.symm
            cases h : decide (y < x) with
            | true => rw [h] at this; simp [b01] at this
            | false => exact of_decide_eq_false h
          rcases wrap_add hA hC with h | h <;> rcases wrap_add hX hB with h' | h' <;> simp only [Wd, BW] at * <;> omega
theorem lessenT_ok {A : Ask} {n : Nat} {a b : List Int} (ha : a.length = n) (hb : b.length = n) (wa : Wds a) (wb : Wds b)
    (hfin : ∀ (τ : List SI) (ext : List Int), Lessen a b (τ.map (·.val (a ++ b ++ ext))) → A.fin (enc τ) st0 (a ++ b ++ ext)) :
    ∀ (rem i : Nat) (c : Int) (ne : Nat) (outs : List Nat) (ext : List Int), i + rem = n → ne = (a ++ b ++ ext).length → (c = 0 ∨ c = 1) → (∀ x ∈ outs, x < ne) → outs.length = i →
      Wds (outs.map fun x => (a ++ b ++ ext).getD x 0) → vw (outs.map fun x => (a ++ b ++ ext).getD x 0) - BW ^ i * c = vw (a.take i) - vw (b.take i) →
      (lessenT n rem i c ne outs).holds A (a ++ b ++ ext)
  | 0, i, c, ne, outs, ext, hi, hne, hc, ho, hol, hw, hv => by
    refine hfin _ _ ⟨outs.map fun x => (a ++ b ++ ext).getD x 0, c, ?_, by simp [hol, ha, ← hi], hc, hw, ?_⟩
    · simp [SI.val, Function.comp_def]
    · rw [ha, ← show i = n by omega, hv, List.take_of_length_le (by omega), List.take_of_length_le (by omega)]
  | rem + 1, i, c, ne, outs, ext, hi, hne, hc, ho, hol, hw, hv => by
    intro x hx
    have hx : x = IntKind.u64.wrap ((a ++ b ++ ext).getD i 0 - c) := hx
    rw [at_a (by omega)] at hx
    intro t ht
    have ht : t = b01 (decide ((a ++ b ++ ext ++ [x]).getD i 0 < c)) := ht
    rw [at_old (by simp at hne ⊢; omega), at_a (by omega)] at ht
    intro y hy
    have hy : y = IntKind.u64.wrap ((a ++ b ++ ext ++ [x] ++ [t]).getD ne 0 - (a ++ b ++ ext ++ [x] ++ [t]).getD (n + i) 0) := hy
    have e1 : a ++ b ++ ext ++ [x] ++ [t] = a ++ b ++ (ext ++ [x] ++ [t]) := by simp
    rw [at_old (by simp at hne ⊢; omega), at_end hne, e1, at_b ha (by omega)] at hy
    have hA := wa.get i
    have hB := wb.get i
    have hC : Wd c := by rcases hc with rfl | rfl <;> exact ⟨by decide, by decide⟩
    have hX : Wd x := by rw [hx]; rcases wrap_sub hA hC with h | h <;> (simp only [Wd] at *; omega)
    have hY : Wd y := by rw [hy]; rcases wrap_sub hX hB with h | h <;> (simp only [Wd] at *; omega)
    have go : ∀ (c' : Int) (e : List Int) (ne' : Nat), ne' = (a ++ b ++ (ext ++ [x] ++ [t] ++ [y] ++ e)).length → (c' = 0 ∨ c' = 1) → y - BW * c' = a.getD i 0 - b.getD i 0 - c →
        (lessenT n rem (i + 1) c' ne' (outs ++ [ne + 2])).holds A (a ++ b ++ (ext ++ [x] ++ [t] ++ [y] ++ e)) := by
      intro c' e ne' hne' hc' hsum
      have e2 : a ++ b ++ (ext ++ [x] ++ [t] ++ [y] ++ e) = (a ++ b ++ ext) ++ ([x] ++ [t] ++ [y] ++ e) := by simp
      have e3 : (outs ++ [ne + 2]).map (fun z => (a ++ b ++ (ext ++ [x] ++ [t] ++ [y] ++ e)).getD z 0) = (outs.map fun z => (a ++ b ++ ext).getD z 0) ++ [y] := by
        rw [List.map_append, e2, map_old (by rw [← hne]; exact ho)]
        congr 1
        simp only [List.map_cons, List.map_nil]
        congr 1
        rw [show a ++ b ++ ext ++ ([x] ++ [t] ++ [y] ++ e) = a ++ b ++ ext ++ [x] ++ [t] ++ [y] ++ e by simp, at_old (by simp at hne ⊢; omega), at_end (by simp at hne ⊢; omega)]
      refine lessenT_ok ha hb wa wb hfin rem (i + 1) c' ne' (outs ++ [ne + 2]) _ (by omega) hne' hc' ?_ (by simp [hol]) ?_ ?_
      · intro z hz
        rcases List.mem_append.1 hz with h | h
        · have := ho z h
          rw [hne', e2]
          simp only [List.length_append] at hne ⊢
          omega
        · simp at h
          subst h
          rw [hne', e2]
          simp only [List.length_append, List.length_cons, List.length_nil] at hne ⊢
          omega
      · rw [e3]
        intro z hz
        rcases List.mem_append.1 hz with h | h
        · exact hw z h
        · simp at h
          subst h
          exact hY
      · rw [e3, vw_snoc, vw_take (by omega), vw_take (by omega), List.length_map, hol, Int.pow_succ]
        have : BW ^ i * y - BW ^ i * BW * c' = BW ^ i * a.getD i 0 - BW ^ i * b.getD i 0 - BW ^ i * c := by
          rw [Int.mul_assoc, ← Int.mul_sub, hsum, Int.mul_sub, Int.mul_sub]
        omega
    refine ⟨fun hb1 => ?_, fun hb0 => ?_⟩
    · have hb1 : (a ++ b ++ ext ++ [x] ++ [t] ++ [y]).getD (ne + 1) 0 = 1 := hb1
      have ht1 : t = 1 := by
        rw [at_old (by simp at hne ⊢; omega), at_end (by simp at hne ⊢; omega)] at hb1
        exact hb1
      have := go 1 [] (ne + 3) (by simp at hne ⊢; omega) (.inr rfl) ?_
      · simpa using this
      · rw [ht1] at ht
        have hlt : a.getD i 0 < c := by
          have := ht.symm
          cases h : decide (a.getD i 0 < c) with
          | true => exact of_decide_eq_true h
          | false => rw [h] at this; simp [b01] at this
        rcases wrap_sub hA hC with h | h <;> rcases wrap_sub hX hB with h' | h' <;> simp only [Wd, BW] at * <;> rcases hc with rfl | rfl <;> omega
    · have hb0 : (a ++ b ++ ext ++ [x] ++ [t] ++ [y]).getD (ne + 1) 0 = 0 := hb0
      have ht0 : t = 0 := by
        rw [at_old (by simp at hne ⊢; omega), at_end (by simp at hne ⊢; omega)] at hb0
        exact hb0
      have hge : ¬ a.getD i 0 < c := by
        rw [ht0] at ht
        have := ht.symm
        cases h : decide (a.getD i 0 < c) with
        | true => rw [h] at this; simp [b01] at this
        | false => exact of_decide_eq_false h
      intro s hs
      have hs : s = b01 (decide ((a ++ b ++ ext ++ [x] ++ [t] ++ [y]).getD ne 0 < (a ++ b ++ ext ++ [x] ++ [t] ++ [y]).getD (n + i) 0)) := hs
      rw [at_old (by simp at hne ⊢; omega), at_old (by simp at hne ⊢; omega), at_end hne, show a ++ b ++ ext ++ [x] ++ [t] ++ [y] = a ++ b ++ (ext ++ [x] ++ [t] ++ [y]) by simp, at_b ha (by omega)] at hs
      refine ⟨fun hb1 => ?_, fun hb0 => ?_⟩
      · have hb1 : (a ++ b ++ ext ++ [x] ++ [t] ++ [y] ++ [s]).getD (ne + 3) 0 = 1 := hb1
        rw [at_end (by simp at hne ⊢; omega)] at hb1
        have := go 1 [s] (ne + 4) (by simp at hne ⊢; omega) (.inr rfl) ?_
        · simpa using this
        · have hlt : x < b.getD i 0 := by
            rw [hb1] at hs
            have := hs.symm
            cases h : decide (x < b.getD i 0) with
            | true => exact of_decide_eq_true h
            | false => rw [h] at this; simp [b01] at this
          rcases wrap_sub hA hC with h | h <;> rcases wrap_sub hX hB with h' | h' <;> simp only [Wd, BW] at * <;> omega
      · have hb0 : (a ++ b ++ ext ++ [x] ++ [t] ++ [y] ++ [s]).getD (ne + 3) 0 = 0 := hb0
        rw [at_end (by simp at hne ⊢; omega)] at hb0
        have := go 0 [s] (ne + 4) (by simp at hne ⊢; omega) (.inl rfl) ?_
        · simpa using this
        · have hlt : ¬ x < b.getD i 0 := by
            rw [hb0] at hs
            have := hs.symm
            cases h : decide (x < b.getD i 0) with
            | true => rw [h] at this; simp [b01] at this
            | false => exact of_decide_eq_false h
          rcases wrap_sub hA hC with h | h <;> rcases wrap_sub hX hB with h' | h' <;> simp only [Wd, BW] at * <;> omega
end Eng
