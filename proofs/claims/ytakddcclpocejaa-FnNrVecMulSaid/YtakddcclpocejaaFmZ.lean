/-
  Products and sums of arrays of words as the laws call them, by their contracts. No conditions.
-/
import Derived.Test.YtakddcclpocejaaFmY
namespace Go.Proofs.Ytakddcclpocejaa
open Go Eng Go.RowKit
set_option maxRecDepth 100000
theorem all2_get {α β : Type} {R : α → β → Prop} : ∀ {l : List α} {m : List β}, All2 R l m → l.length = m.length ∧ ∀ (j : Nat) (x : α) (y : β), l[j]? = some x → m[j]? = some y → R x y
  | [], [], _ => ⟨rfl, fun j x y h => by cases h⟩
  | a :: l, b :: m, h => by
    obtain ⟨h1, h2⟩ := h
    obtain ⟨hl, hg⟩ := all2_get h2
    refine ⟨by simp [hl], fun j x y hx hy => ?_⟩
    cases j with
    | zero =>
      simp at hx hy
      subst hx
      subst hy
      exact h1
    | succ j => exact hg j x y (by simpa using hx) (by simpa using hy)
  | [], _ :: _, h => by cases h
  | _ :: _, [], h => by cases h
theorem is_us {env ys : List Int} {β : List (Nat × Nat)} {m n : Nat} {vs : List Value} (h : All2 (SC.is (env ++ ys) β) (us m n) vs) (hm : m = env.length) (hn : n = ys.length) : vs = ys.map (Value.int .u64) := by
  obtain ⟨hl, hg⟩ := all2_get h
  have hl : n = vs.length := by simpa [us] using hl
  apply List.ext_getElem?
  intro j
  by_cases hj : j < n
  · obtain ⟨y, hy, _, hv⟩ := hg j (.ii .u64 (.var (m + j))) (vs[j]'(by omega)) (by simp [us, u, hj]) (by rw [List.getElem?_eq_getElem])
    have hy : (env ++ ys)[m + j]? = some y := hy
    rw [hm, List.getElem?_append_right (by omega), Nat.add_sub_cancel_left] at hy
    rw [List.getElem?_eq_getElem (by omega), hv, List.getElem?_map, hy]
    rfl
  · rw [List.getElem?_eq_none (by omega), List.getElem?_eq_none (by simp; omega)]
theorem arr_call {κ : K} (hk : KOk Try.prog AA κ) (ha : κ.args = [ar 0 4, ar 4 4]) (hm : κ.mem = []) (hκ : κ.m = 8) (ho : κ.mout = 4) (hr : κ.ret = ar 8 4) {xs ys : List Int} (lx : xs.length = 4) (ly : ys.length = 4) (wx : Wds xs) (wy : Wds ys) (hp : preX κ.id (xs ++ ys)) (w : World) :
    Calls Try.prog κ.f #[aggW xs, aggW ys] w fun e w' => ∃ r, post κ.id (xs ++ ys) r ∧ e = .returned (aggW r) ∧ Below w.heap.size w w' := by
  have hw := wx.append wy
  have i1 := us_is (env := xs ++ ys) (β := []) (i := 0) (n := 4) (by simp; omega) hw
  have i2 := us_is (env := xs ++ ys) (β := []) (i := 4) (n := 4) (by simp; omega) hw
  rw [List.drop_zero, take_app lx] at i1
  rw [drop_app lx, List.take_of_length_le (by omega)] at i2
  refine (ko_ro hk (env := xs ++ ys) (β := []) (vs := [aggW xs, aggW ys]) (by rw [hκ]; simp; omega) (by rw [hm]; rfl) (by rw [hm]; simp) (by rw [hm]; simp) (by rw [ha]; exact ⟨⟨_, rfl, i1⟩, ⟨_, rfl, i2⟩, trivial⟩) ⟨fun _ => hw, hp⟩).mono ?_
  rintro e w' ⟨rs, β', v, hl, hpo, rfl, _, hv, _, _, hb⟩
  rw [hr] at hv
  obtain ⟨vs, rfl, hv⟩ := hv
  rw [is_us hv (by simp; omega) (by rw [hl, ho])]
  exact ⟨rs, hpo, rfl, hb⟩
theorem mulA_call {xs ys : List Int} (lx : xs.length = 4) (ly : ys.length = 4) (wx : Wds xs) (wy : Wds ys) (hy : vw ys < vw prime) (w : World) :
    Calls Try.prog 10 #[aggW xs, aggW ys] w fun e w' => ∃ r, MulM 4 prime xs ys r ∧ e = .returned (aggW r) ∧ Below w.heap.size w w' := by
  refine (arr_call mulA_ok' rfl rfl rfl rfl rfl lx ly wx wy (show vw ((xs ++ ys).drop 4) < vw prime by rw [drop_app lx]; exact hy) w).mono ?_
  rintro e w' ⟨r, hr, h⟩
  have hr : MulM 4 prime ((xs ++ ys).take 4) ((xs ++ ys).drop 4) r := hr
  rw [take_app lx, drop_app lx] at hr
  exact ⟨r, hr, h⟩
theorem addA_call {xs ys : List Int} (lx : xs.length = 4) (ly : ys.length = 4) (wx : Wds xs) (wy : Wds ys) (w : World) :
    Calls Try.prog 14 #[aggW xs, aggW ys] w fun e w' => ∃ r, SumMod xs ys prime r ∧ e = .returned (aggW r) ∧ Below w.heap.size w w' := by
  refine (arr_call addA_ok rfl rfl rfl rfl rfl lx ly wx wy trivial w).mono ?_
  rintro e w' ⟨r, hr, h⟩
  have hr : SumMod ((xs ++ ys).take 4) ((xs ++ ys).drop 4) prime r := hr
  rw [take_app lx, drop_app lx] at hr
  exact ⟨r, hr, h⟩
end Go.Proofs.Ytakddcclpocejaa
