/-
  The calls of BatchInvert and of its law in memory, by their contracts, at any addresses. No conditions.
-/
import Derived.Test.YtmnenhkjdhbjmaaFiV
import Derived.Test.YtmnenhkjdhbjmaaFiH
namespace Go.Proofs.Ytmnenhkjdhbjmaa
open Go Eng Go.RowKit
set_option maxRecDepth 100000
def oneL : List SC := (ls one).map fun e => .ii .u64 e
def kOneE : K := { f := 23, args := [], mem := [], m := 0, id := 68, mout := 0, ret := .ww (.aa oneL), mem1 := [] }
def kOneA : K := { f := 15, args := [], mem := [], m := 0, id := 68, mout := 0, ret := .ww (.aa oneL), mem1 := [] }
theorem oneE_ok : KOk Try.prog AA kOneE := k_of' (L := []) (by simp) (by kernel_rfl) (T := .fin (enc []) st0) (by kernel_rfl) fun env hl _ => fin_take (env := env) (List.take_of_length_le (Nat.le_of_eq hl)) (show ([] : List Int) = [] from rfl)
theorem lOneE : ∀ κ ∈ [kOneE], KOk Try.prog AA κ := by
  intro κ h
  simp only [List.mem_cons, List.not_mem_nil, or_false] at h
  rcases h with rfl
  · exact oneE_ok
theorem oneA_ok : KOk Try.prog AA kOneA := k_of' (L := []) (by simp) (by kernel_rfl) (T := .fin (enc []) st0) (by kernel_rfl) fun env hl _ => fin_take (env := env) (List.take_of_length_le (Nat.le_of_eq hl)) (show ([] : List Int) = [] from rfl)
theorem is_lits {β : List (Nat × Nat)} {env : List Int} : ∀ {l : List Int} {vs : List Value}, All2 (SC.is env β) ((ls l).map fun e => SC.ii .u64 e) vs → vs = l.map (Value.int .u64)
  | [], [], _ => rfl
  | x :: l, v :: vs, ⟨⟨y, hy, _, hv⟩, h⟩ => by
    have hy : y = x := by simpa [SI.is] using hy
    subst hy
    rw [hv, is_lits h]
    rfl
theorem all2_get {α β : Type} {R : α → β → Prop} : ∀ {l : List α} {m : List β}, All2 R l m → l.length = m.length ∧ ∀ (j : Nat) (x : α) (y : β), l[j]? = some x → m[j]? = some y → R x y
  | [], [], _ => ⟨rfl, fun j x y h => by cases h⟩
  | a :: l, b :: m, h => by
    obtain ⟨h1, h2⟩ := h
    obtain ⟨hl, hg⟩ := all2_get h2
    refine ⟨by simp [hl], fun j x y hx hy => ?_⟩
    cases j with
    | zero =>
      simp at hx hy
      subst hx
      subst hy
      exact h1
    | succ j => exact hg j x y (by simpa using hx) (by simpa using hy)
  | [], _ :: _, h => by cases h
  | _ :: _, [], h => by cases h
theorem is_us {env ys : List Int} {β : List (Nat × Nat)} {m n : Nat} {vs : List Value} (h : All2 (SC.is (env ++ ys) β) (us m n) vs) (hm : m = env.length) (hn : n = ys.length) : vs = ys.map (Value.int .u64) := by
  obtain ⟨hl, hg⟩ := all2_get h
  have hl : n = vs.length := by simpa [us] using hl
  apply List.ext_getElem?
  intro j
  by_cases hj : j < n
  · obtain ⟨y, hy, _, hv⟩ := hg j (.ii .u64 (.var (m + j))) (vs[j]'(by omega)) (by simp [us, u, hj]) (by rw [List.getElem?_eq_getElem])
    have hy : (env ++ ys)[m + j]? = some y := hy
    rw [hm, List.getElem?_append_right (by omega), Nat.add_sub_cancel_left] at hy
    rw [List.getElem?_eq_getElem (by omega), hv, List.getElem?_map, hy]
    rfl
  · rw [List.getElem?_eq_none (by omega), List.getElem?_eq_none (by simp; omega)]
def Froz (w : World) (b o : Nat) : Prop := ∀ j, j < 4 → w.frozen? ⟨b, o + j, none⟩ = false
theorem app2 {a b : List Int} (la : a.length = 4) (j : Nat) : (a ++ b).getD (4 + j) 0 = b.getD j 0 := by
  rw [List.getD_eq_getElem?_getD, List.getD_eq_getElem?_getD, List.getElem?_append_right (by omega), la, Nat.add_sub_cancel_left]
/-- What stands in the written region afterwards. -/
theorem new_cells {W0 : World} {Tp : Nat → Nat → Prop} {env ys : List Int} {β β' : List (Nat × Nat)} {mem : List (List SC × Bool)} {w' : World} {m b o : Nat} (hM : MRel W0 Tp (env ++ ys) β' mem w') (h0 : mem[0]? = some (us m 4, true)) (hβ : β[0]? = some (b, o)) (hL : Longer β β') (hm : m = env.length) : Cells w' b o 4 ys := by
  have hb : β'[0]? = some (b, o) := by
    obtain ⟨e, rfl⟩ := hL
    rw [List.getElem?_append_left (List.getElem?_eq_some_iff.1 hβ).1]
    exact hβ
  intro j hj
  obtain ⟨v, hv, y, hy, _, rfl⟩ := hM.cells 0 _ _ _ h0 hb j (.ii .u64 (.var (m + j))) (by simp [us, u, hj])
  have hy : (env ++ ys)[m + j]? = some y := hy
  rw [hm, List.getElem?_append_right (by omega), Nat.add_sub_cancel_left] at hy
  rw [hv, List.getD_eq_getElem?_getD, hy]
  rfl
theorem zero_call {b o : Nat} {xs : List Int} (lx : xs.length = 4) (wx : Wds xs) {w : World} (h : Cells w b o 4 xs) :
    Calls Try.prog 26 #[.pointer (some ⟨b, o, none⟩)] w fun e w' => e = .returned (.bool (decide (vw xs = 0))) ∧ Below w.heap.size w w' := by
  have c1 := us_cell (env := xs) (β := [(b, o)]) (i := 0) (n := 4) (b := b) (o := o) (by omega) wx fun j hj => by
    rw [h j hj, Nat.zero_add]
  refine (ko_ro zero_ok (env := xs) (β := [(b, o)]) (vs := [.pointer (some ⟨b, o, none⟩)]) lx rfl (by decide) ?_ ⟨⟨_, rfl, rfl⟩, trivial⟩ ⟨hi (by decide), wx⟩).mono ?_
  · intro r cs wr h'
    match r, h' with
    | 0, h' => cases h'; exact ⟨_, rfl, cells_lt (by decide) h, c1⟩
  · rintro e w' ⟨zs, β', v, _, hp, rfl, _, hv, _, _, hb⟩
    have hp : zs = [b01 (decide (vw xs = 0))] := hp
    subst hp
    obtain ⟨t, ht, rfl⟩ := hv
    have ht : (xs ++ [b01 (decide (vw xs = 0))])[4]? = some (b01 t) := ht
    rw [List.getElem?_append_right (by omega)] at ht
    have e8 : 4 - xs.length = 0 := by omega
    rw [e8] at ht
    refine ⟨?_, hb⟩
    have : t = decide (vw xs = 0) := by
      simp only [List.getElem?_cons_zero, Option.some.injEq] at ht
      cases t <;> cases h : decide (vw xs = 0) <;> rw [h] at ht <;> first | rfl | (simp [b01] at ht)
    rw [this]
theorem mulZ_call {bz oz bY oY : Nat} {zs ys : List Int} (lz : zs.length = 4) (ly : ys.length = 4) (wz : Wds zs) (wy : Wds ys) (hy : vw ys < vw prime) {w : World}
    (cz : Cells w bz oz 4 zs) (cy : Cells w bY oY 4 ys) (hf : Froz w bz oz) (dy : bY ≠ bz) :
    Calls Try.prog 25 #[.pointer (some ⟨bz, oz, none⟩), .pointer (some ⟨bz, oz, none⟩), .pointer (some ⟨bY, oY, none⟩)] w fun e w' => ∃ r, MulM 4 prime zs ys r ∧ e = .returned (.pointer (some ⟨bz, oz, none⟩)) ∧ Cells w' bz oz 4 r ∧ Eng.Touch w bz oz 4 w' := by
  have hw := wz.append wy
  have c0 := us_cell (env := zs ++ ys) (β := [(bz, oz), (bY, oY)]) (i := 0) (n := 4) (b := bz) (o := oz) (by simp; omega) hw fun j hj => by
    rw [cz j hj, Nat.zero_add, at_old (by omega)]
  have c1 := us_cell (env := zs ++ ys) (β := [(bz, oz), (bY, oY)]) (i := 4) (n := 4) (b := bY) (o := oY) (by simp; omega) hw fun j hj => by
    rw [cy j hj, app2 lz]
  refine (ko_w mulZ_ok (env := zs ++ ys) (β := [(bz, oz), (bY, oY)]) (vs := [.pointer (some ⟨bz, oz, none⟩), .pointer (some ⟨bz, oz, none⟩), .pointer (some ⟨bY, oY, none⟩)]) (b0 := bz) (o0 := oz) rfl rfl (by show (zs ++ ys).length = 8; simp; omega) rfl (by decide) ?_ hf ?_
    ⟨⟨_, rfl, rfl⟩, ⟨_, rfl, rfl⟩, ⟨_, rfl, rfl⟩, trivial⟩ ⟨fun _ => hw, by show vw (List.drop 4 _) < _; rw [drop_app lz]; exact hy⟩).mono ?_
  · intro r cs wr h
    match r, h with
    | 0, h => cases h; exact ⟨_, rfl, cells_lt (by decide) cz, c0⟩
    | 1, h => cases h; exact ⟨_, rfl, cells_lt (by decide) cy, c1⟩
  · intro r x cs h _
    match r, h with
    | 0, h => cases h; exact Or.inl dy
  · rintro e w' ⟨rs, β', v, hl, hp, rfl, hL, hv, hM, _, hT⟩
    have hp : MulM 4 prime ((zs ++ ys).take 4) ((zs ++ ys).drop 4) rs := hp
    rw [take_app lz, drop_app lz] at hp
    refine ⟨rs, hp, ?_, new_cells hM rfl rfl hL (by simp; omega), hT⟩
    obtain ⟨x, hx, rfl⟩ := hv
    obtain ⟨e', rfl⟩ := hL
    cases hx
    rfl
theorem invZ_call {bz oz : Nat} {zs : List Int} (lz : zs.length = 4) (wz : Wds zs) (hz : vw zs < vw prime) {w : World} (cz : Cells w bz oz 4 zs) (hf : Froz w bz oz) :
    Calls Try.prog 18 #[.pointer (some ⟨bz, oz, none⟩), .pointer (some ⟨bz, oz, none⟩)] w fun e w' => ∃ r, InvP 4 prime zs r ∧ e = .returned (.pointer (some ⟨bz, oz, none⟩)) ∧ Cells w' bz oz 4 r ∧ Eng.Touch w bz oz 4 w' := by
  have c0 := us_cell (env := zs) (β := [(bz, oz)]) (i := 0) (n := 4) (b := bz) (o := oz) (by omega) wz fun j hj => by
    rw [cz j hj, Nat.zero_add]
  refine (ko_w AZ.inv_ok (env := zs) (β := [(bz, oz)]) (vs := [.pointer (some ⟨bz, oz, none⟩), .pointer (some ⟨bz, oz, none⟩)]) (b0 := bz) (o0 := oz) rfl rfl lz rfl (by simp) ?_ hf ?_
    ⟨⟨_, rfl, rfl⟩, ⟨_, rfl, rfl⟩, trivial⟩ ⟨hi (by decide), wz, hz⟩).mono ?_
  · intro r cs wr h
    match r, h with
    | 0, h => cases h; exact ⟨_, rfl, cells_lt (by decide) cz, c0⟩
  · intro r x cs h _
    cases h
  · rintro e w' ⟨rs, β', v, hl, hp, rfl, hL, hv, hM, _, hT⟩
    have hp : InvP 4 prime zs rs := hp
    refine ⟨rs, hp, ?_, new_cells hM rfl rfl hL lz.symm, hT⟩
    obtain ⟨x, hx, rfl⟩ := hv
    obtain ⟨e', rfl⟩ := hL
    cases hx
    rfl
def aggW (s : List Int) : Value := .agg (s.map (Value.int .u64)).toArray
theorem oneE_call (w : World) : Calls Try.prog 23 #[] w fun e w' => e = .returned (aggW one) ∧ Below w.heap.size w w' := by
  refine (ko_ro (κ := kOneE) oneE_ok (env := []) (β := []) (vs := []) rfl rfl (by simp [kOneE]) (by simp [kOneE]) trivial ⟨fun _ => wds_nil, trivial⟩).mono ?_
  rintro e w' ⟨rs, β', v, hl, hpo, rfl, _, hv, _, _, hb⟩
  obtain ⟨vs, rfl, hv⟩ := hv
  exact ⟨by rw [is_lits hv]; rfl, hb⟩
theorem oneA_call (w : World) : Calls Try.prog 15 #[] w fun e w' => e = .returned (aggW one) ∧ Below w.heap.size w w' := by
  refine (ko_ro (κ := kOneA) oneA_ok (env := []) (β := []) (vs := []) rfl rfl (by simp [kOneA]) (by simp [kOneA]) trivial ⟨fun _ => wds_nil, trivial⟩).mono ?_
  rintro e w' ⟨rs, β', v, hl, hpo, rfl, _, hv, _, _, hb⟩
  obtain ⟨vs, rfl, hv⟩ := hv
  exact ⟨by rw [is_lits hv]; rfl, hb⟩
theorem invA_call {xs : List Int} (lx : xs.length = 4) (wx : Wds xs) (hx : vw xs < vw prime) (w : World) :
    Calls Try.prog 8 #[aggW xs] w fun e w' => ∃ r, InvP 4 prime xs r ∧ e = .returned (aggW r) ∧ Below w.heap.size w w' := by
  have i1 := us_is (env := xs) (β := []) (i := 0) (n := 4) (by omega) wx
  rw [List.drop_zero, List.take_of_length_le (by omega)] at i1
  refine (ko_ro invA_ok (env := xs) (β := []) (vs := [aggW xs]) lx rfl (by simp [kInvA]) (by simp [kInvA]) ⟨⟨_, rfl, i1⟩, trivial⟩ ⟨hi (by decide), wx, hx⟩).mono ?_
  rintro e w' ⟨rs, β', v, hl, hpo, rfl, _, hv, _, _, hb⟩
  obtain ⟨vs, rfl, hv⟩ := hv
  have hl : rs.length = 4 := hl
  rw [is_us hv lx.symm hl.symm]
  exact ⟨rs, hpo, rfl, hb⟩
end Go.Proofs.Ytmnenhkjdhbjmaa
