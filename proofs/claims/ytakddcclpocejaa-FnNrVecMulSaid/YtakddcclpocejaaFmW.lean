/-
  A product and a sum in memory, by their contracts, at any addresses; the inner product. No conditions.
-/
import Derived.Test.YtakddcclpocejaaFmV
namespace Go.Proofs.Ytakddcclpocejaa
open Go Eng Go.RowKit
set_option maxRecDepth 100000
def kAddZ : K := { f := 25, args := [pt 0, pt 0, pt 1], mem := [(us 0 4, true), (us 4 4, false)], m := 8, id := 40, mout := 4, ret := pt 0, mem1 := [(us 8 4, true), (us 4 4, false)] }
def kAddA : K := { f := 14, args := [ar 0 4, ar 4 4], mem := [], m := 8, id := 41, mout := 4, ret := ar 8 4, mem1 := [] }
theorem lSm : ∀ κ ∈ [kSmall], KOk Try.prog AA κ := by
  intro κ h
  simp only [List.mem_cons, List.not_mem_nil, or_false] at h
  rcases h with rfl
  exact small_ok
theorem addZ_ok : KOk Try.prog AA kAddZ := k_of (L := [kSmall]) lSm (by kernel_rfl) (by kernel_rfl) (T := addT prime (vr 0 4) (vr 4 4) 8 fun os _ => .fin (enc os) st0) (by kernel_rfl) fun env hl hw _ => by
  obtain ⟨h1, h2⟩ := two_vr (n := 4) hl
  refine addT_ok (wask kAddZ) wq vr_length vr_length hl.symm (vr_bd (by decide)) (vr_bd (by decide)) (by rw [h1]; exact hw.take _) (by rw [h2]; exact hw.drop _) fun e os ne' h => fin_of hl ?_
  have := h.val
  rw [h1, h2] at this
  exact this
theorem addA_ok : KOk Try.prog AA kAddA := k_of (L := [kSmall]) lSm (by kernel_rfl) (by kernel_rfl) (T := .both (addT prime (vr 0 4) (vr 4 4) 8 fun os _ => .fin (enc os) st0) (addT prime (vr 0 4) (vr 4 4) 8 fun os _ => .fin (enc os) st0)) (by kernel_rfl) fun env hl hw _ => by
  obtain ⟨h1, h2⟩ := two_vr (n := 4) hl
  have : (addT prime (vr 0 4) (vr 4 4) 8 fun os _ => .fin (enc os) st0).holds (AA.to kAddA) env := by
    refine addT_ok (wask kAddA) wq vr_length vr_length hl.symm (vr_bd (by decide)) (vr_bd (by decide)) (by rw [h1]; exact hw.take _) (by rw [h2]; exact hw.drop _) fun e os ne' h => fin_of hl ?_
    have := h.val
    rw [h1, h2] at this
    exact this
  exact ⟨this, this⟩
theorem app2 {a b : List Int} (la : a.length = 4) (j : Nat) : (a ++ b).getD (4 + j) 0 = b.getD j 0 := by
  rw [List.getD_eq_getElem?_getD, List.getD_eq_getElem?_getD, List.getElem?_append_right (by omega), la, Nat.add_sub_cancel_left]
/-- What stands in the written region afterwards. -/
theorem new_cells {W0 : World} {Tp : Nat → Nat → Prop} {env ys : List Int} {β β' : List (Nat × Nat)} {mem : List (List SC × Bool)} {w' : World} {m b o : Nat} (hM : MRel W0 Tp (env ++ ys) β' mem w') (h0 : mem[0]? = some (us m 4, true)) (hβ : β[0]? = some (b, o)) (hL : Longer β β') (hm : m = env.length) : Cells w' b o 4 ys := by
  have hb : β'[0]? = some (b, o) := by
    obtain ⟨e, rfl⟩ := hL
    rw [List.getElem?_append_left (List.getElem?_eq_some_iff.1 hβ).1]
    exact hβ
  intro j hj
  obtain ⟨v, hv, y, hy, _, rfl⟩ := hM.cells 0 _ _ _ h0 hb j (.ii .u64 (.var (m + j))) (by simp [us, u, hj])
  have hy : (env ++ ys)[m + j]? = some y := hy
  rw [hm, List.getElem?_append_right (by omega), Nat.add_sub_cancel_left] at hy
  rw [hv, List.getD_eq_getElem?_getD, hy]
  rfl
theorem mul_call {bz oz bx ox bY oY : Nat} {zs xs ys : List Int} (lz : zs.length = 4) (lx : xs.length = 4) (ly : ys.length = 4) (wz : Wds zs) (wx : Wds xs) (wy : Wds ys) (hy : vw ys < vw prime) {w : World}
    (cz : Cells w bz oz 4 zs) (cx : Cells w bx ox 4 xs) (cy : Cells w bY oY 4 ys) (hf : ∀ j, j < 4 → w.frozen? ⟨bz, oz + j, none⟩ = false) (dx : bx ≠ bz) (dy : bY ≠ bz) :
    Calls Try.prog 20 #[.pointer (some ⟨bz, oz, none⟩), .pointer (some ⟨bx, ox, none⟩), .pointer (some ⟨bY, oY, none⟩)] w fun e w' => ∃ r, MulM 4 prime xs ys r ∧ e = .returned (.pointer (some ⟨bz, oz, none⟩)) ∧ Cells w' bz oz 4 r ∧ Eng.Touch w bz oz 4 w' := by
  have hw := wz.append (wx.append wy)
  have lyx : (xs ++ ys).length = 8 := by simp; omega
  have c0 := us_cell (env := zs ++ (xs ++ ys)) (β := [(bz, oz), (bx, ox), (bY, oY)]) (i := 0) (n := 4) (b := bz) (o := oz) (by simp; omega) hw fun j hj => by
    rw [cz j hj, Nat.zero_add, at_old (by omega)]
  have c1 := us_cell (env := zs ++ (xs ++ ys)) (β := [(bz, oz), (bx, ox), (bY, oY)]) (i := 4) (n := 4) (b := bx) (o := ox) (by simp; omega) hw fun j hj => by
    rw [cx j hj, app2 lz, at_old (by omega)]
  have c2 := us_cell (env := zs ++ (xs ++ ys)) (β := [(bz, oz), (bx, ox), (bY, oY)]) (i := 8) (n := 4) (b := bY) (o := oY) (by simp; omega) hw fun j hj => by
    rw [cy j hj, show 8 + j = 4 + (4 + j) by omega, app2 lz, app2 lx]
  have hd : (zs ++ (xs ++ ys)).drop 8 = ys := by rw [show 8 = 4 + 4 from rfl, ← List.drop_drop, drop_app lz, drop_app lx]
  have ht : ((zs ++ (xs ++ ys)).drop 4).take 4 = xs := by rw [drop_app lz, take_app lx]
  refine (ko_w mulE_ok (env := zs ++ (xs ++ ys)) (β := [(bz, oz), (bx, ox), (bY, oY)]) (vs := [.pointer (some ⟨bz, oz, none⟩), .pointer (some ⟨bx, ox, none⟩), .pointer (some ⟨bY, oY, none⟩)]) (b0 := bz) (o0 := oz) rfl rfl (by show (zs ++ (xs ++ ys)).length = 12; simp; omega) rfl (by decide) ?_ hf ?_
    ⟨⟨_, rfl, rfl⟩, ⟨_, rfl, rfl⟩, ⟨_, rfl, rfl⟩, trivial⟩ ⟨fun _ => hw, by show vw (List.drop 8 _) < _; rw [hd]; exact hy⟩).mono ?_
  · intro r cs wr h
    match r, h with
    | 0, h => cases h; exact ⟨_, rfl, cells_lt (by decide) cz, c0⟩
    | 1, h => cases h; exact ⟨_, rfl, cells_lt (by decide) cx, c1⟩
    | 2, h => cases h; exact ⟨_, rfl, cells_lt (by decide) cy, c2⟩
  · intro r x cs h _
    match r, h with
    | 0, h => cases h; exact Or.inl dx
    | 1, h => cases h; exact Or.inl dy
  · rintro e w' ⟨rs, β', v, hl, hp, rfl, hL, hv, hM, _, hT⟩
    have hp : MulM 4 prime (((zs ++ (xs ++ ys)).drop 4).take 4) ((zs ++ (xs ++ ys)).drop 8) rs := hp
    rw [hd, ht] at hp
    refine ⟨rs, hp, ?_, new_cells hM rfl rfl hL (by simp; omega), hT⟩
    obtain ⟨x, hx, rfl⟩ := hv
    obtain ⟨e', rfl⟩ := hL
    cases hx
    rfl
theorem add_call {bz oz bY oY : Nat} {zs ys : List Int} (lz : zs.length = 4) (ly : ys.length = 4) (wz : Wds zs) (wy : Wds ys) {w : World}
    (cz : Cells w bz oz 4 zs) (cy : Cells w bY oY 4 ys) (hf : ∀ j, j < 4 → w.frozen? ⟨bz, oz + j, none⟩ = false) (dy : bY ≠ bz) :
    Calls Try.prog 25 #[.pointer (some ⟨bz, oz, none⟩), .pointer (some ⟨bz, oz, none⟩), .pointer (some ⟨bY, oY, none⟩)] w fun e w' => ∃ r, SumMod zs ys prime r ∧ e = .returned (.pointer (some ⟨bz, oz, none⟩)) ∧ Cells w' bz oz 4 r ∧ Eng.Touch w bz oz 4 w' := by
  have hw := wz.append wy
  have c0 := us_cell (env := zs ++ ys) (β := [(bz, oz), (bY, oY)]) (i := 0) (n := 4) (b := bz) (o := oz) (by simp; omega) hw fun j hj => by
    rw [cz j hj, Nat.zero_add, at_old (by omega)]
  have c1 := us_cell (env := zs ++ ys) (β := [(bz, oz), (bY, oY)]) (i := 4) (n := 4) (b := bY) (o := oY) (by simp; omega) hw fun j hj => by
    rw [cy j hj, app2 lz]
  refine (ko_w addZ_ok (env := zs ++ ys) (β := [(bz, oz), (bY, oY)]) (vs := [.pointer (some ⟨bz, oz, none⟩), .pointer (some ⟨bz, oz, none⟩), .pointer (some ⟨bY, oY, none⟩)]) (b0 := bz) (o0 := oz) rfl rfl (by show (zs ++ ys).length = 8; simp; omega) rfl (by decide) ?_ hf ?_
    ⟨⟨_, rfl, rfl⟩, ⟨_, rfl, rfl⟩, ⟨_, rfl, rfl⟩, trivial⟩ ⟨fun _ => hw, trivial⟩).mono ?_
  · intro r cs wr h
    match r, h with
    | 0, h => cases h; exact ⟨_, rfl, cells_lt (by decide) cz, c0⟩
    | 1, h => cases h; exact ⟨_, rfl, cells_lt (by decide) cy, c1⟩
  · intro r x cs h _
    match r, h with
    | 0, h => cases h; exact Or.inl dy
  · rintro e w' ⟨rs, β', v, hl, hp, rfl, hL, hv, hM, _, hT⟩
    have hp : SumMod ((zs ++ ys).take 4) ((zs ++ ys).drop 4) prime rs := hp
    rw [take_app lz, drop_app lz] at hp
    refine ⟨rs, hp, ?_, new_cells hM rfl rfl hL (by simp; omega), hT⟩
    obtain ⟨x, hx, rfl⟩ := hv
    obtain ⟨e', rfl⟩ := hL
    cases hx
    rfl
end Go.Proofs.Ytakddcclpocejaa
