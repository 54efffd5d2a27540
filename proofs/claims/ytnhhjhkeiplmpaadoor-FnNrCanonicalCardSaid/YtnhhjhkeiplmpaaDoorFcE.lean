/-
  Calls in memory by their contracts: a word of bytes, the test below the prime, into the other form. No conditions.
-/
import Derived.Test.YtnhhjhkeiplmpaaDoorFcC
import Derived.Test.YtnhhjhkeiplmpaaDoorCD
import Derived.Test.YtnhhjhkeiplmpaaDoorWH
import Derived.Laws.AppendOwn
import Derived.Laws.OwnMore
import Derived.Lib.Hide
import Derived.Lib.BufferMore
import Derived.Lib.Small
import Derived.Lib.Walk
import Derived.WalkKit
import Derived.Deep.Light
import Derived.Deep.RegionWith
import Derived.Deep.Cut
namespace Go.Proofs.YtnhhjhkeiplmpaaDoor
open Go Eng Go.RowKit
set_option maxRecDepth 100000
def Cells (w : World) (b o n : Nat) (xs : List Int) : Prop := ∀ j, j < n → w.cell? ⟨b, o + j, none⟩ = some (.int .u64 (xs.getD j 0))
theorem cells_below {B : Nat} {w w' : World} {b o n : Nat} {xs : List Int} (h : Below B w w') (hb : b < B) (hc : Cells w b o n xs) : Cells w' b o n xs := fun j hj => (h.cell hb).trans (hc j hj)
theorem cells_lt {w : World} {b o n : Nat} {xs : List Int} (hn : 0 < n) (hc : Cells w b o n xs) : b < w.heap.size := World.block_lt_of_cell? w _ (hc 0 hn)
def Froz (w : World) (b o : Nat) : Prop := ∀ j, j < 4 → w.frozen? ⟨b, o + j, none⟩ = false
/-- What stands in the written region afterwards. -/
theorem new_cells {W0 : World} {Tp : Nat → Nat → Prop} {env ys : List Int} {β β' : List (Nat × Nat)} {mem : List (List SC × Bool)} {w' : World} {m b o : Nat} (hM : MRel W0 Tp (env ++ ys) β' mem w') (h0 : mem[0]? = some (us m 4, true)) (hβ : β[0]? = some (b, o)) (hL : Longer β β') (hm : m = env.length) : Cells w' b o 4 ys := by
  have hb : β'[0]? = some (b, o) := by
    obtain ⟨e, rfl⟩ := hL
    rw [List.getElem?_append_left (List.getElem?_eq_some_iff.1 hβ).1]
    exact hβ
  intro j hj
  obtain ⟨v, hv, y, hy, _, rfl⟩ := hM.cells 0 _ _ _ h0 hb j (.ii .u64 (.var (m + j))) (by simp [us, u, hj])
  have hy : (env ++ ys)[m + j]? = some y := hy
  rw [hm, List.getElem?_append_right (by omega), Nat.add_sub_cancel_left] at hy
  rw [hv, List.getD_eq_getElem?_getD, hy]
  rfl
/-- Bytes that lie in memory. -/
def CellsB (w : World) (b o n : Nat) (l : List Int) : Prop := ∀ j, j < n → w.cell? ⟨b, o + j, none⟩ = some (.int .u8 (l.getD j 0))
theorem cellsB_below {B : Nat} {w w' : World} {b o n : Nat} {xs : List Int} (h : Below B w w') (hb : b < B) (hc : CellsB w b o n xs) : CellsB w' b o n xs := fun j hj => (h.cell hb).trans (hc j hj)
theorem cellsB_lt {w : World} {b o n : Nat} {xs : List Int} (hn : 0 < n) (hc : CellsB w b o n xs) : b < w.heap.size := World.block_lt_of_cell? w _ (hc 0 hn)
theorem ub_cell {env : List Int} {β : List (Nat × Nat)} {i n b o : Nat} {w : World} (h : i + n ≤ env.length) (hw : ∀ x ∈ env, By x) (hc : ∀ j, j < n → w.cell? ⟨b, o + j, none⟩ = some (.int .u8 (env.getD (i + j) 0))) :
    ∀ (j : Nat) (sc : SC), (ub i n)[j]? = some sc → ∃ v, w.cell? ⟨b, o + j, none⟩ = some v ∧ sc.is env β v := by
  intro j sc hj
  have hj' : j < n := by
    have := (List.getElem?_eq_some_iff.1 hj).1
    simpa [ub] using this
  have hs : sc = .ii .u8 (.var (i + j)) := by
    have : (ub i n)[j]? = some (.ii .u8 (.var (i + j))) := by simp [ub, hj']
    rw [this] at hj
    injection hj with hj
    exact hj.symm
  subst hs
  have hm : env.getD (i + j) 0 ∈ env := by
    rw [List.getD_eq_getElem?_getD, List.getElem?_eq_getElem (by omega)]
    exact List.getElem_mem _
  refine ⟨_, hc j hj', env.getD (i + j) 0, ?_, (fits_iff _ _).2 ?_, rfl⟩
  · show env[i + j]? = some _
    rw [List.getD_eq_getElem?_getD, List.getElem?_eq_getElem (by omega)]
    rfl
  · obtain ⟨h1, h2⟩ := hw _ hm
    have k1 : kMin .u8 = 0 := by decide
    have k2 : kMax .u8 = 255 := by decide
    omega
theorem by_wds {l : List Int} (h : ∀ x ∈ l, By x) : Wds l := fun x hx => ⟨(h x hx).1, by have := (h x hx).2; omega⟩
def kBeC (c : Nat) : K := { f := 22, args := [.ww (.cc (.ss 0 0 8 c))], mem := [(ub 0 8, false)], m := 8, id := 39, mout := 1, ret := w1 8, mem1 := [(ub 0 8, false)] }
theorem beC_ok (c : Nat) : KOk Tryd.prog AA (kBeC c) := kok_of (C := CC []) mixed ext0 (conOf_ok (by simp)) (fun _ _ _ _ _ _ h => by cases h) 60 (by kernel_rfl) fun env hl hr _ => by
  have ht : xcall (CC []) (fun f => xcode (CC []) 60 f 0) (kBeC c).f (kBeC c).args (kBeC c).st (kBeC c).end = be64T := by kernel_rfl
  rw [ht]
  have hb : ∀ x ∈ env, By x := by
    intro x hx
    obtain ⟨j, hj, rfl⟩ := List.getElem_of_mem hx
    have hl' : env.length = 8 := hl
    have hm : ∀ j, j < 8 → (IntKind.u8, j) ∈ rngA (kBeC c).args ++ rngM (kBeC c).mem := by
      show ∀ j, j < 8 → (IntKind.u8, j) ∈ rngM [(ub 0 8, false)]
      decide
    have h : kMin .u8 ≤ env.getD j 0 ∧ env.getD j 0 ≤ kMax .u8 := (fits_iff _ _).1 (hr.get (hm j (by omega)))
    have e : env.getD j 0 = env[j] := by rw [List.getD_eq_getElem?_getD, List.getElem?_eq_getElem hj]; rfl
    have h1 : kMin .u8 = 0 := by decide
    have h2 : kMax .u8 = 255 := by decide
    rw [← e]
    exact ⟨by have := h.1; omega, by have := h.2; omega⟩
  exact be64T_ok (A := AA.to (kBeC c)) hl hb fun e o ho => fin_of hl fun _ => congrArg (fun x => [x]) ho
theorem be_call {b o c : Nat} {l : List Int} (ll : l.length = 8) (hl : ∀ x ∈ l, By x) {w : World} (h : CellsB w b o 8 l) :
    Calls Tryd.prog 22 #[.slice (some ⟨b, o, none⟩) 8 c] w fun e w' => e = .returned (.int .u64 (beV l)) ∧ Below w.heap.size w w' := by
  have c1 := ub_cell (env := l) (β := [(b, o)]) (i := 0) (n := 8) (b := b) (o := o) (by omega) hl fun j hj => by
    rw [h j hj, Nat.zero_add]
  refine (ko_ro (beC_ok c) (env := l) (β := [(b, o)]) (vs := [.slice (some ⟨b, o, none⟩) 8 c]) ll rfl (by
    intro p hp
    have hp : p ∈ [(ub 0 8, false)] := hp
    simp only [List.mem_cons, List.not_mem_nil, or_false] at hp
    rw [hp]) ?_ ⟨⟨_, rfl, rfl⟩, trivial⟩ ⟨by_wds hl, trivial⟩).mono ?_
  · intro r cs wr h'
    match r, h' with
    | 0, h' => cases h'; exact ⟨_, rfl, cellsB_lt (by decide) h, c1⟩
  · rintro e w' ⟨zs, β', v, _, hp, rfl, _, hv, _, _, hb⟩
    have hp : (∀ x ∈ l, By x) → zs = [beV l] := hp
    have hp := hp hl
    subst hp
    obtain ⟨y, hy, _, rfl⟩ := hv
    have hy : (l ++ [beV l])[8]? = some y := hy
    rw [List.getElem?_append_right (by omega)] at hy
    have e8 : 8 - l.length = 0 := by omega
    rw [e8] at hy
    simp only [List.getElem?_cons_zero, Option.some.injEq] at hy
    subst hy
    exact ⟨rfl, hb⟩
theorem small_call {b o : Nat} {xs : List Int} (lx : xs.length = 4) (wx : Wds xs) {w : World} (h : Cells w b o 4 xs) :
    Calls Tryd.prog 23 #[.pointer (some ⟨b, o, none⟩)] w fun e w' => e = .returned (.bool (decide (vw xs < vw prime))) ∧ Below w.heap.size w w' := by
  have c1 := us_cell (env := xs) (β := [(b, o)]) (i := 0) (n := 4) (b := b) (o := o) (by omega) wx fun j hj => by
    rw [h j hj, Nat.zero_add]
  refine (ko_ro small_ok (env := xs) (β := [(b, o)]) (vs := [.pointer (some ⟨b, o, none⟩)]) lx rfl (by decide) ?_ ⟨⟨_, rfl, rfl⟩, trivial⟩ ⟨wx, trivial⟩).mono ?_
  · intro r cs wr h'
    match r, h' with
    | 0, h' => cases h'; exact ⟨_, rfl, cells_lt (by decide) h, c1⟩
  · rintro e w' ⟨zs, β', v, _, hp, rfl, _, hv, _, _, hb⟩
    have hp : zs = [b01 (decide (vw xs < vw prime))] := hp
    subst hp
    obtain ⟨t, ht, rfl⟩ := hv
    have ht : (xs ++ [b01 (decide (vw xs < vw prime))])[4]? = some (b01 t) := ht
    rw [List.getElem?_append_right (by omega)] at ht
    have e8 : 4 - xs.length = 0 := by omega
    rw [e8] at ht
    refine ⟨?_, hb⟩
    have : t = decide (vw xs < vw prime) := by
      simp only [List.getElem?_cons_zero, Option.some.injEq] at ht
      cases t <;> cases h : decide (vw xs < vw prime) <;> rw [h] at ht <;> first | rfl | (simp [b01] at ht)
    rw [this]
theorem toM_call {bz oz : Nat} {zs : List Int} (lz : zs.length = 4) (wz : Wds zs) {w : World} (cz : Cells w bz oz 4 zs) (hf : Froz w bz oz) :
    Calls Tryd.prog 24 #[.pointer (some ⟨bz, oz, none⟩)] w fun e w' => ∃ r, MulM 4 prime zs rsq r ∧ e = .returned (.pointer (some ⟨bz, oz, none⟩)) ∧ Cells w' bz oz 4 r ∧ Eng.Touch w bz oz 4 w' := by
  have c0 := us_cell (env := zs) (β := [(bz, oz)]) (i := 0) (n := 4) (b := bz) (o := oz) (by omega) wz fun j hj => by
    rw [cz j hj, Nat.zero_add]
  refine (ko_w toM_ok (env := zs) (β := [(bz, oz)]) (vs := [.pointer (some ⟨bz, oz, none⟩)]) (b0 := bz) (o0 := oz) rfl rfl lz rfl (by simp) ?_ hf ?_
    ⟨⟨_, rfl, rfl⟩, trivial⟩ ⟨wz, trivial⟩).mono ?_
  · intro r cs wr h
    match r, h with
    | 0, h => cases h; exact ⟨_, rfl, cells_lt (by decide) cz, c0⟩
  · intro r x cs h _
    cases h
  · rintro e w' ⟨rs, β', v, hl, hp, rfl, hL, hv, hM, _, hT⟩
    have hp : MulM 4 prime zs rsq rs := hp
    refine ⟨rs, hp, ?_, new_cells hM rfl rfl hL lz.symm, hT⟩
    obtain ⟨x, hx, rfl⟩ := hv
    obtain ⟨e', rfl⟩ := hL
    cases hx
    rfl
end Go.Proofs.YtnhhjhkeiplmpaaDoor
