/-
  What the reading of bytes keeps in memory. No conditions.
-/
import Derived.Test.YtnhhjhkeiplmpaaDoorFcE
import Derived.Deep.MidRow
namespace Go.Proofs.YtnhhjhkeiplmpaaDoor
open Go Eng Go.RowKit
set_option maxRecDepth 100000
/-! ### two arrays in memory: the one that is made, the one that is handed back -/
structure ZM (bz br : Nat) (w wz : World) (zs rs : List Int) : Prop where
  below : Below w.heap.size w wz
  cz : Cells wz bz 0 4 zs
  fz : Froz wz bz 0
  cr : Cells wz br 0 4 rs
  fr : Froz wz br 0
  hz : w.heap.size ≤ bz
  hr : w.heap.size ≤ br
  ne : br ≠ bz
theorem touch_stay {wr w' : World} {b o n b2 o2 m : Nat} {xs : List Int} (hT : Eng.Touch wr b o n w') (hm : 0 < m) (hne : b2 ≠ b ∨ o2 + m ≤ o ∨ o + n ≤ o2) (hc : Cells wr b2 o2 m xs) : Cells w' b2 o2 m xs := fun j hj => by
  rw [hT.cell b2 (o2 + j) (cells_lt hm hc) (fun hh => by rcases hne with h | h | h <;> omega)]
  exact hc j hj
theorem touch_setCells {W0 : World} {b o n : Nat} : ∀ (vs : List Value) (k : Nat) (w : World), o ≤ k → k + vs.length ≤ o + n → Eng.Touch W0 b o n w → Eng.Touch W0 b o n (w.setCells b k vs)
  | [], _, _, _, _, h => h
  | v :: vs, k, w, h1, h2, h => touch_setCells vs (k + 1) _ (by omega) (by simp at h2; omega) (Kept.setCell h b k v (Or.inr ⟨rfl, h1, by simp at h2; omega⟩))
section
variable {bz br : Nat} {w wz w' : World} {zs rs xs : List Int}
theorem ZM.more (h : ZM bz br w wz zs rs) (hb : Below wz.heap.size wz w') : ZM bz br w w' zs rs := by
  have h1 := cells_lt (by decide) h.cz
  have h2 := cells_lt (by decide) h.cr
  refine ⟨h.below.trans (hb.mono h.below.size), cells_below hb h1 h.cz, fun j hj => ?_, cells_below hb h2 h.cr, fun j hj => ?_, h.hz, h.hr, h.ne⟩
  · rw [hb.frozen (show bz < wz.heap.size from h1)]; exact h.fz j hj
  · rw [hb.frozen (show br < wz.heap.size from h2)]; exact h.fr j hj
theorem ZM.touchZ (h : ZM bz br w wz zs rs) (hT : Eng.Touch wz bz 0 4 w') (hc : Cells w' bz 0 4 xs) : ZM bz br w w' xs rs := by
  have h1 := cells_lt (by decide) h.cz
  have h2 := cells_lt (by decide) h.cr
  refine ⟨h.below.trans (hT.below h.hz h.below.size), hc, fun j hj => ?_, touch_stay hT (by decide) (Or.inl h.ne) h.cr, fun j hj => ?_, h.hz, h.hr, h.ne⟩
  · rw [hT.frozen _ _ h1]; exact h.fz j hj
  · rw [hT.frozen _ _ h2]; exact h.fr j hj
theorem ZM.touchR (h : ZM bz br w wz zs rs) (hT : Eng.Touch wz br 0 4 w') (hc : Cells w' br 0 4 xs) : ZM bz br w w' zs xs := by
  have h1 := cells_lt (by decide) h.cz
  have h2 := cells_lt (by decide) h.cr
  refine ⟨h.below.trans (hT.below h.hr h.below.size), touch_stay hT (by decide) (Or.inl h.ne.symm) h.cz, fun j hj => ?_, hc, fun j hj => ?_, h.hz, h.hr, h.ne⟩
  · rw [hT.frozen _ _ h1]; exact h.fz j hj
  · rw [hT.frozen _ _ h2]; exact h.fr j hj
theorem ZM.at (h : ZM bz br w wz zs rs) (i : Nat) (hi : i < 4) : wz.cell? ⟨bz, i, none⟩ = some (.int .u64 (zs.getD i 0)) := by
  have := h.cz i hi
  rwa [Nat.zero_add] at this
theorem ZM.fat (h : ZM bz br w wz zs rs) (i : Nat) (hi : i < 4) : wz.frozen? ⟨bz, i, none⟩ = false := by
  have := h.fz i hi
  rwa [Nat.zero_add] at this
theorem ZM.setZ (h : ZM bz br w wz zs rs) (lz : zs.length = 4) (i : Nat) (hi : i < 4) (v : Int) : ZM bz br w (wz.setCell ⟨bz, i, none⟩ (.int .u64 v)) (zs.set i v) rs := by
  have hT : Eng.Touch wz bz 0 4 (wz.setCell ⟨bz, i, none⟩ (.int .u64 v)) := Kept.setCell (Kept.refl _ _) bz i _ (Or.inr ⟨rfl, Nat.zero_le _, by omega⟩)
  refine h.touchZ hT fun j hj => ?_
  rw [Nat.zero_add]
  by_cases hji : j = i
  · subst hji
    rw [World.cell?_setCell_same _ _ _ (by rw [h.at j hj]), List.getD_eq_getElem?_getD, List.getElem?_set_self (by omega)]
    rfl
  · have hT1 : Eng.Touch wz bz i 1 (wz.setCell ⟨bz, i, none⟩ (.int .u64 v)) := Kept.setCell (Kept.refl _ _) bz i _ (Or.inr ⟨rfl, Nat.le_refl _, by omega⟩)
    rw [hT1.cell _ _ (cells_lt (by decide) h.cz) (fun hh => by omega), h.at j hj, List.getD_eq_getElem?_getD, List.getD_eq_getElem?_getD, List.getElem?_set_ne (Ne.symm hji)]
theorem setCells_cells {b : Nat} {r : List Int} (lr : r.length = 4) (hc : Cells wz b 0 4 xs) : Cells (wz.setCells b 0 (r.map (.int .u64))) b 0 4 r := fun j hj => by
  have hjl : j < (r.map (Value.int .u64)).length := by rw [List.length_map, lr]; exact hj
  rw [World.cell?_setCells_in b (r.map (Value.int .u64)) 0 wz (fun i hi => by
    have hi : i < 4 := by simpa [lr] using hi
    rw [hc i hi]; rfl) j hjl, List.getElem_map, List.getD_eq_getElem?_getD, List.getElem?_eq_getElem (by omega)]
  rfl
theorem ZM.setR (h : ZM bz br w wz zs rs) {r : List Int} (lr : r.length = 4) : ZM bz br w (wz.setCells br 0 (r.map (.int .u64))) zs r :=
  h.touchR (touch_setCells _ _ _ (Nat.le_refl _) (by simp [lr]) (Kept.refl _ _)) (setCells_cells lr h.cr)
theorem ZM.drew (h : ZM bz br w wz zs rs) : ZM bz br w wz.drew zs rs := ⟨h.below.drew, h.cz, h.fz, h.cr, h.fr, h.hz, h.hr, h.ne⟩
theorem ZM.rat (h : ZM bz br w wz zs rs) (i : Nat) (hi : i < 4) : wz.cell? ⟨br, i, none⟩ = some (.int .u64 (rs.getD i 0)) := by
  have := h.cr i hi
  rwa [Nat.zero_add] at this
theorem ZM.rfat (h : ZM bz br w wz zs rs) (i : Nat) (hi : i < 4) : wz.frozen? ⟨br, i, none⟩ = false := by
  have := h.fr i hi
  rwa [Nat.zero_add] at this
theorem ZM.thereR (h : ZM bz br w wz zs rs) : wz.there br 0 4 := fun j hj => ⟨by rw [h.cr j hj]; rfl, h.fr j hj⟩
theorem ZM.thereZ (h : ZM bz br w wz zs rs) : wz.there bz 0 4 := fun j hj => ⟨by rw [h.cz j hj]; rfl, h.fz j hj⟩
theorem range_of {b o : Nat} {r : List Int} (lr : r.length = 4) (h : Cells wz b o 4 r) : wz.rangeAt b o (r.map (.int .u64)) := fun j v hj => by
  rw [List.getElem?_map] at hj
  have hjl : j < r.length := by
    rcases Nat.lt_or_ge j r.length with h | h
    · exact h
    · rw [List.getElem?_eq_none h] at hj; cases hj
  rw [List.getElem?_eq_getElem hjl] at hj
  rw [h j (by omega), List.getD_eq_getElem?_getD, List.getElem?_eq_getElem hjl]
  exact hj
theorem zm_start (w : World) (o : Obj) (t : TypeId) : ZM (w.heap.size + 1 + 1) (w.heap.size + 1) w (((w.alloc o).alloc (.cells #[Value.int IntKind.u64 0, Value.int IntKind.u64 0, Value.int IntKind.u64 0, Value.int IntKind.u64 0] t)).alloc (.cells #[Value.int IntKind.u64 0, Value.int IntKind.u64 0, Value.int IntKind.u64 0, Value.int IntKind.u64 0] t)) (List.replicate 4 0) (List.replicate 4 0) := by
  have e0 : (w.alloc o).heap.size = w.heap.size + 1 := by simp
  have b0 := (Below.refl w.heap.size w).alloc (Nat.le_refl _) o
  generalize w.alloc o = w0 at *
  have e1 : (w0.alloc (.cells #[Value.int IntKind.u64 0, Value.int IntKind.u64 0, Value.int IntKind.u64 0, Value.int IntKind.u64 0] t)).heap.size = w0.heap.size + 1 := by simp
  have c1 : Cells (w0.alloc (.cells #[Value.int IntKind.u64 0, Value.int IntKind.u64 0, Value.int IntKind.u64 0, Value.int IntKind.u64 0] t)) w0.heap.size 0 4 (List.replicate 4 0) := fun j hj => by
    rw [Nat.zero_add, World.cell?_alloc_new]
    match j, hj with
    | 0, _ | 1, _ | 2, _ | 3, _ => rfl
  have f1 : ∀ o, (w0.alloc (.cells #[Value.int IntKind.u64 0, Value.int IntKind.u64 0, Value.int IntKind.u64 0, Value.int IntKind.u64 0] t)).frozen? ⟨w0.heap.size, o, none⟩ = false := fun o => by simp
  have b1 := (Below.refl w0.heap.size w0).alloc (Nat.le_refl _) (.cells #[Value.int IntKind.u64 0, Value.int IntKind.u64 0, Value.int IntKind.u64 0, Value.int IntKind.u64 0] t)
  generalize w0.alloc (.cells #[Value.int IntKind.u64 0, Value.int IntKind.u64 0, Value.int IntKind.u64 0, Value.int IntKind.u64 0] t) = w1 at *
  have e2 : (w1.alloc (.cells #[Value.int IntKind.u64 0, Value.int IntKind.u64 0, Value.int IntKind.u64 0, Value.int IntKind.u64 0] t)).heap.size = w1.heap.size + 1 := by simp
  have c2 : Cells (w1.alloc (.cells #[Value.int IntKind.u64 0, Value.int IntKind.u64 0, Value.int IntKind.u64 0, Value.int IntKind.u64 0] t)) w1.heap.size 0 4 (List.replicate 4 0) := fun j hj => by
    rw [Nat.zero_add, World.cell?_alloc_new]
    match j, hj with
    | 0, _ | 1, _ | 2, _ | 3, _ => rfl
  have f2 : ∀ o, (w1.alloc (.cells #[Value.int IntKind.u64 0, Value.int IntKind.u64 0, Value.int IntKind.u64 0, Value.int IntKind.u64 0] t)).frozen? ⟨w1.heap.size, o, none⟩ = false := fun o => by simp
  have b2 := (Below.refl w1.heap.size w1).alloc (Nat.le_refl _) (.cells #[Value.int IntKind.u64 0, Value.int IntKind.u64 0, Value.int IntKind.u64 0, Value.int IntKind.u64 0] t)
  generalize w1.alloc (.cells #[Value.int IntKind.u64 0, Value.int IntKind.u64 0, Value.int IntKind.u64 0, Value.int IntKind.u64 0] t) = w2 at *
  rw [e1, e0] at c2 f2
  rw [e0] at c1 f1
  refine ⟨(b0.trans (b1.mono (by omega))).trans (b2.mono (by omega)), c2, fun j hj => f2 _, cells_below b2 (by omega) c1, fun j hj => ?_, by omega, by omega, by omega⟩
  rw [b2.frozen (show w.heap.size + 1 < w1.heap.size by omega)]
  exact f1 _
end
def wsB (l : List Int) : List Int := [beV ((l.drop 24).take 8), beV ((l.drop 16).take 8), beV ((l.drop 8).take 8), beV ((l.drop 0).take 8)]
theorem wsB_eq {l : List Int} (ll : l.length = 32) : wsB l = leW 4 l.reverse := by
  have e : ∀ k, k + 8 ≤ 32 → beV ((l.drop k).take 8) = leV ((l.reverse.drop (32 - 8 - k)).take 8) := fun k hk => by
    unfold beV
    congr 1
    apply List.ext_getElem?
    intro i
    rcases Nat.lt_or_ge i 8 with h | h
    · rw [List.getElem?_reverse (by simp; omega), List.getElem?_take, List.getElem?_take, if_pos h, List.length_take, List.length_drop, if_pos (by omega), List.getElem?_drop, List.getElem?_drop, List.getElem?_reverse (by omega), ll]
      congr 1
      omega
    · rw [List.getElem?_eq_none (by simp; omega), List.getElem?_eq_none (by simp; omega)]
  show [beV ((l.drop 24).take 8), beV ((l.drop 16).take 8), beV ((l.drop 8).take 8), beV ((l.drop 0).take 8)] = [leV (l.reverse.take 8), leV (((l.reverse.drop 8)).take 8), leV ((((l.reverse.drop 8).drop 8)).take 8), leV (((((l.reverse.drop 8).drop 8).drop 8)).take 8)]
  rw [e 24 (by decide), e 16 (by decide), e 8 (by decide), e 0 (by decide)]
  simp only [List.drop_drop, Nat.sub_self, List.drop_zero]
theorem sub_cells {w : World} {b o n k m : Nat} {l : List Int} (h : CellsB w b o n l) (hk : k + m ≤ n) : CellsB w b (o + k) m ((l.drop k).take m) := fun j hj => by
  have := h (k + j) (by omega)
  rw [Nat.add_assoc, this, List.getD_eq_getElem?_getD, List.getD_eq_getElem?_getD, List.getElem?_take, if_pos hj, List.getElem?_drop]
theorem sub_by {l : List Int} {k m : Nat} (h : ∀ x ∈ l, By x) : ∀ x ∈ (l.drop k).take m, By x := fun x hx => h x (List.mem_of_mem_drop (List.mem_of_mem_take hx))
theorem cellsB_more {w w' : World} {b o n : Nat} {xs : List Int} (h : Below w.heap.size w w') (hc : CellsB w b o n xs) : CellsB w' b o n xs := fun j hj => (h.cell (World.block_lt_of_cell? w _ (hc j hj))).trans (hc j hj)
end Go.Proofs.YtnhhjhkeiplmpaaDoor
