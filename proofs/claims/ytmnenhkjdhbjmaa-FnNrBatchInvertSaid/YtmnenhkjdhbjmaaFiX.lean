/-
  What BatchInvert keeps in memory, and how its steps turn it. No conditions.
-/
import Derived.Test.YtmnenhkjdhbjmaaFiW
import Derived.Laws.OwnMore
import Derived.Deep.MidRow
namespace Go.Proofs.Ytmnenhkjdhbjmaa
open Go Eng Go.RowKit
set_option maxRecDepth 100000
theorem infoB : (Try.prog.info? 4).map (fun i => (i.zero, i.size, i.bytes)) = some (some (.bool false), 1, 1) := by kernel_rfl
theorem made_cell {z : Array Value} {n j : Nat} (hj : j < n) : (madeCells z n)[j]? = some (z[j % z.size]!) := by
  simp [madeCells, hj]
theorem run_make_els {len : Nat} (hlen : len ≤ 2147483647) : ∀ w : World, (Instr.makeSlice 44 (.int .i64 (len : Int)) (.int .i64 (len : Int))).run Try.prog w = .ok (.slice (some ⟨w.heap.size, 0, none⟩) len len) (w.alloc (.cells (madeCells #[.int .u64 0, .int .u64 0, .int .u64 0, .int .u64 0] (len * 4)) 40)) := by
  intro w
  obtain ⟨i0, hi, hz0, hz1, hz2⟩ := info_parts info40
  have := run_make (P := Try.prog) w 44 40 i0 _ Try.underlying44 hi hz0 .i64 .i64 len len (by omega) (by omega) (by rw [hz2]; omega) (by omega)
  rw [hz1, Int.toNat_natCast] at this
  exact this
theorem run_make_bools {len : Nat} (hlen : len ≤ 2147483647) : ∀ w : World, (Instr.makeSlice 63 (.int .i64 (len : Int)) (.int .i64 (len : Int))).run Try.prog w = .ok (.slice (some ⟨w.heap.size, 0, none⟩) len len) (w.alloc (.cells (madeCells #[.bool false] len) 4)) := by
  intro w
  obtain ⟨i0, hi, hz0, hz1, hz2⟩ := info_parts infoB
  have := run_make (P := Try.prog) w 63 4 i0 _ Try.underlying63 hi hz0 .i64 .i64 len len (by omega) (by omega) (by rw [hz2]; omega) (by omega)
  rw [hz1, Int.toNat_natCast, Nat.mul_one] at this
  exact this
theorem made_els {w : World} {len j : Nat} (hj : j < len) : Cells (w.alloc (.cells (madeCells #[.int .u64 0, .int .u64 0, .int .u64 0, .int .u64 0] (len * 4)) 40)) w.heap.size (j * 4) 4 (List.replicate 4 0) := fun i hi => by
  have hb : j * 4 + i < len * 4 := by
    have : (j + 1) * 4 ≤ len * 4 := Nat.mul_le_mul_right _ hj
    omega
  rw [World.cell?_alloc_new]
  show (madeCells #[.int .u64 0, .int .u64 0, .int .u64 0, .int .u64 0] (len * 4))[j * 4 + i]? = _
  rw [made_cell hb]
  have e : (j * 4 + i) % 4 = i := by omega
  show some ((#[.int .u64 0, .int .u64 0, .int .u64 0, .int .u64 0] : Array Value)[(j * 4 + i) % 4]!) = _
  rw [e]
  match i, hi with
  | 0, _ | 1, _ | 2, _ | 3, _ => rfl
theorem made_bools {w : World} {len j : Nat} (hj : j < len) : (w.alloc (.cells (madeCells #[.bool false] len) 4)).cell? ⟨w.heap.size, j, none⟩ = some (.bool false) := by
  rw [World.cell?_alloc_new]
  show (madeCells #[.bool false] len)[j]? = _
  rw [made_cell hj]
  show some ((#[Value.bool false] : Array Value)[j % 1]!) = _
  rw [Nat.mod_one]
  rfl
theorem size_alloc (w : World) (o : Obj) : (w.alloc o).heap.size = w.heap.size + 1 := by simp
theorem touch_setCells {W0 : World} {b o n : Nat} : ∀ (vs : List Value) (k : Nat) (w : World), o ≤ k → k + vs.length ≤ o + n → Eng.Touch W0 b o n w → Eng.Touch W0 b o n (w.setCells b k vs)
  | [], _, _, _, _, h => h
  | v :: vs, k, w, h1, h2, h => touch_setCells vs (k + 1) _ (by omega) (by simp at h2; omega) (Kept.setCell h b k v (Or.inr ⟨rfl, h1, by simp at h2; omega⟩))
theorem touch_set (w : World) (b o : Nat) (v : Value) : Eng.Touch w b o 1 (w.setCell ⟨b, o, none⟩ v) := Kept.setCell (Kept.refl _ _) b o v (Or.inr ⟨rfl, Nat.le_refl _, by omega⟩)

/-! ### what lies in memory -/
structure Mid (len bA : Nat) (w : World) (Z : Nat → Bool) (s : List Int) (R : Nat → List Int) (wr : World) : Prop where
  below : Below w.heap.size w wr
  rows : ∀ j, j < len → Cells wr w.heap.size (j * 4) 4 (R j)
  rl : ∀ j, j < len → (R j).length = 4 ∧ Wds (R j)
  rf : ∀ o, o < len * 4 → wr.frozen? ⟨w.heap.size, o, none⟩ = false
  zs : ∀ j, j < len → wr.cell? ⟨w.heap.size + 1, j, none⟩ = some (.bool (Z j))
  zf : ∀ j, j < len → wr.frozen? ⟨w.heap.size + 1, j, none⟩ = false
  acc : Cells wr bA 0 4 s
  af : Froz wr bA 0
  sl : s.length = 4 ∧ Wds s ∧ vw s < vw prime
  hA : w.heap.size + 2 ≤ bA
section
variable {len bA : Nat} {w wr w' : World} {Z : Nat → Bool} {s : List Int} {R : Nat → List Int}
theorem Mid.lt (h : Mid len bA w Z s R wr) : bA < wr.heap.size := cells_lt (by decide) h.acc
theorem Mid.touch {b o n : Nat} {Z' : Nat → Bool} {s' : List Int} {R' : Nat → List Int} (h : Mid len bA w Z s R wr) (hT : Eng.Touch wr b o n w') (hb : w.heap.size ≤ b)
    (hr : ∀ j, j < len → Cells w' w.heap.size (j * 4) 4 (R' j)) (hl : ∀ j, j < len → (R' j).length = 4 ∧ Wds (R' j)) (hz : ∀ j, j < len → w'.cell? ⟨w.heap.size + 1, j, none⟩ = some (.bool (Z' j))) (ha : Cells w' bA 0 4 s') (hs : s'.length = 4 ∧ Wds s' ∧ vw s' < vw prime) : Mid len bA w Z' s' R' w' := by
  have := h.lt
  have := h.hA
  refine ⟨h.below.trans (hT.below hb (by omega)), hr, hl, fun o ho => ?_, hz, fun j hj => ?_, ha, fun j hj => ?_, hs, h.hA⟩
  · rw [hT.frozen _ _ (by omega)]; exact h.rf o ho
  · rw [hT.frozen _ _ (by omega)]; exact h.zf j hj
  · rw [hT.frozen _ _ (by omega)]; exact h.af j hj
theorem Mid.more (h : Mid len bA w Z s R wr) (hb : Below wr.heap.size wr w') : Mid len bA w Z s R w' := by
  have := h.lt
  have := h.hA
  refine ⟨h.below.trans (hb.mono (by omega)), fun j hj => cells_below hb (by omega) (h.rows j hj), h.rl, fun o ho => ?_, fun j hj => ?_, fun j hj => ?_, cells_below hb h.lt h.acc, fun j hj => ?_, h.sl, h.hA⟩
  · rw [hb.frozen (show w.heap.size < wr.heap.size by omega)]; exact h.rf o ho
  · rw [hb.cell (show w.heap.size + 1 < wr.heap.size by omega)]; exact h.zs j hj
  · rw [hb.frozen (show w.heap.size + 1 < wr.heap.size by omega)]; exact h.zf j hj
  · rw [hb.frozen (show bA < wr.heap.size by omega)]; exact h.af j hj
/-- Cells apart from what is touched stay. -/
theorem touch_stay {b o n b2 o2 m : Nat} {xs : List Int} (hT : Eng.Touch wr b o n w') (hm : 0 < m) (hne : b2 ≠ b ∨ o2 + m ≤ o ∨ o + n ≤ o2) (hc : Cells wr b2 o2 m xs) : Cells w' b2 o2 m xs := fun j hj => by
  rw [hT.cell b2 (o2 + j) (cells_lt hm hc) (fun hh => by rcases hne with h | h | h <;> omega)]
  exact hc j hj
theorem Mid.touchA {s' : List Int} (h : Mid len bA w Z s R wr) (hT : Eng.Touch wr bA 0 4 w') (hc : Cells w' bA 0 4 s') (hs : s'.length = 4 ∧ Wds s' ∧ vw s' < vw prime) : Mid len bA w Z s' R w' := by
  have := h.lt
  have := h.hA
  refine h.touch hT (by omega) (fun j hj => touch_stay hT (by decide) (Or.inl (by omega)) (h.rows j hj)) h.rl (fun j hj => ?_) hc hs
  rw [hT.cell _ _ (by omega) (fun hh => by omega)]; exact h.zs j hj
def put (R : Nat → List Int) (k : Nat) (r : List Int) (j : Nat) : List Int := if j = k then r else R j
theorem put_same (R : Nat → List Int) (k : Nat) (r : List Int) : put R k r k = r := if_pos rfl
theorem put_ne (R : Nat → List Int) {k j : Nat} (r : List Int) (h : j ≠ k) : put R k r j = R j := if_neg h
theorem Mid.touchR {k : Nat} {r : List Int} (h : Mid len bA w Z s R wr) (hk : k < len) (hT : Eng.Touch wr w.heap.size (k * 4) 4 w') (hc : Cells w' w.heap.size (k * 4) 4 r) (hr : r.length = 4 ∧ Wds r) : Mid len bA w Z s (put R k r) w' := by
  have := h.lt
  have := h.hA
  refine h.touch hT (Nat.le_refl _) (fun j hj => ?_) (fun j hj => ?_) (fun j hj => ?_) (touch_stay hT (by decide) (Or.inl (by omega)) h.acc) h.sl
  · by_cases hjk : j = k
    · subst hjk; rw [put_same]; exact hc
    · rw [put_ne _ _ hjk]
      exact touch_stay hT (by decide) (Or.inr (by omega)) (h.rows j hj)
  · by_cases hjk : j = k
    · subst hjk; rw [put_same]; exact hr
    · rw [put_ne _ _ hjk]; exact h.rl j hj
  · rw [hT.cell _ _ (by omega) (fun hh => by omega)]; exact h.zs j hj
theorem Mid.setZ {k : Nat} (h : Mid len bA w Z s R wr) (hk : k < len) : Mid len bA w (fun j => if j = k then true else Z j) s R (wr.setCell ⟨w.heap.size + 1, k, none⟩ (.bool true)) := by
  have := h.lt
  have := h.hA
  have hT := touch_set wr (w.heap.size + 1) k (.bool true)
  refine h.touch hT (by omega) (fun j hj => touch_stay hT (by decide) (Or.inl (by omega)) (h.rows j hj)) h.rl (fun j hj => ?_) (touch_stay hT (by decide) (Or.inl (by omega)) h.acc) h.sl
  by_cases hjk : j = k
  · subst hjk
    rw [if_pos rfl]
    exact World.cell?_setCell_same _ _ _ (by rw [h.zs j hj])
  · rw [if_neg hjk, hT.cell _ _ (by omega) (fun hh => by omega)]; exact h.zs j hj
theorem Mid.setR {k : Nat} {r : List Int} (h : Mid len bA w Z s R wr) (hk : k < len) (hr : r.length = 4 ∧ Wds r) : Mid len bA w Z s (put R k r) (wr.setCells w.heap.size (k * 4) (r.map (.int .u64))) := by
  have hT : Eng.Touch wr w.heap.size (k * 4) 4 (wr.setCells w.heap.size (k * 4) (r.map (.int .u64))) := touch_setCells _ _ _ (Nat.le_refl _) (by simp [hr.1]) (Kept.refl _ _)
  refine h.touchR hk hT (fun j hj => ?_) hr
  have hjl : j < (r.map (Value.int .u64)).length := by rw [List.length_map, hr.1]; exact hj
  rw [World.cell?_setCells_in w.heap.size (r.map (Value.int .u64)) (k * 4) wr (fun i hi => by
    have hi : i < 4 := by simpa [hr.1] using hi
    rw [h.rows k hk i hi]; rfl) j hjl, List.getElem_map, List.getD_eq_getElem?_getD, List.getElem?_eq_getElem (by omega)]
  rfl
end
end Go.Proofs.Ytmnenhkjdhbjmaa
