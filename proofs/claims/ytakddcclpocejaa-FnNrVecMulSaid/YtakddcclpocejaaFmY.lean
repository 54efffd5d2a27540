/-
  The inner product as the laws call it. No conditions.
-/
import Derived.Test.YtakddcclpocejaaFmX
import Derived.Laws.OwnMore
namespace Go.Proofs.Ytakddcclpocejaa
open Go Eng Go.RowKit
set_option maxRecDepth 100000
theorem cellsX_len {X : Nat → List Int} : ∀ k : Nat, (∀ i, i < k → (X i).length = 4) → (cellsX X k).length = k * 4
  | 0, _ => rfl
  | k + 1, h => by rw [cellsX_succ, List.length_append, List.length_map, cellsX_len k fun i hi => h i (by omega), h k (by omega)]; omega
theorem cellsX_at {X : Nat → List Int} {i j : Nat} (hj : j < 4) : ∀ k : Nat, i < k → (∀ i, i < k → (X i).length = 4) → (cellsX X k)[i * 4 + j]? = some (.int .u64 ((X i).getD j 0))
  | 0, hi, _ => absurd hi (by omega)
  | k + 1, hi, h => by
    have lk := cellsX_len k fun i hi => h i (by omega)
    rw [cellsX_succ]
    rcases Nat.lt_succ_iff_lt_or_eq.1 hi with hi | rfl
    · rw [List.getElem?_append_left (by rw [lk]; omega)]
      exact cellsX_at hj k hi fun i hi => h i (by omega)
    · have hl := h i (by omega)
      rw [List.getElem?_append_right (by rw [lk]; omega), lk, Nat.add_sub_cancel_left, List.getElem?_map, List.getElem?_eq_getElem (by omega), List.getD_eq_getElem?_getD, List.getElem?_eq_getElem (by omega)]
      rfl
theorem own_lies {w : World} {base : Nat} {e : TypeId} {len : Nat} {v : Value} {X : Nat → List Int} (hX : ∀ i, i < len → (X i).length = 4 ∧ Wds (X i)) (h : w.ownsRow base e 4 v len (cellsX X len)) :
    ∃ o g cap, v = .slice o len cap ∧ Lies w o g 0 len X ∧ (0 < len → base ≤ g) := by
  rcases h.2 with ⟨rfl, rfl⟩ | ⟨g, cap, cur, rfl, hg, _⟩
  · exact ⟨none, 0, 0, rfl, ⟨fun h => absurd h (by omega), fun i hi => absurd hi (by omega), fun i hi => absurd hi (by omega)⟩, fun h => absurd h (by omega)⟩
  · refine ⟨_, g, cap, rfl, ⟨fun _ => rfl, hX, fun i hi j hj => ?_⟩, fun _ => hg⟩
    have hb : i * 4 + j < len * 4 := by
      have : (i + 1) * 4 ≤ len * 4 := Nat.mul_le_mul_right _ hi
      omega
    have := h.cellAt (i * 4 + j) hb
    rw [Nat.zero_add, this]
    exact cellsX_at hj len hi fun i hi => (hX i hi).1
theorem zero_cells (w : World) (t : TypeId) : Cells (w.alloc (.cells #[.int .u64 0, .int .u64 0, .int .u64 0, .int .u64 0] t)) w.heap.size 0 4 (List.replicate 4 0) := fun j hj => by
  rw [Nat.zero_add, World.cell?_alloc_new]
  match j, hj with
  | 0, _ | 1, _ | 2, _ | 3, _ => rfl
theorem zero_froz (w : World) (t : TypeId) : Froz (w.alloc (.cells #[.int .u64 0, .int .u64 0, .int .u64 0, .int .u64 0] t)) w.heap.size 0 := fun j hj => by simp
theorem froz_below {B : Nat} {w w' : World} {b o : Nat} (h : Below B w w') (hb : b < B) (hc : Froz w b o) : Froz w' b o := fun j hj => (h.frozen hb).trans (hc j hj)
theorem size_alloc (w : World) (o : Obj) : (w.alloc o).heap.size = w.heap.size + 1 := by simp
def aggW (s : List Int) : Value := .agg (s.map (Value.int .u64)).toArray
theorem inner_all {o1 o2 : Option Addr} {b1 off1 b2 off2 len cap1 cap2 : Nat} {X Y : Nat → List Int} {w : World} (hL1 : Lies w o1 b1 off1 len X) (hL2 : Lies w o2 b2 off2 len Y) (hY : ∀ i, i < len → vw (Y i) < vw prime) (hlen : len ≤ 2147483647) :
    Calls Try.prog 15 #[.slice o1 len cap1, .slice o2 len cap2] w fun e w' => (∃ s, Acc (List.replicate 4 0) X Y len s ∧ e = .returned (aggW s)) ∧ Below w.heap.size w w' := by
  go_enter Try.func15, Try.ntmps15
  go_upto_region 2 with (go_at_call 23; refine (made_call (X := X) (hL1.below ((Below.refl w.heap.size w).alloc (Nat.le_refl _) _) fun h => hL1.lt h) hlen).mono ?_; rintro e w1 ⟨v1, rfl, hown1, hb1⟩; obtain ⟨oA, gA, cA, rfl, hLA, hgA⟩ := own_lies hL1.el hown1; clear hown1)
  have sz0 := size_alloc w (.cells #[.int .u64 0, .int .u64 0, .int .u64 0, .int .u64 0] 23)
  have sz1 := hb1.size
  have hB1 : Below w.heap.size w w1 := ((Below.refl w.heap.size w).alloc (Nat.le_refl _) _).trans (hb1.mono (by omega))
  have z1 := cells_below hb1 (by omega) (zero_cells w 23)
  have f1 := froz_below hb1 (by omega) (zero_froz w 23)
  have sz1' := size_alloc w1 (.cells #[.slice oA len cA] 45)
  go_wp2_with (first
    | (go_at_call 23; refine (made_call (X := Y) (hL2.below (hB1.alloc (by omega) _) fun h => hL2.lt h) hlen).mono ?_; rintro e w2 ⟨v2, rfl, hown2, hb2⟩; obtain ⟨oB, gB, cB, rfl, hLB, hgB⟩ := own_lies hL2.el hown2; clear hown2; have sz2 := hb2.size; rw [size_alloc] at sz2; have hcv : w2.cell? ⟨w1.heap.size, 0, none⟩ = some (.slice oA len cA) := (hb2.cell (by simp)).trans (by simp); have h12 : w1.heap.size < w2.heap.size := by omega)
    | (go_at_call 37; have hA2 := (Below.refl w1.heap.size w1).alloc (Nat.le_refl _) (.cells #[.slice oA len cA] 45) |>.trans (hb2.mono (by simp)); have hzA := (Below.refl w2.heap.size w2).alloc (Nat.le_refl _) (.cells #[.int .u64 0, .int .u64 0, .int .u64 0, .int .u64 0] 40); (refine (inner_call (zs := List.replicate 4 0) rfl (wds_zeros _) (by decide) (zero_cells w2 40) (zero_froz w2 40) ((hLA.below hA2 fun h => hLA.lt h).below hzA fun h => by have := hLA.lt h; omega) (hLB.below hzA fun h => hLB.lt h) (fun h => by have := hLA.lt h; omega) (fun h => by have := hLB.lt h; omega) hY hlen).mono ?_; rintro e w3 ⟨rfl, ⟨s, hs, hcs⟩, hT⟩; have hls := (acc_ok rfl (wds_zeros _) (by decide) len s hs).1; obtain ⟨x0, x1, x2, x3, rfl⟩ := lenX hls; have e0 : w3.cell? ⟨w2.heap.size, 0, none⟩ = some (.int .u64 x0) := hcs 0 (by decide); have e1 : w3.cell? ⟨w2.heap.size, 1, none⟩ = some (.int .u64 x1) := hcs 1 (by decide); have e2 : w3.cell? ⟨w2.heap.size, 2, none⟩ = some (.int .u64 x2) := hcs 2 (by decide); have e3 : w3.cell? ⟨w2.heap.size, 3, none⟩ = some (.int .u64 x3) := hcs 3 (by decide); have z3 := touch_cells hT (by decide) (by omega) (cells_below hzA (by omega) (cells_below hA2 (by omega) z1)); have f3 := touch_froz hT (by rw [size_alloc]; omega) (froz_below hzA (by omega) (froz_below hA2 (by omega) f1)); have hB3 : Below w.heap.size w w3 := (hB1.trans (hA2.mono (by omega))).trans ((hzA.mono (by omega)).trans (hT.below (by omega) (by rw [size_alloc]; omega))); have g0 : w3.cell? ⟨w.heap.size, 0, none⟩ = some (.int .u64 0) := z3 0 (by decide); have h0 : w3.frozen? ⟨w.heap.size, 0, none⟩ = false := f3 0 (by decide); have g1 : w3.cell? ⟨w.heap.size, 1, none⟩ = some (.int .u64 0) := z3 1 (by decide); have h1 : w3.frozen? ⟨w.heap.size, 1, none⟩ = false := f3 1 (by decide); have g2 : w3.cell? ⟨w.heap.size, 2, none⟩ = some (.int .u64 0) := z3 2 (by decide); have h2 : w3.frozen? ⟨w.heap.size, 2, none⟩ = false := f3 2 (by decide); have g3 : w3.cell? ⟨w.heap.size, 3, none⟩ = some (.int .u64 0) := z3 3 (by decide); have h3 : w3.frozen? ⟨w.heap.size, 3, none⟩ = false := f3 3 (by decide)))
    | go_in)
  refine bodyPost_ret (v := .agg #[.int .u64 x0, .int .u64 x1, .int .u64 x2, .int .u64 x3]) ?_ rfl ?_
  · simp [results, go_sem, e0, e1, e2, e3]
  go_wp2
  refine bodyPost_ret (v := .agg #[.int .u64 x0, .int .u64 x1, .int .u64 x2, .int .u64 x3]) ?_ rfl ⟨⟨_, hs, rfl⟩, ((((hB3.setCell (Nat.le_refl _) _).setCell (Nat.le_refl _) _).setCell (Nat.le_refl _) _).setCell (Nat.le_refl _) _)⟩
  simp [results, go_sem, g0, g1, g2, g3]
end Go.Proofs.Ytakddcclpocejaa
