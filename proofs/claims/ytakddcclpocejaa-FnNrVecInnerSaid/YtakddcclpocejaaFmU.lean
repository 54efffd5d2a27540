/-
  The product of two lists of elements, element by element, walked by hand, its calls by their contracts. No conditions.
-/
import Derived.Test.YtakddcclpocejaaFmZ
import Derived.Test.YtakddcclpocejaaWH
import Derived.Lib.Hide
namespace Go.Proofs.Ytakddcclpocejaa
open Go Eng Go.RowKit
set_option maxRecDepth 100000
theorem touch_stay {wr w' : World} {b o n b2 o2 m : Nat} {xs : List Int} (hT : Eng.Touch wr b o n w') (hm : 0 < m) (hne : b2 ≠ b ∨ o2 + m ≤ o ∨ o + n ≤ o2) (hc : Cells wr b2 o2 m xs) : Cells w' b2 o2 m xs := fun j hj => by
  rw [hT.cell b2 (o2 + j) (cells_lt hm hc) (fun hh => by rcases hne with h | h | h <;> omega)]
  exact hc j hj
def put (R : Nat → List Int) (k : Nat) (r : List Int) (j : Nat) : List Int := if j = k then r else R j
theorem put_same (R : Nat → List Int) (k : Nat) (r : List Int) : put R k r k = r := if_pos rfl
theorem put_ne (R : Nat → List Int) {k j : Nat} (r : List Int) (h : j ≠ k) : put R k r j = R j := if_neg h
theorem made_cell {z : Array Value} {n j : Nat} (hj : j < n) : (madeCells z n)[j]? = some (z[j % z.size]!) := by
  simp [madeCells, hj]
theorem made_els {w : World} {len j : Nat} (hj : j < len) : Cells (w.alloc (.cells (madeCells #[.int .u64 0, .int .u64 0, .int .u64 0, .int .u64 0] (len * 4)) 40)) w.heap.size (j * 4) 4 (List.replicate 4 0) := fun i hi => by
  have hb : j * 4 + i < len * 4 := by
    have : (j + 1) * 4 ≤ len * 4 := Nat.mul_le_mul_right _ hj
    omega
  rw [World.cell?_alloc_new]
  show (madeCells #[.int .u64 0, .int .u64 0, .int .u64 0, .int .u64 0] (len * 4))[j * 4 + i]? = _
  rw [made_cell hb]
  have e : (j * 4 + i) % 4 = i := by omega
  show some ((#[.int .u64 0, .int .u64 0, .int .u64 0, .int .u64 0] : Array Value)[(j * 4 + i) % 4]!) = _
  rw [e]
  match i, hi with
  | 0, _ | 1, _ | 2, _ | 3, _ => rfl
theorem run_make_vec {len : Nat} (hlen : len ≤ 2147483647) : ∀ w : World, (Instr.makeSlice 45 (.int .i64 (len : Int)) (.int .i64 (len : Int))).run Try.prog w = .ok (.slice (some ⟨w.heap.size, 0, none⟩) len len) (w.alloc (.cells (madeCells #[.int .u64 0, .int .u64 0, .int .u64 0, .int .u64 0] (len * 4)) 40)) := by
  intro w
  obtain ⟨i0, hi, hz0, hz1, hz2⟩ := info_parts info40
  have := run_make (P := Try.prog) w 45 40 i0 _ Try.underlying45 hi hz0 .i64 .i64 len len (by omega) (by omega) (by rw [hz2]; omega) (by omega)
  rw [hz1, Int.toNat_natCast] at this
  exact this
/-- What the products leave. -/
def MulR (len g : Nat) (X Y : Nat → List Int) (w w' : World) : Prop := ∃ R : Nat → List Int, (∀ j, j < len → MulM 4 prime (X j) (Y j) (R j)) ∧ (∀ j, j < len → Cells w' g (j * 4) 4 (R j)) ∧ Eng.Touch w g 0 (len * 4) w'
def MulI (len g k : Nat) (X Y : Nat → List Int) (w wr : World) : Prop := ∃ R : Nat → List Int, (∀ j, j < len → (R j).length = 4 ∧ Wds (R j)) ∧ (∀ j, j < k → MulM 4 prime (X j) (Y j) (R j)) ∧ (∀ j, j < len → Cells wr g (j * 4) 4 (R j)) ∧ Eng.Touch w g 0 (len * 4) wr
theorem mulvec_call {g len capR cap1 cap2 b1 off1 b2 off2 : Nat} {o1 o2 : Option Addr} {X Y : Nat → List Int} {w : World} (hR : ∀ j, j < len → Cells w g (j * 4) 4 (List.replicate 4 0)) (hF : ∀ o, o < len * 4 → w.frozen? ⟨g, o, none⟩ = false)
    (hL1 : Lies w o1 b1 off1 len X) (hL2 : Lies w o2 b2 off2 len Y) (d1 : 0 < len → b1 ≠ g) (d2 : 0 < len → b2 ≠ g) (hY : ∀ i, i < len → vw (Y i) < vw prime) (hlen : len ≤ 2147483647) :
    Calls Try.prog 36 #[.slice (some ⟨g, 0, none⟩) len capR, .slice o1 len cap1, .slice o2 len cap2] w fun e w' => e = .returned (.tuple #[]) ∧ MulR len g X Y w w' := by
  go_enter Try.func36, Try.ntmps36
  go_wp2
  go_loopw [6, 22] (fun _ i wr => ∃ k : Nat, k ≤ len ∧ i = .int .i64 k ∧ MulI len g k X Y w wr) (fun _ i _ => len - (intOf i).toNat)
  case atStart => exact ⟨0, Nat.zero_le _, rfl, fun _ => List.replicate 4 0, fun j _ => ⟨rfl, wds_zeros _⟩, fun j hj => absurd hj (by omega), hR, Kept.refl _ _⟩
  case round =>
    obtain ⟨k, hk, rfl, R, hRl, hRm, hRc, hT⟩ := hrel
    go_upto_region 5 with fail
    · have hk' : k < len := by assumption
      have hp : 0 < len := by omega
      have d1 := d1 hp
      have d2 := d2 hp
      have hc1 := touch_stay hT (by decide) (Or.inl d1) (hL1.cells k hk')
      have hc2 := touch_stay hT (by decide) (Or.inl d2) (hL2.cells k hk')
      have hX := hL1.el k hk'
      have hYk := hL2.el k hk'
      have hYq := hY k hk'
      have hRk := hRl k hk'
      have hcR := hRc k hk'
      have hg : g < w.heap.size := cells_lt (by decide) (hR k hk')
      have hfR : ∀ j, j < 4 → wr.frozen? ⟨g, k * 4 + j, none⟩ = false := fun j hj => by
        have : (k + 1) * 4 ≤ len * 4 := Nat.mul_le_mul_right _ hk'
        rw [hT.frozen _ _ hg]
        exact hF _ (by omega)
      obtain rfl := hL1.ad hp
      obtain rfl := hL2.ad hp
      have H1 := Lib.hid hR
      have H2 := Lib.hid hF
      have H3 := Lib.hid hRl
      have H4 := Lib.hid hRm
      have H5 := Lib.hid hRc
      clear hR hF hRl hRm hRc
      go_region_with (go_at_call 20; refine (mul_call (zs := R k) (xs := X k) (ys := Y k) hRk.1 hX.1 hYk.1 hRk.2 hX.2 hYk.2 hYq ?_ ?_ ?_ ?_ (by omega) (by omega)).mono ?_; exact hcR; exact hc1; exact hc2; exact hfR; rintro e w' ⟨m, hm, rfl, hcm, hTm⟩)
      have hw : wr.heap.size ≤ w'.heap.size := hTm.size
      go_wp2
      go_roundw
      case rel =>
        have hw : wr.heap.size ≤ w'.heap.size := hTm.size
        refine ⟨k + 1, by omega, by go_num, put R k m, fun j hj => ?_, fun j hj => ?_, fun j hj => ?_, ?_⟩
        · by_cases hjk : j = k
          · subst hjk; rw [put_same]; exact ⟨hm.1, hm.2.1⟩
          · rw [put_ne _ _ hjk]; exact H3.out j hj
        · rcases Nat.lt_succ_iff_lt_or_eq.1 hj with h | rfl
          · rw [put_ne _ _ (by omega)]; exact H4.out j h
          · rw [put_same]; exact hm
        · by_cases hjk : j = k
          · subst hjk; rw [put_same]; exact hcm
          · rw [put_ne _ _ hjk]
            exact touch_stay hTm (by decide) (Or.inr (by omega)) (H5.out j hj)
        · have : (k + 1) * 4 ≤ len * 4 := Nat.mul_le_mul_right _ hk'
          exact (Kept.drew hT).trans hTm fun b o hb hh => ⟨hh.1, by omega, by omega⟩
      case measure => simp [intOf]; omega
    · have hkl : k = len := by omega
      subst hkl
      go_wp2
      refine bodyPost_end (results_none rfl _ _ _) rfl ?_
      exact ⟨rfl, R, hRm, hRc, hT⟩
def OutM (len : Nat) (X Y : Nat → List Int) (w' : World) (e : Ending) : Prop := ∃ (o : Option Addr) (g cap : Nat) (R : Nat → List Int), e = .returned (.slice o len cap) ∧ Lies w' o g 0 len R ∧ ∀ i, i < len → MulM 4 prime (X i) (Y i) (R i)
theorem vec_start {w : World} {len : Nat} :
    Below w.heap.size w ((w.alloc (.cells (madeCells #[.int .u64 0, .int .u64 0, .int .u64 0, .int .u64 0] (len * 4)) 40)).alloc (.cells #[.slice (some ⟨w.heap.size, 0, none⟩) len len] 45)) ∧
    (∀ j, j < len → Cells ((w.alloc (.cells (madeCells #[.int .u64 0, .int .u64 0, .int .u64 0, .int .u64 0] (len * 4)) 40)).alloc (.cells #[.slice (some ⟨w.heap.size, 0, none⟩) len len] 45)) w.heap.size (j * 4) 4 (List.replicate 4 0)) ∧
    (∀ o, ((w.alloc (.cells (madeCells #[.int .u64 0, .int .u64 0, .int .u64 0, .int .u64 0] (len * 4)) 40)).alloc (.cells #[.slice (some ⟨w.heap.size, 0, none⟩) len len] 45)).frozen? ⟨w.heap.size, o, none⟩ = false) ∧
    ((w.alloc (.cells (madeCells #[.int .u64 0, .int .u64 0, .int .u64 0, .int .u64 0] (len * 4)) 40)).alloc (.cells #[.slice (some ⟨w.heap.size, 0, none⟩) len len] 45)).cell? ⟨w.heap.size + 1, 0, none⟩ = some (.slice (some ⟨w.heap.size, 0, none⟩) len len) ∧
    ((w.alloc (.cells (madeCells #[.int .u64 0, .int .u64 0, .int .u64 0, .int .u64 0] (len * 4)) 40)).alloc (.cells #[.slice (some ⟨w.heap.size, 0, none⟩) len len] 45)).heap.size = w.heap.size + 2 := by
  have e1 := size_alloc w (.cells (madeCells #[.int .u64 0, .int .u64 0, .int .u64 0, .int .u64 0] (len * 4)) 40)
  have hE := fun j (hj : j < len) => made_els (w := w) hj
  have fE : ∀ o, (w.alloc (.cells (madeCells #[.int .u64 0, .int .u64 0, .int .u64 0, .int .u64 0] (len * 4)) 40)).frozen? ⟨w.heap.size, o, none⟩ = false := fun o => by simp
  have bE := (Below.refl w.heap.size w).alloc (Nat.le_refl _) (.cells (madeCells #[.int .u64 0, .int .u64 0, .int .u64 0, .int .u64 0] (len * 4)) 40)
  generalize w.alloc (.cells (madeCells #[.int .u64 0, .int .u64 0, .int .u64 0, .int .u64 0] (len * 4)) 40) = wE at *
  have bB := (Below.refl wE.heap.size wE).alloc (Nat.le_refl _) (.cells #[.slice (some ⟨w.heap.size, 0, none⟩) len len] 45)
  refine ⟨bE.trans (bB.mono (by omega)), fun j hj => cells_below bB (by omega) (hE j hj), fun o => ?_, ?_, by rw [size_alloc, e1]⟩
  · rw [bB.frozen (show w.heap.size < wE.heap.size by omega)]; exact fE o
  · rw [← e1, World.cell?_alloc_new]; rfl
set_option maxHeartbeats 400000 in
theorem vecmul_all {o1 o2 : Option Addr} {b1 off1 b2 off2 len cap1 cap2 : Nat} {X Y : Nat → List Int} {w : World} (hL1 : Lies w o1 b1 off1 len X) (hL2 : Lies w o2 b2 off2 len Y) (hY : ∀ i, i < len → vw (Y i) < vw prime) (hlen : len ≤ 2147483647) :
    Calls Try.prog 13 #[.slice o1 len cap1, .slice o2 len cap2] w fun e w' => OutM len X Y w' e ∧ Below w.heap.size w w' := by
  have hm := run_make_vec hlen
  obtain ⟨q1, q2, q3, q4, q5⟩ := vec_start (w := w) (len := len)
  have Q1 := Lib.hid q1
  have Q2 := Lib.hid q2
  have Q3 := Lib.hid q3
  have Q4 := Lib.hid q4
  have Q5 := Lib.hid q5
  clear q1 q2 q3 q4 q5
  go_enter Try.func13, Try.ntmps13
  go_upto_region 2 with fail
  clear hm
  generalize (w.alloc (.cells (madeCells #[.int .u64 0, .int .u64 0, .int .u64 0, .int .u64 0] (len * 4)) 40)).alloc (.cells #[.slice (some ⟨w.heap.size, 0, none⟩) len len] 45) = w0 at *
  have hS0 : w.heap.size + 2 ≤ w0.heap.size := Nat.le_of_eq Q5.out.symm
  have H1 := Lib.hid (hL1.below Q1.out fun h => hL1.lt h)
  have H2 := Lib.hid (hL2.below Q1.out fun h => hL2.lt h)
  have HY := Lib.hid hY
  clear hY
  go_upto_region 3 with (first
    | (go_at_call 23; first
      | (have hx := hb1; refine (made_call (X := Y) (H2.out.below hb1 fun h => H2.out.lt h) hlen).mono ?_; rintro e w2 ⟨v2, rfl, hown2, hb2⟩; obtain ⟨oB, gB, cB, rfl, hLB, hgB⟩ := own_lies hL2.el hown2; clear hown2; have hs1 := hb1.size; have hcv : w2.cell? ⟨w.heap.size + 1, 0, none⟩ = some (.slice (some ⟨w.heap.size, 0, none⟩) len len) := (hb2.cell (p := ⟨w.heap.size + 1, 0, none⟩) (by show w.heap.size + 1 < _; omega)).trans ((hb1.cell (p := ⟨w.heap.size + 1, 0, none⟩) (by show w.heap.size + 1 < _; omega)).trans Q4.out))
      | (refine (made_call (X := X) H1.out hlen).mono ?_; rintro e w1 ⟨v1, rfl, hown1, hb1⟩; obtain ⟨oA, gA, cA, rfl, hLA, hgA⟩ := own_lies hL1.el hown1; clear hown1))
    | (go_at_call 36; have hs1' : w1.heap.size ≤ w2.heap.size := hb2.size; have hB02 : Below w0.heap.size w0 w2 := hx.trans (hb2.mono hs1); refine (mulvec_call (g := w.heap.size) (X := X) (Y := Y) (fun j hj => cells_below hB02 (by omega) (Q2.out j hj)) (fun o _ => (hB02.frozen (show w.heap.size < w0.heap.size by omega)).trans (Q3.out o)) (hLA.below hb2 fun h => hLA.lt h) hLB (fun h => by have := hgA h; omega) (fun h => by have := hgB h; omega) HY.out hlen).mono ?_; rintro e w3 ⟨rfl, R, hR, hRc, hT⟩)
    | go_in)
  have hs2 : w1.heap.size ≤ w2.heap.size := hb2.size
  have hs3 : w2.heap.size ≤ w3.heap.size := hT.size
  have hB3 : Below w.heap.size w w3 := (Q1.out.trans (hB02.mono (by omega))).trans (hT.below (Nat.le_refl _) (by omega))
  have hcv3 : w3.cell? ⟨w.heap.size + 1, 0, none⟩ = some (.slice (some ⟨w.heap.size, 0, none⟩) len len) := by
    rw [hT.cell _ _ (by omega) (fun h => by omega)]
    exact hcv
  have hLR : Lies w3 (some ⟨w.heap.size, 0, none⟩) w.heap.size 0 len R := ⟨fun _ => rfl, fun i hi => ⟨(hR i hi).1, (hR i hi).2.1⟩, fun i hi => by rw [Nat.zero_add]; exact hRc i hi⟩
  have HR := Lib.hid hR
  clear hR hRc hcv hT hx hb1 hb2 hLA hLB
  go_wp2
  refine bodyPost_end (results_none rfl _ _ _) rfl ?_
  go_wp2_with (go_at_call 24; refine (told_call (X := R) hLR hlen).mono ?_; rintro e w4 ⟨v4, rfl, hown4, hb4⟩; obtain ⟨oC, gC, cC, rfl, hLC, _⟩ := own_lies hLR.el hown4; clear hown4)
  go_ret
  exact ⟨⟨oC, gC, cC, R, rfl, hLC, HR.out⟩, hB3.trans (hb4.mono (by omega))⟩
end Go.Proofs.Ytakddcclpocejaa
