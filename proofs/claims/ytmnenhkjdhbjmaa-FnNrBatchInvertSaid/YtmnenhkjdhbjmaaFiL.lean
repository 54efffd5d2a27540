/-
  The law on BatchInvert, walked by hand, its calls by their contracts. No conditions.
-/
import Derived.Test.YtmnenhkjdhbjmaaFiB
import Derived.Test.YtmnenhkjdhbjmaaWH
import Derived.Laws.OwnMore
namespace Go.Proofs.Ytmnenhkjdhbjmaa
open Go Eng Go.RowKit
set_option maxRecDepth 100000
theorem cellsX_len {X : Nat → List Int} : ∀ k : Nat, (∀ i, i < k → (X i).length = 4) → (cellsX X k).length = k * 4
  | 0, _ => rfl
  | k + 1, h => by rw [cellsX_succ, List.length_append, List.length_map, cellsX_len k fun i hi => h i (by omega), h k (by omega)]; omega
theorem cellsX_at {X : Nat → List Int} {i j : Nat} (hj : j < 4) : ∀ k : Nat, i < k → (∀ i, i < k → (X i).length = 4) → (cellsX X k)[i * 4 + j]? = some (.int .u64 ((X i).getD j 0))
  | 0, hi, _ => absurd hi (by omega)
  | k + 1, hi, h => by
    have lk := cellsX_len k fun i hi => h i (by omega)
    rw [cellsX_succ]
    rcases Nat.lt_succ_iff_lt_or_eq.1 hi with hi | rfl
    · rw [List.getElem?_append_left (by rw [lk]; omega)]
      exact cellsX_at hj k hi fun i hi => h i (by omega)
    · have hl := h i (by omega)
      rw [List.getElem?_append_right (by rw [lk]; omega), lk, Nat.add_sub_cancel_left, List.getElem?_map, List.getElem?_eq_getElem (by omega), List.getD_eq_getElem?_getD, List.getElem?_eq_getElem (by omega)]
      rfl
theorem own_lies {w : World} {base : Nat} {e : TypeId} {len : Nat} {v : Value} {X : Nat → List Int} (hX : ∀ i, i < len → (X i).length = 4 ∧ Wds (X i)) (h : w.ownsRow base e 4 v len (cellsX X len)) :
    ∃ o g cap, v = .slice o len cap ∧ Lies w o g 0 len X ∧ (0 < len → base ≤ g) := by
  rcases h.2 with ⟨rfl, rfl⟩ | ⟨g, cap, cur, rfl, hg, _⟩
  · exact ⟨none, 0, 0, rfl, ⟨fun h => absurd h (by omega), fun i hi => absurd hi (by omega), fun i hi => absurd hi (by omega)⟩, fun h => absurd h (by omega)⟩
  · refine ⟨_, g, cap, rfl, ⟨fun _ => rfl, hX, fun i hi j hj => ?_⟩, fun _ => hg⟩
    have hb : i * 4 + j < len * 4 := by
      have : (i + 1) * 4 ≤ len * 4 := Nat.mul_le_mul_right _ hi
      omega
    have := h.cellAt (i * 4 + j) hb
    rw [Nat.zero_add, this]
    exact cellsX_at hj len hi fun i hi => (hX i hi).1
def OutR (len : Nat) (X : Nat → List Int) (w' : World) (e : Ending) : Prop := ∃ (o : Option Addr) (g cap : Nat) (R : Nat → List Int), e = .returned (.slice o len cap) ∧ Lies w' o g 0 len R ∧ ∀ i, i < len → InvP 4 prime (X i) (R i)
theorem batchA_call {o : Option Addr} {b off len cap : Nat} {X : Nat → List Int} {w : World} (hL : Lies w o b off len X) (hX : ∀ i, i < len → vw (X i) < vw prime) (hlen : len ≤ 2147483647) :
    Calls Try.prog 14 #[.slice o len cap] w fun e w' => OutR len X w' e ∧ Below w.heap.size w w' := by
  go_enter Try.func14, Try.ntmps14
  go_wp2_with (first
    | (go_at_call 22; refine (made_call (X := X) hL hlen).mono ?_; rintro e w1 ⟨v1, rfl, hown1, hb1⟩; obtain ⟨oA, gA, cA, rfl, hLA, _⟩ := own_lies hL.el hown1; clear hown1)
    | (go_at_call 21; refine (batch_call hLA hX hlen).mono ?_; rintro e w2 ⟨⟨gB, R, rfl, _, hI, hc⟩, hb2⟩; have hLB : Lies w2 (some ⟨gB, 0, none⟩) gB 0 len R := ⟨fun _ => rfl, fun i hi => ⟨(hI i hi).1, (hI i hi).2.1⟩, fun i hi => by rw [Nat.zero_add]; exact hc i hi⟩; clear hc)
    | (go_at_call 20; refine (told_call (X := R) hLB hlen).mono ?_; rintro e w3 ⟨v3, rfl, hown3, hb3⟩; obtain ⟨oC, gC, cC, rfl, hLC, _⟩ := own_lies hLB.el hown3; clear hown3))
  have s1 := hb1.size
  have s2 := hb2.size
  go_ret
  exact ⟨⟨oC, gC, cC, R, rfl, hLC, hI⟩, (hb1.trans (hb2.mono s1)).trans (hb3.mono (Nat.le_trans s1 s2))⟩
theorem inv_of_one : InvP 4 prime one one := ⟨rfl, one_wd, one_lt, fun h => absurd h one_nz, fun _ => by
  obtain ⟨c, hc⟩ := one_is
  refine ⟨c * (vw one + BW ^ 4), ?_⟩
  rw [← Int.mul_assoc, ← hc]
  generalize vw one = x
  generalize BW ^ 4 = y
  grind⟩
theorem inv1_call (w : World) : Calls Try.prog 8 #[.agg #[.int .u64 12436184717236109307, .int .u64 3962172157175319849, .int .u64 7381016538464732718, .int .u64 1011752739694698287]] w fun e w' => e = .returned (.agg #[.int .u64 12436184717236109307, .int .u64 3962172157175319849, .int .u64 7381016538464732718, .int .u64 1011752739694698287]) ∧ Below w.heap.size w w' :=
  (invA_call (xs := one) rfl one_wd one_lt w).mono fun e w' ⟨r, hr, he, hb⟩ => ⟨by rw [he, inv_one one_wd one_lt hr inv_of_one]; rfl, hb⟩
theorem one1_call (w : World) : Calls Try.prog 15 #[] w fun e w' => e = .returned (.agg #[.int .u64 12436184717236109307, .int .u64 3962172157175319849, .int .u64 7381016538464732718, .int .u64 1011752739694698287]) ∧ Below w.heap.size w w' := oneA_call w
theorem same_arr {xs : List Int} (hx : xs.length = 4) (w : World) : (Op.equalIn 10000 23 (.agg (xs.map (Value.int .u64)).toArray) (.agg (xs.map (Value.int .u64)).toArray)).run Try.prog w = .ok true w :=
  (run_arr_eq (P := Try.prog) (t := 23) (el := 22) (n := 4) Try.underlying23 (by kernel_rfl) Try.underlying22 xs xs hx hx w).trans (by rw [decide_eq_true rfl])
theorem other_arr {xs ys : List Int} (hx : xs.length = 4) (hy : ys.length = 4) (h : xs ≠ ys) (w : World) : (Op.equalIn 10000 23 (.agg (xs.map (Value.int .u64)).toArray) (.agg (ys.map (Value.int .u64)).toArray)).run Try.prog w = .ok false w :=
  (run_arr_eq (P := Try.prog) (t := 23) (el := 22) (n := 4) Try.underlying23 (by kernel_rfl) Try.underlying22 xs ys hx hy w).trans (by rw [decide_eq_false h])
set_option maxHeartbeats 400000 in
theorem law_walk {o : Option Addr} {b off len cap : Nat} {X : Nat → List Int} {w : World} (hL : Lies w o b off len X) :
    Calls Try.prog 4 #[.slice o len cap] w fun e w' => e = .returned (.bool true) ∧ Below w.heap.size w w' := by
  go_enter Try.func4, Try.ntmps4
  go_upto_region 3 with fail
  · go_ret
    exact ⟨rfl, Below.refl _ _⟩
  · have hlen : len ≤ 2147483647 := by omega
    go_wp2
    go_loopw [3] (fun i wr => ∃ k : Nat, k ≤ len ∧ i = .int .i64 k ∧ (∀ j, j < k → vw (X j) < vw prime) ∧ Below w.heap.size w wr) (fun i _ => len - (intOf i).toNat)
    case atStart => exact ⟨0, Nat.zero_le _, rfl, fun j hj => absurd hj (by omega), Below.refl _ _⟩
    case round =>
      obtain ⟨k, hk, rfl, hall, hb⟩ := hrel
      have hsz := hb.size
      go_upto_region 6 with fail
      · have hk' : k < len := by assumption
        have hbB := hL.lt (by omega)
        have hcw := cells_below hb hbB (hL.cells k hk')
        have hXk := hL.el k hk'
        obtain rfl := hL.ad (by omega)
        have hall' := Lib.hid hall
        clear hall
        go_region_with (first
          | (go_at_call 7; refine (prime_call _).mono ?_; rintro e w' ⟨b9, hb9, rfl, hc9, hbw⟩; have hcw9 : Cells w' b (off + k * 4) 4 (X k) := cells_below hbw (show b < wr.heap.size by omega) hcw)
          | (go_at_call 6; refine (less_call (xs := X k) (ys := prime) hXk.1 rfl hXk.2 wq.wd (by assumption) (by assumption)).mono ?_; rintro e w' ⟨rfl, hbw2⟩))
        have hB1 : wr.heap.size ≤ _ := hbw.size
        have hb' : Below w.heap.size w w' := ((hb.drew).trans (hbw.mono (show w.heap.size ≤ wr.heap.size by omega))).trans (hbw2.mono (by omega))
        by_cases hlt : vw (X k) < vw prime
        · rw [decide_eq_true hlt]
          go_wp2
          go_roundw
          case rel =>
            refine ⟨k + 1, by omega, by go_num, fun j hj => ?_, hb'⟩
            rcases Nat.lt_succ_iff_lt_or_eq.1 hj with h | rfl
            · exact hall'.out j h
            · exact hlt
          case measure => simp [intOf]; omega
        · rw [decide_eq_false hlt]
          go_wp2
          go_ret
          exact ⟨rfl, hb'⟩
      · have hkl : k = len := by omega
        subst hkl
        have hX := Lib.hid hall
        clear hall
        have hLr := hL.below hb fun h => hL.lt h
        go_upto_region 9 with (go_at_call 14; refine (batchA_call hLr hX.out hlen).mono ?_; rintro e w1 ⟨⟨oO, gO, cO, R, rfl, hLO, hI⟩, hb1⟩)
        have hI' := Lib.hid hI
        clear hI
        have hsz1 := hb1.size
        have hB1 : Below w.heap.size w w1 := hb.trans (hb1.mono hsz)
        clear hb1 hLr
        have q1 : ∀ w : World, (Op.equalIn 10000 23 (.agg #[.int .u64 12436184717236109307, .int .u64 3962172157175319849, .int .u64 7381016538464732718, .int .u64 1011752739694698287]) (.agg #[.int .u64 12436184717236109307, .int .u64 3962172157175319849, .int .u64 7381016538464732718, .int .u64 1011752739694698287])).run Try.prog w = .ok true w := fun w => same_arr (xs := one) rfl w
        have q0 : ∀ w : World, (Op.equalIn 10000 23 (.agg #[.int .u64 12436184717236109307, .int .u64 3962172157175319849, .int .u64 7381016538464732718, .int .u64 1011752739694698287]) (.agg #[.int .u64 0, .int .u64 0, .int .u64 0, .int .u64 0])).run Try.prog w = .ok false w := fun w => other_arr (xs := one) (ys := List.replicate 4 0) rfl rfl (by decide) w
        go_upto_region 11 with (first
          | (go_at_call 8; refine (inv1_call _).mono ?_; rintro e w3 ⟨rfl, hb3⟩)
          | (go_at_call 15; first | (have hy := hb4; refine (one1_call _).mono ?_; rintro e w5 ⟨rfl, hb5⟩) | (have hx := hb3; refine (one1_call _).mono ?_; rintro e w4 ⟨rfl, hb4⟩) | (refine (one1_call _).mono ?_; rintro e w2 ⟨rfl, hb2⟩)))
        clear q1 q0 hx hy
        have s2 := hb2.size
        have s3 := hb3.size
        have s4 := hb4.size
        have b5 : Below w1.heap.size w1 w5 := ((hb2.trans (hb3.mono s2)).trans (hb4.mono (by omega))).trans (hb5.mono (by omega))
        have hB5 : Below w.heap.size w w5 := hB1.trans (b5.mono (by omega))
        have hLO5 := hLO.below b5 fun h => hLO.lt h
        clear b5 hb2 hb3 hb4 hb5 hLO hB1
        go_wp2
        have hs5 := hB5.size
        go_loopw [5] (fun i wr => ∃ m : Nat, m ≤ k ∧ i = .int .i64 m ∧ Below w5.heap.size w5 wr) (fun i _ => k - (intOf i).toNat)
        case atStart => exact ⟨0, Nat.zero_le _, rfl, Below.refl _ _⟩
        case round =>
          obtain ⟨m, hm, rfl, hb6⟩ := hrel
          go_upto_region 14 with fail
          · have hm' : m < k := by assumption
            have hp : 0 < k := by omega
            have hlO := hLO5.lt hp
            have hlX := hL.lt hp
            have hEO := hLO5.el m hm'
            have hEX := hL.el m hm'
            have hcO := cells_below hb6 hlO (hLO5.cells m hm')
            have hcX := cells_below (hB5.trans (hb6.mono (by omega))) hlX (hL.cells m hm')
            have hIm := hI'.out m hm'
            have hXm := hX.out m hm'
            obtain rfl := hL.ad hp
            obtain rfl := hLO5.ad hp
            obtain ⟨x0, x1, x2, x3, hx⟩ := lenX hEX.1
            obtain ⟨r0, r1, r2, r3, hr⟩ := lenX hEO.1
            rw [hx] at hcX hEX hIm hXm
            rw [hr] at hcO hEO hIm
            have c0 := hcX 0 (by decide)
            have c1 := hcX 1 (by decide)
            have c2 := hcX 2 (by decide)
            have c3 := hcX 3 (by decide)
            have d0 := hcO 0 (by decide)
            have d1 := hcO 1 (by decide)
            have d2 := hcO 2 (by decide)
            have d3 := hcO 3 (by decide)
            simp only [Nat.add_zero, Nat.zero_add, List.getD_cons_zero, List.getD_cons_succ] at c0 c1 c2 c3 d0 d1 d2 d3
            have q2 : ∀ w : World, (Op.equalIn 10000 23 (.agg #[.int .u64 r0, .int .u64 r1, .int .u64 r2, .int .u64 r3]) (.agg #[.int .u64 r0, .int .u64 r1, .int .u64 r2, .int .u64 r3])).run Try.prog w = .ok true w := fun w => same_arr (xs := [r0, r1, r2, r3]) rfl w
            have hcall : ∀ w : World, Calls Try.prog 8 #[.agg #[.int .u64 x0, .int .u64 x1, .int .u64 x2, .int .u64 x3]] w fun e w' => e = .returned (.agg #[.int .u64 r0, .int .u64 r1, .int .u64 r2, .int .u64 r3]) ∧ Below w.heap.size w w' := fun w =>
              (invA_call (xs := [x0, x1, x2, x3]) rfl hEX.2 hXm w).mono fun e w' ⟨r, hr, he, hb⟩ => ⟨by rw [he, inv_one hEX.2 hXm hr hIm]; rfl, hb⟩
            clear hcX hcO hx hr hIm
            have hs6 := hb6.size
            have hlw : gO < wr.heap.size := by omega
            have H := Lib.hid hcall
            clear hcall
            go_region_with (go_at_call 8; refine (H.out _).mono ?_; rintro e w7 ⟨rfl, hb7⟩; have d0' : w7.cell? ⟨gO, m * 4, none⟩ = some (.int .u64 r0) := (hb7.cell (p := ⟨gO, m * 4, none⟩) hlw).trans d0; have d1' : w7.cell? ⟨gO, m * 4 + 1, none⟩ = some (.int .u64 r1) := (hb7.cell (p := ⟨gO, m * 4 + 1, none⟩) hlw).trans d1; have d2' : w7.cell? ⟨gO, m * 4 + 2, none⟩ = some (.int .u64 r2) := (hb7.cell (p := ⟨gO, m * 4 + 2, none⟩) hlw).trans d2; have d3' : w7.cell? ⟨gO, m * 4 + 3, none⟩ = some (.int .u64 r3) := (hb7.cell (p := ⟨gO, m * 4 + 3, none⟩) hlw).trans d3)
            all_goals
              clear q2
              go_wp2
              go_roundw
              case rel => exact ⟨m + 1, by omega, by go_num, (hb6.drew).trans (hb7.mono (show w5.heap.size ≤ wr.heap.size from hs6))⟩
              case measure => simp [intOf]; omega
          · go_wp2
            go_ret
            exact ⟨rfl, hB5.trans (hb6.mono (by omega))⟩
end Go.Proofs.Ytmnenhkjdhbjmaa
