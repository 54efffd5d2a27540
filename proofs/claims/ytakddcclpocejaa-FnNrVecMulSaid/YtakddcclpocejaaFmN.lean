/-
  The law on products of lists, walked by hand. No conditions.
-/
import Derived.Test.YtakddcclpocejaaFmU
namespace Go.Proofs.Ytakddcclpocejaa
open Go Eng Go.RowKit
set_option maxRecDepth 100000
def oneL : List SC := (ls one).map fun e => .ii .u64 e
def kOneA : K := { f := 11, args := [], mem := [], m := 0, id := 68, mout := 0, ret := .ww (.aa oneL), mem1 := [] }
theorem fin_nil {κ : K} {env : List Int} (hl : env.length = κ.m) (h : AA.post κ.id env []) : (AA.to κ).fin (enc []) st0 env := by
  have := fin_of (A := AA) (κ := κ) (env := env) (e := []) (os := []) hl h
  rwa [List.append_nil] at this
theorem oneA_ok : KOk Try.prog AA kOneA := k_of' (L := []) (by simp) (by kernel_rfl) (T := .fin (enc []) st0) (by kernel_rfl) fun env hl _ => fin_nil hl (show ([] : List Int) = [] from rfl)
theorem is_lits {β : List (Nat × Nat)} {env : List Int} : ∀ {l : List Int} {vs : List Value}, All2 (SC.is env β) ((ls l).map fun e => SC.ii .u64 e) vs → vs = l.map (Value.int .u64)
  | [], [], _ => rfl
  | x :: l, v :: vs, ⟨⟨y, hy, _, hv⟩, h⟩ => by
    have hy : y = x := by simpa [SI.is] using hy
    subst hy
    rw [hv, is_lits h]
    rfl
theorem oneV_call (w : World) : Calls Try.prog 11 #[] w fun e w' => e = .returned (.agg #[.int .u64 12436184717236109307, .int .u64 3962172157175319849, .int .u64 7381016538464732718, .int .u64 1011752739694698287]) ∧ Below w.heap.size w w' := by
  refine (ko_ro (κ := kOneA) oneA_ok (env := []) (β := []) (vs := []) rfl rfl (by simp [kOneA]) (by simp [kOneA]) trivial ⟨fun _ => wds_nil, trivial⟩).mono ?_
  rintro e w' ⟨rs, β', v, hl, hpo, rfl, _, hv, _, _, hb⟩
  obtain ⟨vs, rfl, hv⟩ := hv
  exact ⟨by rw [is_lits hv]; rfl, hb⟩
theorem same_arr {xs : List Int} (hx : xs.length = 4) (w : World) : (Op.equalIn 10000 23 (.agg (xs.map (Value.int .u64)).toArray) (.agg (xs.map (Value.int .u64)).toArray)).run Try.prog w = .ok true w :=
  (run_arr_eq (P := Try.prog) (t := 23) (el := 22) (n := 4) Try.underlying23 (by kernel_rfl) Try.underlying22 xs xs hx hx w).trans (by rw [decide_eq_true rfl])
theorem other_arr {xs ys : List Int} (hx : xs.length = 4) (hy : ys.length = 4) (h : xs ≠ ys) (w : World) : (Op.equalIn 10000 23 (.agg (xs.map (Value.int .u64)).toArray) (.agg (ys.map (Value.int .u64)).toArray)).run Try.prog w = .ok false w :=
  (run_arr_eq (P := Try.prog) (t := 23) (el := 22) (n := 4) Try.underlying23 (by kernel_rfl) Try.underlying22 xs ys hx hy w).trans (by rw [decide_eq_false h])
set_option maxHeartbeats 8000000 in
theorem law_walk {o1 o2 : Option Addr} {b1 off1 b2 off2 len1 len2 cap1 cap2 : Nat} {X Y : Nat → List Int} {w : World} (hL1 : Lies w o1 b1 off1 len1 X) (hL2 : Lies w o2 b2 off2 len2 Y) :
    Calls Try.prog 4 #[.slice o1 len1 cap1, .slice o2 len2 cap2] w fun e w' => e = .returned (.bool true) ∧ Below w.heap.size w w' := by
  go_enter Try.func4, Try.ntmps4
  go_upto_region 3 with fail
  · go_ret
    exact ⟨rfl, Below.refl _ _⟩
  · have hn1 : len1 ≤ 2147483647 := by omega
    have hn2 : len2 ≤ 2147483647 := by omega
    by_cases he : len1 = len2
    · subst he
      go_upto_region 5 with (first
        | (go_at_call 12; have hx := hb1; refine (all_call (hL2.below hx fun h => hL2.lt h) hn1).mono ?_; rintro e w2 ⟨⟨t2, rfl, ht2⟩, hb2⟩; cases t2)
        | (go_at_call 12; refine (all_call hL1 hn1).mono ?_; rintro e w1 ⟨⟨t1, rfl, ht1⟩, hb1⟩; cases t1))
      · go_ret
        exact ⟨rfl, hb1⟩
      · have hs1 := hx.size
        go_ret
        exact ⟨rfl, hx.trans (hb2.mono hs1)⟩
      · have hs1 := hx.size
        have hB2 : Below w.heap.size w w2 := hx.trans (hb2.mono hs1)
        have hs2 : w.heap.size ≤ w2.heap.size := hB2.size
        have hY := Lib.hid (ht2.1 trivial)
        clear ht1 ht2 hx hb1 hb2
        go_upto_region 6 with (go_at_call 13; refine (vecmul_all (hL1.below hB2 fun h => hL1.lt h) (hL2.below hB2 fun h => hL2.lt h) hY.out hn1).mono ?_; rintro e w3 ⟨⟨oO, gO, cO, R, rfl, hLO, hI⟩, hb3⟩)
        have hI' := Lib.hid hI
        clear hI
        have q0 : ∀ w : World, (Op.equalIn 10000 23 (.agg #[.int .u64 12436184717236109307, .int .u64 3962172157175319849, .int .u64 7381016538464732718, .int .u64 1011752739694698287]) (.agg #[.int .u64 0, .int .u64 0, .int .u64 0, .int .u64 0])).run Try.prog w = .ok false w := fun w => other_arr (xs := one) (ys := List.replicate 4 0) rfl rfl (by decide) w
        go_upto_region 8 with (go_at_call 11; refine (oneV_call _).mono ?_; rintro e w5 ⟨rfl, hb5⟩)
        clear q0
        have hs3 : w2.heap.size ≤ w3.heap.size := hb3.size
        have hB5 : Below w.heap.size w w5 := (hB2.trans (hb3.mono hs2)).trans (hb5.mono (by omega))
        have hLO5 := hLO.below hb5 fun h => hLO.lt h
        clear hb3 hb5 hLO hB2
        go_wp2
        have hs5 := hB5.size
        go_loopw [6] (fun i wr => ∃ m : Nat, m ≤ len1 ∧ i = .int .i64 m ∧ Below w5.heap.size w5 wr) (fun i _ => len1 - (intOf i).toNat)
        case atStart => exact ⟨0, Nat.zero_le _, rfl, Below.refl _ _⟩
        case round =>
          obtain ⟨m, hm, rfl, hb6⟩ := hrel
          go_upto_region 11 with fail
          · have hm' : m < len1 := by assumption
            have hp : 0 < len1 := by omega
            have hlO := hLO5.lt hp
            have hlX := hL1.lt hp
            have hlY := hL2.lt hp
            have hEO := hLO5.el m hm'
            have hEX := hL1.el m hm'
            have hEY := hL2.el m hm'
            have hB6 := hB5.trans (hb6.mono (by omega))
            have hcO := cells_below hb6 hlO (hLO5.cells m hm')
            have hcX := cells_below hB6 hlX (hL1.cells m hm')
            have hcY := cells_below hB6 hlY (hL2.cells m hm')
            have hIm := hI'.out m hm'
            have hYm := hY.out m hm'
            obtain rfl := hL1.ad hp
            obtain rfl := hL2.ad hp
            obtain rfl := hLO5.ad hp
            obtain ⟨x0, x1, x2, x3, hx⟩ := lenX hEX.1
            obtain ⟨y0, y1, y2, y3, hy⟩ := lenX hEY.1
            obtain ⟨r0, r1, r2, r3, hr⟩ := lenX hEO.1
            rw [hx] at hcX hEX hIm
            rw [hy] at hcY hEY hIm hYm
            rw [hr] at hcO hEO hIm
            have c0 := hcX 0 (by decide)
            have c1 := hcX 1 (by decide)
            have c2 := hcX 2 (by decide)
            have c3 := hcX 3 (by decide)
            have e0 := hcY 0 (by decide)
            have e1 := hcY 1 (by decide)
            have e2 := hcY 2 (by decide)
            have e3 := hcY 3 (by decide)
            have d0 := hcO 0 (by decide)
            have d1 := hcO 1 (by decide)
            have d2 := hcO 2 (by decide)
            have d3 := hcO 3 (by decide)
            simp only [Nat.add_zero, Nat.zero_add, List.getD_cons_zero, List.getD_cons_succ] at c0 c1 c2 c3 d0 d1 d2 d3 e0 e1 e2 e3
            have q2 : ∀ w : World, (Op.equalIn 10000 23 (.agg #[.int .u64 r0, .int .u64 r1, .int .u64 r2, .int .u64 r3]) (.agg #[.int .u64 r0, .int .u64 r1, .int .u64 r2, .int .u64 r3])).run Try.prog w = .ok true w := fun w => same_arr (xs := [r0, r1, r2, r3]) rfl w
            have hcall : ∀ w : World, Calls Try.prog 10 #[.agg #[.int .u64 x0, .int .u64 x1, .int .u64 x2, .int .u64 x3], .agg #[.int .u64 y0, .int .u64 y1, .int .u64 y2, .int .u64 y3]] w fun e w' => e = .returned (.agg #[.int .u64 r0, .int .u64 r1, .int .u64 r2, .int .u64 r3]) ∧ Below w.heap.size w w' := fun w =>
              (mulA_call (xs := [x0, x1, x2, x3]) (ys := [y0, y1, y2, y3]) rfl rfl hEX.2 hEY.2 hYm w).mono fun e w' ⟨r, hr, he, hb⟩ => ⟨by rw [he, mul_same q_odd hr hIm]; rfl, hb⟩
            have hs6 := hb6.size
            have hlw : gO < wr.heap.size := by omega
            have H := Lib.hid hcall
            clear hcall hcX hcY hcO hx hy hr hIm hB6
            go_region_with (go_at_call 10; refine (H.out _).mono ?_; rintro e w7 ⟨rfl, hb7⟩; have d0' : w7.cell? ⟨gO, m * 4, none⟩ = some (.int .u64 r0) := (hb7.cell (p := ⟨gO, m * 4, none⟩) hlw).trans d0; have d1' : w7.cell? ⟨gO, m * 4 + 1, none⟩ = some (.int .u64 r1) := (hb7.cell (p := ⟨gO, m * 4 + 1, none⟩) hlw).trans d1; have d2' : w7.cell? ⟨gO, m * 4 + 2, none⟩ = some (.int .u64 r2) := (hb7.cell (p := ⟨gO, m * 4 + 2, none⟩) hlw).trans d2; have d3' : w7.cell? ⟨gO, m * 4 + 3, none⟩ = some (.int .u64 r3) := (hb7.cell (p := ⟨gO, m * 4 + 3, none⟩) hlw).trans d3)
            all_goals
              clear q2
              go_wp2
              go_roundw
              case rel => exact ⟨m + 1, by omega, by go_num, (hb6.drew).trans (hb7.mono (show w5.heap.size ≤ wr.heap.size from hs6))⟩
              case measure => simp [intOf]; omega
          · go_wp2
            go_ret
            exact ⟨rfl, hB5.trans (hb6.mono (by omega))⟩
    · go_wp2
      go_ret
      exact ⟨rfl, Below.refl _ _⟩
  · go_ret
    exact ⟨rfl, Below.refl _ _⟩
end Go.Proofs.Ytakddcclpocejaa
