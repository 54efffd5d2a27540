/-
  The law on inner products of lists, walked by hand. No conditions.
-/
import Derived.Test.YtakddcclpocejaaFmN
namespace Go.Proofs.Ytakddcclpocejaa
open Go Eng Go.RowKit
set_option maxRecDepth 100000
theorem mulV_call {x0 x1 x2 x3 y0 y1 y2 y3 : Int} (wx : Wds [x0, x1, x2, x3]) (wy : Wds [y0, y1, y2, y3]) (hy : vw [y0, y1, y2, y3] < vw prime) (w : World) :
    Calls Try.prog 10 #[.agg #[.int .u64 x0, .int .u64 x1, .int .u64 x2, .int .u64 x3], .agg #[.int .u64 y0, .int .u64 y1, .int .u64 y2, .int .u64 y3]] w fun e w' => ∃ r0 r1 r2 r3, MulM 4 prime [x0, x1, x2, x3] [y0, y1, y2, y3] [r0, r1, r2, r3] ∧ e = .returned (.agg #[.int .u64 r0, .int .u64 r1, .int .u64 r2, .int .u64 r3]) ∧ Below w.heap.size w w' :=
  (mulA_call (xs := [x0, x1, x2, x3]) (ys := [y0, y1, y2, y3]) rfl rfl wx wy hy w).mono fun e w' ⟨r, hr, he, hb⟩ => by
    obtain ⟨r0, r1, r2, r3, rfl⟩ := lenX hr.1
    exact ⟨r0, r1, r2, r3, hr, he, hb⟩
theorem addV_call {x0 x1 x2 x3 y0 y1 y2 y3 : Int} (wx : Wds [x0, x1, x2, x3]) (wy : Wds [y0, y1, y2, y3]) (w : World) :
    Calls Try.prog 14 #[.agg #[.int .u64 x0, .int .u64 x1, .int .u64 x2, .int .u64 x3], .agg #[.int .u64 y0, .int .u64 y1, .int .u64 y2, .int .u64 y3]] w fun e w' => ∃ r0 r1 r2 r3, SumMod [x0, x1, x2, x3] [y0, y1, y2, y3] prime [r0, r1, r2, r3] ∧ e = .returned (.agg #[.int .u64 r0, .int .u64 r1, .int .u64 r2, .int .u64 r3]) ∧ Below w.heap.size w w' :=
  (addA_call (xs := [x0, x1, x2, x3]) (ys := [y0, y1, y2, y3]) rfl rfl wx wy w).mono fun e w' ⟨r, hr, he, hb⟩ => by
    obtain ⟨r0, r1, r2, r3, rfl⟩ := lenX hr.1
    exact ⟨r0, r1, r2, r3, hr, he, hb⟩
/-- What stands in the sum's place. -/
def WantI (len g k : Nat) (X Y : Nat → List Int) (w wr : World) : Prop := ∃ s, Acc (List.replicate 4 0) X Y k s ∧ Cells wr g 0 4 s ∧ Froz wr g 0 ∧ Below w.heap.size w wr ∧ k ≤ len
theorem touch_setCells {W0 : World} {b o n : Nat} : ∀ (vs : List Value) (k : Nat) (w : World), o ≤ k → k + vs.length ≤ o + n → Eng.Touch W0 b o n w → Eng.Touch W0 b o n (w.setCells b k vs)
  | [], _, _, _, _, h => h
  | v :: vs, k, w, h1, h2, h => touch_setCells vs (k + 1) _ (by omega) (by simp at h2; omega) (Kept.setCell h b k v (Or.inr ⟨rfl, h1, by simp at h2; omega⟩))
theorem want_next {len g k : Nat} {X Y : Nat → List Int} {w w8 : World} {x y s m r : List Int} (hA : Acc (List.replicate 4 0) X Y k s) (hX : X k = x) (hY : Y k = y) (hm : MulM 4 prime x y m) (hr : SumMod s m prime r) (hB : Below w.heap.size w w8) (hg : w.heap.size ≤ g)
    (hc : Cells w8 g 0 4 s) (hf : Froz w8 g 0) (lr : r.length = 4) (hk : k < len) : WantI len g (k + 1) X Y w (w8.setCells g 0 (r.map (Value.int .u64))) := by
  have hT : Eng.Touch w8 g 0 4 (w8.setCells g 0 (r.map (Value.int .u64))) := touch_setCells _ _ _ (Nat.le_refl _) (by simp [lr]) (Kept.refl _ _)
  subst hX hY
  refine ⟨r, ⟨s, m, hA, hm, hr⟩, fun j hj => ?_, fun j hj => ?_, hB.trans (hT.below hg hB.size), hk⟩
  · have hjl : j < (r.map (Value.int .u64)).length := by rw [List.length_map, lr]; exact hj
    rw [World.cell?_setCells_in g (r.map (Value.int .u64)) 0 w8 (fun i hi => by
      have hi : i < 4 := by simpa [lr] using hi
      rw [hc i hi]; rfl) j hjl, List.getElem_map, List.getD_eq_getElem?_getD, List.getElem?_eq_getElem (by omega)]
    rfl
  · rw [World.frozen?_setCells]; exact hf j hj
theorem innerV_call {o1 o2 : Option Addr} {b1 off1 b2 off2 len cap1 cap2 : Nat} {X Y : Nat → List Int} {w : World} {s0 s1 s2 s3 : Int} (hL1 : Lies w o1 b1 off1 len X) (hL2 : Lies w o2 b2 off2 len Y) (hY : ∀ i, i < len → vw (Y i) < vw prime) (hlen : len ≤ 2147483647)
    (hA : Acc (List.replicate 4 0) X Y len [s0, s1, s2, s3]) :
    Calls Try.prog 15 #[.slice o1 len cap1, .slice o2 len cap2] w fun e w' => e = .returned (.agg #[.int .u64 s0, .int .u64 s1, .int .u64 s2, .int .u64 s3]) ∧ Below w.heap.size w w' :=
  (inner_all hL1 hL2 hY hlen).mono fun e w' ⟨⟨s, hs, he⟩, hb⟩ => ⟨by rw [he, acc_one rfl (wds_zeros _) (by decide) len s _ hs hA]; rfl, hb⟩
set_option maxHeartbeats 2000000 in
theorem inner_walk {o1 o2 : Option Addr} {b1 off1 b2 off2 len1 len2 cap1 cap2 : Nat} {X Y : Nat → List Int} {w : World} (hL1 : Lies w o1 b1 off1 len1 X) (hL2 : Lies w o2 b2 off2 len2 Y) :
    Calls Try.prog 5 #[.slice o1 len1 cap1, .slice o2 len2 cap2] w fun e w' => e = .returned (.bool true) ∧ Below w.heap.size w w' := by
  go_enter Try.func5, Try.ntmps5
  go_upto_region 3 with fail
  · go_ret
    exact ⟨rfl, Below.refl _ _⟩
  · have hn1 : len1 ≤ 2147483647 := by omega
    have hn2 : len2 ≤ 2147483647 := by omega
    by_cases he : len1 = len2
    · subst he
      go_upto_region 5 with (first
        | (go_at_call 12; have hx := hb1; refine (all_call (hL2.below hx fun h => hL2.lt h) hn1).mono ?_; rintro e w2 ⟨⟨t2, rfl, ht2⟩, hb2⟩; cases t2)
        | (go_at_call 12; refine (all_call hL1 hn1).mono ?_; rintro e w1 ⟨⟨t1, rfl, ht1⟩, hb1⟩; cases t1))
      · go_ret
        exact ⟨rfl, hb1⟩
      · have hs1 := hx.size
        go_ret
        exact ⟨rfl, hx.trans (hb2.mono hs1)⟩
      · have hs1 := hx.size
        have hB2 : Below w.heap.size w w2 := hx.trans (hb2.mono hs1)
        have hs2 : w.heap.size ≤ w2.heap.size := hB2.size
        have hY := Lib.hid (ht2.1 trivial)
        clear ht1 ht2 hx hb1 hb2
        go_upto_region 6 with fail
        have hst : WantI len1 w2.heap.size 0 X Y w (w2.alloc (.cells #[.int .u64 0, .int .u64 0, .int .u64 0, .int .u64 0] 23)) := ⟨List.replicate 4 0, rfl, zero_cells w2 23, zero_froz w2 23, hB2.alloc hs2 _, Nat.zero_le _⟩
        go_wp2
        go_loopw [6] (fun i wr => ∃ k : Nat, k ≤ len1 ∧ i = .int .i64 k ∧ WantI len1 w2.heap.size k X Y w wr) (fun i _ => len1 - (intOf i).toNat)
        case atStart => exact ⟨0, Nat.zero_le _, rfl, hst⟩
        case round =>
          clear hst
          obtain ⟨k, hk, rfl, s, hA, hcs, hfs, hb, _⟩ := hrel
          go_upto_region 9 with fail
          · have hk' : k < len1 := by assumption
            have hp : 0 < len1 := by omega
            have hlX := hL1.lt hp
            have hlY := hL2.lt hp
            have hEX := hL1.el k hk'
            have hEY := hL2.el k hk'
            have hcX := cells_below hb hlX (hL1.cells k hk')
            have hcY := cells_below hb hlY (hL2.cells k hk')
            have hYk := hY.out k hk'
            have hbs := hb.size
            have hgl := cells_lt (by decide) hcs
            have hsl := acc_ok rfl (wds_zeros _) (by decide) k s hA
            obtain rfl := hL1.ad hp
            obtain rfl := hL2.ad hp
            obtain ⟨x0, x1, x2, x3, hx⟩ := lenX hEX.1
            obtain ⟨y0, y1, y2, y3, hy⟩ := lenX hEY.1
            obtain ⟨s0, s1, s2, s3, rfl⟩ := lenX hsl.1
            rw [hx] at hcX hEX
            rw [hy] at hcY hEY hYk
            have c0 := hcX 0 (by decide)
            have c1 := hcX 1 (by decide)
            have c2 := hcX 2 (by decide)
            have c3 := hcX 3 (by decide)
            have e0 := hcY 0 (by decide)
            have e1 := hcY 1 (by decide)
            have e2 := hcY 2 (by decide)
            have e3 := hcY 3 (by decide)
            have d0 := hcs 0 (by decide)
            have d1 := hcs 1 (by decide)
            have d2 := hcs 2 (by decide)
            have d3 := hcs 3 (by decide)
            have f0 := hfs 0 (by decide)
            have f1 := hfs 1 (by decide)
            have f2 := hfs 2 (by decide)
            have f3 := hfs 3 (by decide)
            simp only [Nat.add_zero, Nat.zero_add, List.getD_cons_zero, List.getD_cons_succ] at c0 c1 c2 c3 d0 d1 d2 d3 e0 e1 e2 e3 f0 f1 f2 f3
            have HC := Lib.hid hcs
            have HF := Lib.hid hfs
            have HX := Lib.hid hx
            have HY := Lib.hid hy
            clear hx hy hcX hcY hcs hfs
            go_region_with (first
              | (go_at_call 14; refine (addV_call hsl.2.1 hm.2.1 _).mono ?_; rintro e w8 ⟨r0, r1, r2, r3, hr, rfl, hb8⟩; have g0 := (hb8.cell (p := ⟨w2.heap.size, 0, none⟩) hl7).trans d0'; have g1 := (hb8.cell (p := ⟨w2.heap.size, 1, none⟩) hl7).trans d1'; have g2 := (hb8.cell (p := ⟨w2.heap.size, 2, none⟩) hl7).trans d2'; have g3 := (hb8.cell (p := ⟨w2.heap.size, 3, none⟩) hl7).trans d3'; have i0 := (hb8.frozen (p := ⟨w2.heap.size, 0, none⟩) hl7).trans f0'; have i1 := (hb8.frozen (p := ⟨w2.heap.size, 1, none⟩) hl7).trans f1'; have i2 := (hb8.frozen (p := ⟨w2.heap.size, 2, none⟩) hl7).trans f2'; have i3 := (hb8.frozen (p := ⟨w2.heap.size, 3, none⟩) hl7).trans f3')
              | (go_at_call 10; refine (mulV_call hEX.2 hEY.2 hYk _).mono ?_; rintro e w7 ⟨m0, m1, m2, m3, hm, rfl, hb7⟩; have hl7 : w2.heap.size < w7.heap.size := Nat.lt_of_lt_of_le hgl hb7.size; have d0' : w7.cell? ⟨w2.heap.size, 0, none⟩ = some (.int .u64 s0) := (hb7.cell (p := ⟨w2.heap.size, 0, none⟩) hgl).trans d0; have d1' : w7.cell? ⟨w2.heap.size, 1, none⟩ = some (.int .u64 s1) := (hb7.cell (p := ⟨w2.heap.size, 1, none⟩) hgl).trans d1; have d2' : w7.cell? ⟨w2.heap.size, 2, none⟩ = some (.int .u64 s2) := (hb7.cell (p := ⟨w2.heap.size, 2, none⟩) hgl).trans d2; have d3' : w7.cell? ⟨w2.heap.size, 3, none⟩ = some (.int .u64 s3) := (hb7.cell (p := ⟨w2.heap.size, 3, none⟩) hgl).trans d3; have f0' : w7.frozen? ⟨w2.heap.size, 0, none⟩ = false := (hb7.frozen (p := ⟨w2.heap.size, 0, none⟩) hgl).trans f0; have f1' : w7.frozen? ⟨w2.heap.size, 1, none⟩ = false := (hb7.frozen (p := ⟨w2.heap.size, 1, none⟩) hgl).trans f1; have f2' : w7.frozen? ⟨w2.heap.size, 2, none⟩ = false := (hb7.frozen (p := ⟨w2.heap.size, 2, none⟩) hgl).trans f2; have f3' : w7.frozen? ⟨w2.heap.size, 3, none⟩ = false := (hb7.frozen (p := ⟨w2.heap.size, 3, none⟩) hgl).trans f3))
            all_goals
              go_wp2
              go_roundw
              case rel =>
                refine ⟨k + 1, by omega, by go_num, ?_⟩
                have h8 : wr.heap.size ≤ w7.heap.size := hb7.size
                have hN := want_next hA HX.out HY.out hm hr (((hb.drew).trans (hb7.mono (show w.heap.size ≤ wr.heap.size from hbs))).trans (hb8.mono (by omega))) hs2 (cells_below hb8 hl7 (cells_below hb7 hgl HC.out)) (fun j hj => (hb8.frozen hl7).trans ((hb7.frozen (show w2.heap.size < wr.heap.size from hgl)).trans (HF.out j hj))) rfl hk'
                exact hN
              case measure => simp [intOf]; omega
          · have hkl : k = len1 := by omega
            subst hkl
            have hsl := acc_ok rfl (wds_zeros _) (by decide) k s hA
            obtain ⟨s0, s1, s2, s3, rfl⟩ := lenX hsl.1
            have hbs := hb.size
            have hgl := cells_lt (by decide) hcs
            have d0 := hcs 0 (by decide)
            have d1 := hcs 1 (by decide)
            have d2 := hcs 2 (by decide)
            have d3 := hcs 3 (by decide)
            simp only [Nat.add_zero, Nat.zero_add, List.getD_cons_zero, List.getD_cons_succ] at d0 d1 d2 d3
            have hLr1 := hL1.below hb.drew fun h => hL1.lt h
            have hLr2 := hL2.below hb.drew fun h => hL2.lt h
            have q0 : ∀ w : World, (Op.equalIn 10000 23 (.agg #[.int .u64 12436184717236109307, .int .u64 3962172157175319849, .int .u64 7381016538464732718, .int .u64 1011752739694698287]) (.agg #[.int .u64 0, .int .u64 0, .int .u64 0, .int .u64 0])).run Try.prog w = .ok false w := fun w => other_arr (xs := one) (ys := List.replicate 4 0) rfl rfl (by decide) w
            have q2 : ∀ w : World, (Op.equalIn 10000 23 (.agg #[.int .u64 s0, .int .u64 s1, .int .u64 s2, .int .u64 s3]) (.agg #[.int .u64 s0, .int .u64 s1, .int .u64 s2, .int .u64 s3])).run Try.prog w = .ok true w := fun w => same_arr (xs := [s0, s1, s2, s3]) rfl w
            clear hcs hfs
            go_upto_region 10 with fail
            go_region_with (first
              | (go_at_call 15; refine (innerV_call hLr1 hLr2 hY.out hn1 hA).mono ?_; rintro e w7 ⟨rfl, hb7⟩; have d0' : w7.cell? ⟨w2.heap.size, 0, none⟩ = some (.int .u64 s0) := (hb7.cell (p := ⟨w2.heap.size, 0, none⟩) hgl).trans d0; have d1' : w7.cell? ⟨w2.heap.size, 1, none⟩ = some (.int .u64 s1) := (hb7.cell (p := ⟨w2.heap.size, 1, none⟩) hgl).trans d1; have d2' : w7.cell? ⟨w2.heap.size, 2, none⟩ = some (.int .u64 s2) := (hb7.cell (p := ⟨w2.heap.size, 2, none⟩) hgl).trans d2; have d3' : w7.cell? ⟨w2.heap.size, 3, none⟩ = some (.int .u64 s3) := (hb7.cell (p := ⟨w2.heap.size, 3, none⟩) hgl).trans d3)
              | (go_at_call 11; refine (oneV_call _).mono ?_; rintro e w9 ⟨rfl, hb9⟩))
            all_goals
              have h7 : wr.heap.size ≤ w7.heap.size := hb7.size
              have hB9 : Below w.heap.size w w9 := ((hb.drew).trans (hb7.mono (show w.heap.size ≤ wr.heap.size from hbs))).trans (hb9.mono (by omega))
              clear q0 q2 hb7 hb9
              go_wp2
              go_ret
              exact ⟨rfl, hB9⟩
    · go_wp2
      go_ret
      exact ⟨rfl, Below.refl _ _⟩
  · go_ret
    exact ⟨rfl, Below.refl _ _⟩
end Go.Proofs.Ytakddcclpocejaa
