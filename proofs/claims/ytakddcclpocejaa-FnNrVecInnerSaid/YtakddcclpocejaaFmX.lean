/-
  The inner product of two lists of elements. No conditions.
-/
import Derived.Test.YtakddcclpocejaaFmW
namespace Go.Proofs.Ytakddcclpocejaa
open Go Eng Go.RowKit
set_option maxRecDepth 100000
def Froz (w : World) (b o : Nat) : Prop := ∀ j, j < 4 → w.frozen? ⟨b, o + j, none⟩ = false
theorem touch_cells {w w' : World} {b o n b2 o2 m : Nat} {xs : List Int} (h : Eng.Touch w b o n w') (hm : 0 < m) (hne : b2 ≠ b) (hc : Cells w b2 o2 m xs) : Cells w' b2 o2 m xs := fun j hj => by
  rw [h.cell b2 (o2 + j) (cells_lt hm hc) (fun hh => hne hh.1)]
  exact hc j hj
theorem touch_froz {w w' : World} {b o n b2 o2 : Nat} (h : Eng.Touch w b o n w') (hb : b2 < w.heap.size) (hf : Froz w b2 o2) : Froz w' b2 o2 := fun j hj => by
  rw [h.frozen b2 (o2 + j) hb]
  exact hf j hj
theorem touch_two {w wr w1 w2 : World} {bR oR T : Nat} (h0 : Eng.Touch w bR oR 4 wr) (hT : w.heap.size ≤ T) (h1 : Eng.Touch wr.drew T 0 4 w1) (h2 : Eng.Touch w1 bR oR 4 w2) : Eng.Touch w bR oR 4 w2 :=
  ((Kept.drew h0).trans h1 fun b o hb hh => by have := hh.1; omega).trans h2 fun b o _ hh => hh
def Acc (zs : List Int) (X Y : Nat → List Int) : Nat → List Int → Prop
  | 0, s => s = zs
  | k + 1, s => ∃ a m, Acc zs X Y k a ∧ MulM 4 prime (X k) (Y k) m ∧ SumMod a m prime s
theorem acc_ok {zs : List Int} {X Y : Nat → List Int} (lz : zs.length = 4) (wz : Wds zs) (bz : vw zs < vw prime) : ∀ (k : Nat) (s : List Int), Acc zs X Y k s → s.length = 4 ∧ Wds s ∧ vw s < vw prime
  | 0, s, h => by
    have h : s = zs := h
    subst h
    exact ⟨lz, wz, bz⟩
  | k + 1, s, h => by
    obtain ⟨a, m, ha, hm, h1, h2, h3⟩ := h
    obtain ⟨la, wa, ba⟩ := acc_ok lz wz bz k a ha
    have h3 := h3 ba hm.2.2.1
    have b1 := vw_bounds wa
    have b2 := vw_bounds hm.2.1
    refine ⟨h1.trans la, h2, ?_⟩
    have hb := hm.2.2.1
    rw [h3]
    split <;> omega
theorem acc_one {zs : List Int} {X Y : Nat → List Int} (lz : zs.length = 4) (wz : Wds zs) (bz : vw zs < vw prime) : ∀ (k : Nat) (s s' : List Int), Acc zs X Y k s → Acc zs X Y k s' → s = s'
  | 0, s, s', h, h' => Eq.trans (show s = zs from h) (Eq.symm (show s' = zs from h'))
  | k + 1, s, s', h, h' => by
    obtain ⟨a, m, ha, hm, h1, h2, h3⟩ := h
    obtain ⟨a', m', ha', hm', h1', h2', h3'⟩ := h'
    have ea := acc_one lz wz bz k a a' ha ha'
    subst ea
    have em := mul_same q_odd hm hm'
    subst em
    have ba := (acc_ok lz wz bz k a ha).2.2
    exact vw_inj (h1.trans h1'.symm) h2 h2' ((h3 ba hm.2.2.1).trans (h3' ba hm.2.2.1).symm)
theorem inner_call {bR oR : Nat} {o1 o2 : Option Addr} {b1 off1 b2 off2 len cap1 cap2 : Nat} {X Y : Nat → List Int} {zs : List Int} (lz : zs.length = 4) (wz : Wds zs) (bz : vw zs < vw prime) {w : World}
    (cR : Cells w bR oR 4 zs) (fR : Froz w bR oR) (hL1 : Lies w o1 b1 off1 len X) (hL2 : Lies w o2 b2 off2 len Y) (d1 : 0 < len → b1 ≠ bR) (d2 : 0 < len → b2 ≠ bR) (hY : ∀ i, i < len → vw (Y i) < vw prime) (hlen : len ≤ 2147483647) :
    Calls Try.prog 37 #[.pointer (some ⟨bR, oR, none⟩), .slice o1 len cap1, .slice o2 len cap2] w fun e w' => e = .returned (.tuple #[]) ∧ (∃ s, Acc zs X Y len s ∧ Cells w' bR oR 4 s) ∧ Eng.Touch w bR oR 4 w' := by
  have hRlt := cells_lt (by decide) cR
  go_enter Try.func37, Try.ntmps37
  go_wp2
  go_loopw [7, 16] (fun _ i wr => ∃ k : Nat, k ≤ len ∧ i = .int .i64 k ∧ ∃ s t, Acc zs X Y k s ∧ Cells wr bR oR 4 s ∧ t.length = 4 ∧ Wds t ∧ Cells wr w.heap.size 0 4 t ∧ Froz wr w.heap.size 0 ∧ Froz wr bR oR ∧ Eng.Touch w bR oR 4 wr) (fun _ i _ => len - (intOf i).toNat)
  case atStart =>
    have hB := (Below.refl w.heap.size w).alloc (Nat.le_refl _) (.cells #[.int .u64 0, .int .u64 0, .int .u64 0, .int .u64 0] 40)
    refine ⟨0, Nat.zero_le _, rfl, zs, List.replicate 4 0, rfl, cells_below hB hRlt cR, rfl, wds_zeros _, fun j hj => ?_, fun j hj => ?_, fun j hj => (hB.frozen hRlt).trans (fR j hj), Kept.alloc (Kept.refl _ _) _⟩
    · rw [Nat.zero_add, World.cell?_alloc_new]
      match j, hj with
      | 0, _ | 1, _ | 2, _ | 3, _ => rfl
    · simp
  case round =>
    obtain ⟨k, hk, rfl, s, t, hA, hcs, lt, wt, hct, hft, hfr, hT0⟩ := hrel
    go_upto_region 6 with fail
    · have hk' : k < len := by assumption
      have hp : 0 < len := by omega
      have n1 := hL1.lt hp
      have n2 := hL2.lt hp
      have hc1 := touch_cells hT0 (by decide) (d1 hp) (hL1.cells k hk')
      have hc2 := touch_cells hT0 (by decide) (d2 hp) (hL2.cells k hk')
      have hX := hL1.el k hk'
      have hYk := hL2.el k hk'
      have d1 := d1 hp
      have d2 := d2 hp
      obtain rfl := hL1.ad hp
      obtain rfl := hL2.ad hp
      go_region_with (go_at_call 20; refine (mul_call (zs := t) (xs := X k) (ys := Y k) lt hX.1 hYk.1 wt hX.2 hYk.2 (hY k hk') ?_ ?_ ?_ ?_ (by omega) (by omega)).mono ?_; exact hct; exact hc1; exact hc2; exact hft; rintro e w' ⟨m, hm, rfl, hcm, hTm⟩)
      have s1 := cells_lt (by decide) hct
      have s2 : wr.heap.size ≤ w'.heap.size := hTm.size
      obtain ⟨ls, ws, _⟩ := acc_ok lz wz bz k s hA
      have hcs1 : Cells w' bR oR 4 s := touch_cells hTm (by decide) (by omega) hcs
      have hfr1 : Froz w' bR oR := touch_froz hTm (show bR < wr.heap.size by omega) hfr
      have hft1 : Froz w' w.heap.size 0 := touch_froz hTm s1 hft
      go_wp2_with (go_at_call 25; refine (add_call (zs := s) (ys := m) ls hm.1 ws hm.2.1 ?_ ?_ ?_ (by omega)).mono ?_; exact hcs1; exact hcm; exact hfr1; rintro e w2 ⟨r, hr, rfl, hcr, hTr⟩)
      go_roundw
      case rel => exact ⟨k + 1, by omega, by go_num, r, m, ⟨s, m, hA, hm, hr⟩, hcr, hm.1, hm.2.1, touch_cells hTr (by decide) (by omega) hcm, touch_froz hTr (by omega) hft1, touch_froz hTr (by omega) hfr1, touch_two hT0 (Nat.le_refl _) hTm hTr⟩
      case measure => simp [intOf]; omega
    · have hkl : k = len := by omega
      subst hkl
      go_wp2
      refine bodyPost_end (results_none rfl _ _ _) rfl ?_
      exact ⟨rfl, ⟨s, hA, hcs⟩, hT0⟩
end Go.Proofs.Ytakddcclpocejaa
