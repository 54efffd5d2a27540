/-
  A number of bytes modulo the prime; the loop walked by hand, its calls by their contracts. No conditions.
-/
import Derived.Test.YtnhhjhkeiplmpaaDoorFcH
namespace Go.Proofs.YtnhhjhkeiplmpaaDoor
open Go Eng Go.RowKit
set_option maxRecDepth 100000
/-! ### a number of bytes modulo another (a slice of any capacity): the loop by hand -/
theorem drop2 {a b c : List Int} {n : Nat} (la : a.length = n) (lb : b.length = n) : (a ++ b ++ c).drop (2 * n) = c := List.drop_left' (by simp [la, lb]; omega)
theorem addW_call {b1 o1 b2 o2 b3 o3 : Nat} {xs ys m : List Int} (lx : xs.length = 4) (ly : ys.length = 4) (lm : m.length = 4) (wx : Wds xs) (wy : Wds ys) (wm : Wds m) {w : World} (h1 : Cells w b1 o1 4 xs) (h2 : Cells w b2 o2 4 ys) (h3 : Cells w b3 o3 4 m) :
    Calls Tryd.prog 13 #[.slice (some ⟨b1, o1, none⟩) 4 4, .slice (some ⟨b2, o2, none⟩) 4 4, .slice (some ⟨b3, o3, none⟩) 4 4] w fun e w' =>
      (∃ g o zs, e = .returned (.slice (some ⟨g, o, none⟩) 4 4) ∧ w.heap.size ≤ g ∧ Cells w' g o 4 zs ∧ zs.length = 4 ∧ SumMod xs ys m zs) ∧ Below w.heap.size w w' := by
  have hw := (wx.append wy).append wm
  have c1 := us_cell (env := xs ++ ys ++ m) (β := [(b1, o1), (b2, o2), (b3, o3)]) (i := 0) (n := 4) (b := b1) (o := o1) (by simp; omega) hw fun j hj => by
    rw [h1 j hj, Nat.zero_add, at_old (by simp; omega), at_old (by omega)]
  have c2 := us_cell (env := xs ++ ys ++ m) (β := [(b1, o1), (b2, o2), (b3, o3)]) (i := 4) (n := 4) (b := b2) (o := o2) (by simp; omega) hw fun j hj => by
    rw [h2 j hj, at_old (by simp; omega), List.getD_eq_getElem?_getD, List.getD_eq_getElem?_getD, List.getElem?_append_right (by omega), lx, Nat.add_sub_cancel_left]
  have c3 := us_cell (env := xs ++ ys ++ m) (β := [(b1, o1), (b2, o2), (b3, o3)]) (i := 8) (n := 4) (b := b3) (o := o3) (by simp; omega) hw fun j hj => by
    rw [h3 j hj, List.getD_eq_getElem?_getD, List.getD_eq_getElem?_getD, List.getElem?_append_right (by simp; omega)]
    congr 4
    simp; omega
  refine (ko_ro addW_ok (env := xs ++ ys ++ m) (β := [(b1, o1), (b2, o2), (b3, o3)]) (vs := [.slice (some ⟨b1, o1, none⟩) 4 4, .slice (some ⟨b2, o2, none⟩) 4 4, .slice (some ⟨b3, o3, none⟩) 4 4]) (by show (xs ++ ys ++ m).length = 12; simp; omega) rfl (by decide) ?_
    ⟨⟨_, rfl, rfl⟩, ⟨_, rfl, rfl⟩, ⟨_, rfl, rfl⟩, trivial⟩ ⟨hw, trivial⟩).mono ?_
  · intro r cs wr h
    match r, h with
    | 0, h => cases h; exact ⟨_, rfl, cells_lt (by decide) h1, c1⟩
    | 1, h => cases h; exact ⟨_, rfl, cells_lt (by decide) h2, c2⟩
    | 2, h => cases h; exact ⟨_, rfl, cells_lt (by decide) h3, c3⟩
  · rintro e w' ⟨zs, β', v, hl, hp, rfl, hL, hv, hM, hnew, hb⟩
    have hp : SumMod ((xs ++ ys ++ m).take 4) (((xs ++ ys ++ m).drop 4).take 4) ((xs ++ ys ++ m).drop 8) zs := hp
    have e1 : (xs ++ ys ++ m).take 4 = xs := by rw [List.append_assoc]; exact take_app lx
    have e2 : ((xs ++ ys ++ m).drop 4).take 4 = ys := by rw [List.append_assoc, drop_app lx, take_app ly]
    have e3 : (xs ++ ys ++ m).drop 8 = m := drop2 lx ly
    rw [e1, e2, e3] at hp
    obtain ⟨⟨g, o⟩, hx, rfl⟩ := hv
    have lE : (xs ++ ys ++ m).length = 12 := by simp; omega
    refine ⟨⟨g, o, zs, rfl, hnew 3 _ (by decide) hx, ?_, hl, hp⟩, hb⟩
    intro j hj
    obtain ⟨v, hv, y, hy, _, rfl⟩ := hM.cells 3 _ _ _ rfl hx j (.ii .u64 (.var (12 + j))) (by simp [us, u, hj])
    have hy : (xs ++ ys ++ m ++ zs)[12 + j]? = some y := hy
    rw [List.getElem?_append_right (by omega), lE, Nat.add_sub_cancel_left] at hy
    rw [hv, List.getD_eq_getElem?_getD, hy]
    rfl
def uno : List Int := 1 :: List.replicate (4 - 1) 0
theorem uno_wd : Wds uno := wds_cons ⟨by decide, by decide⟩ (wds_zeros _)
theorem uno_ln : uno.length = 4 := rfl
theorem vw_uno : vw uno = 1 := by decide
theorem one_lt_q : 1 < vw prime := by decide
def kOneW : K := { f := 14, args := [.ww (.cc (.ii .i64 (.lit 4)))], mem := [], m := 0, id := 42, mout := 0, ret := sl 0 4, mem1 := [((ls uno).map fun e => .ii .u64 e, true)] }
theorem oneW_ok : KOk Tryd.prog AA kOneW := k_of (L := []) (by simp) (by kernel_rfl) (by kernel_rfl) (T := .fin (enc []) st0) (by kernel_rfl) fun env hl _ _ => by
  have hl : env.length = 0 := hl
  obtain rfl := List.eq_nil_of_length_eq_zero hl
  exact fin_of (κ := kOneW) (env := []) (e := []) (os := []) rfl rfl
theorem oneW_call (w : World) : Calls Tryd.prog 14 #[.int .i64 4] w fun e w' => (∃ g o, e = .returned (.slice (some ⟨g, o, none⟩) 4 4) ∧ w.heap.size ≤ g ∧ Cells w' g o 4 uno) ∧ Below w.heap.size w w' := by
  refine (ko_ro (κ := kOneW) oneW_ok (env := []) (β := []) (vs := [.int .i64 4]) rfl rfl (by simp [kOneW]) (by simp [kOneW]) ⟨⟨4, rfl, (fits_iff _ _).2 (by decide), rfl⟩, trivial⟩ ⟨wds_nil, trivial⟩).mono ?_
  rintro e w' ⟨zs, β', v, hl, hp, rfl, hL, hv, hM, hnew, hb⟩
  have hl : zs.length = 0 := hl
  obtain rfl := List.eq_nil_of_length_eq_zero hl
  obtain ⟨⟨g, o⟩, hx, rfl⟩ := hv
  refine ⟨⟨g, o, rfl, hnew 0 _ (by decide) hx, fun j hj => ?_⟩, hb⟩
  obtain ⟨v, hv, y, hy, _, rfl⟩ := hM.cells 0 _ _ _ rfl hx j (.ii .u64 (.lit (uno.getD j 0))) (by
    match j, hj with
    | 0, _ | 1, _ | 2, _ | 3, _ => rfl)
  have hy : y = uno.getD j 0 := by simpa [SI.is] using hy
  rw [hv, hy]
/-- What stands in the loop. -/
def ModW (l : List Int) (w : World) (k : Nat) (v : Value) (wr : World) : Prop := ∃ g o cs, v = .slice (some ⟨g, o, none⟩) 4 4 ∧ w.heap.size ≤ g ∧ Cells wr g o 4 cs ∧ cs.length = 4 ∧ Wds cs ∧ vw cs = beV l / 2 ^ (256 - k) % vw prime ∧ vw cs < vw prime ∧ Below w.heap.size w wr
theorem infoU64 : (Tryd.prog.info? 23).map (fun i => (i.zero, i.size, i.bytes)) = some (some (.int .u64 0), 1, 8) := by kernel_rfl
theorem run_make_w {w : World} : (Instr.makeSlice 29 (.int .i64 4) (.int .i64 4)).run Tryd.prog w = .ok (.slice (some ⟨w.heap.size, 0, none⟩) 4 4) (w.alloc (.cells (madeCells #[.int .u64 0] 4) 23)) := by
  obtain ⟨i0, hi, hz0, hz1, hz2⟩ := info_parts infoU64
  have := run_make (P := Tryd.prog) w 29 23 i0 _ Tryd.underlying29 hi hz0 .i64 .i64 4 4 (by decide) (by decide) (by rw [hz2]; decide) (by decide)
  rw [hz1, show (4 : Int).toNat = 4 from rfl, Nat.mul_one] at this
  exact this
theorem made_cell {z : Array Value} {n j : Nat} (hj : j < n) : (madeCells z n)[j]? = some (z[j % z.size]!) := by
  simp [madeCells, hj]
theorem mod_step {c c' B m : Int} {j : Nat} (hj : j < 256) (hc : c = B / 2 ^ (256 - j) % m) (hc' : c' = (2 * c + (B / 2 ^ (256 - (j + 1)) % 2)) % m) : c' = B / 2 ^ (256 - (j + 1)) % m := by
  have hd := digit_step (B := B) hj
  generalize B / 2 ^ (256 - (j + 1)) % 2 = d at *
  generalize B / 2 ^ (256 - (j + 1)) = B1 at *
  generalize B / 2 ^ (256 - j) = B0 at *
  subst hc' hc hd
  rw [Int.add_emod, Int.mul_emod, Int.emod_emod, ← Int.mul_emod, ← Int.add_emod]
theorem bit_of {l : List Int} (ll : l.length = 32) (hl : ∀ x ∈ l, By x) {k : Nat} (hk : k < 256) : beV l / 2 ^ (256 - (k + 1)) % 2 = (l[k / 8]?.getD 0 / 2 ^ (7 - k % 8)).tmod 2 := by
  have hr' : ∀ x ∈ l.reverse, By x := fun x hx => hl x (List.mem_reverse.1 hx)
  have hd := leV_digit hr' (k := 32 - 1 - k / 8) (s := 7 - k % 8) (by simp; omega) (by omega)
  rw [show 8 * (32 - 1 - k / 8) + (7 - k % 8) = 256 - (k + 1) by omega] at hd
  have hg : l.reverse.getD (32 - 1 - k / 8) 0 = l[k / 8]?.getD 0 := by
    rw [List.getD_eq_getElem?_getD, List.getElem?_reverse (by omega), ll]
    congr 2
    omega
  rw [hg] at hd
  have h0 : 0 ≤ l[k / 8]?.getD 0 := by
    rw [List.getElem?_eq_getElem (by omega)]
    exact (hl _ (List.getElem_mem _)).1
  rw [Int.tmod_eq_emod_of_nonneg (Int.ediv_nonneg h0 (Int.pow_nonneg (by decide)))]
  exact hd
theorem modW_call {b off bm om cap : Nat} {l : List Int} {w : World} (ll : l.length = 32) (hl : ∀ x ∈ l, By x) (hc : CellsB w b off 32 l) (hm : Cells w bm om 4 prime) :
    Calls Tryd.prog 7 #[.slice (some ⟨b, off, none⟩) 32 cap, .slice (some ⟨bm, om, none⟩) 4 4] w fun e w' => (∃ g o ys, e = .returned (.slice (some ⟨g, o, none⟩) 4 4) ∧ w.heap.size ≤ g ∧ Cells w' g o 4 ys ∧ ys.length = 4 ∧ Wds ys ∧ vw ys = beV l % vw prime) ∧ Below w.heap.size w w' := by
  have hc' := Lib.hid hc
  have hm' := Lib.hid hm
  have hl' := Lib.hid hl
  clear hc hm hl
  go_enter Tryd.func7, Tryd.ntmps7
  have hmk := @run_make_w
  go_upto_region 2 with fail
  clear hmk
  have hz : Cells (w.alloc (.cells (madeCells #[.int .u64 0] 4) 23)) w.heap.size 0 4 (List.replicate 4 0) := fun j hj => by
    rw [Nat.zero_add, World.cell?_alloc_new]
    show (madeCells #[.int .u64 0] 4)[j]? = _
    rw [made_cell hj]
    match j, hj with
    | 0, _ | 1, _ | 2, _ | 3, _ => rfl
  have hb0 : Below w.heap.size w (w.alloc (.cells (madeCells #[.int .u64 0] 4) 23)) := (Below.refl w.heap.size w).alloc (Nat.le_refl _) _
  generalize w.alloc (.cells (madeCells #[.int .u64 0] 4) 23) = w0 at *
  have hb32 : beV l / 2 ^ (256 - 0) = 0 := by
    obtain ⟨q1, q2⟩ := leV_nonneg (l := l.reverse) fun x hx => hl'.out x (List.mem_reverse.1 hx)
    rw [List.length_reverse, ll] at q2
    show leV _ / 2 ^ (8 * 32) = 0
    rw [Int.pow_mul, show ((2 : Int) ^ 8) = 256 from rfl]
    exact Int.ediv_eq_zero_of_lt q1 q2
  have hst : ModW l w 0 (.slice (some ⟨w.heap.size, 0, none⟩) 4 4) w0 := ⟨_, _, _, rfl, Nat.le_refl _, hz, rfl, wds_zeros _, by rw [hb32]; decide, by decide, hb0⟩
  clear hz hb0 hb32
  go_wp2
  go_loopw [5, 6] (fun v i wr => ∃ k : Nat, k ≤ 256 ∧ i = .int .i64 k ∧ ModW l w k v wr) (fun _ i _ => 256 - (intOf i).toNat)
  case atStart => exact ⟨0, Nat.zero_le _, rfl, hst⟩
  case round =>
    clear hst
    obtain ⟨k, hk, rfl, g, o, cs, rfl, hg, hcs, lcs, wcs, vcs, bcs, hb⟩ := hrel
    go_upto_region 5 with fail
    · have hk' : k < 256 := by omega
      have hbs := hb.size
      have hlt := cells_lt (by decide) hcs
      have hbm := cells_lt (by decide) hm'.out
      have hH := Lib.hid (And.intro hb (And.intro vcs bcs))
      have hcs' := Lib.hid hcs
      clear hb vcs bcs hcs
      go_upto_region 6 with (go_at_call 13; refine (addW_call lcs lcs rfl wcs wcs wq.wd hcs'.out hcs'.out (cells_below hH.out.1 hbm hm'.out)).mono ?_; rintro e w1 ⟨⟨g1, o1, c1, rfl, hg1, hc1, lc1, hS1⟩, hb1⟩)
      have hB1 : Below w.heap.size w w1 := hH.out.1.trans (hb1.mono hbs)
      have hcell : w1.cell? ⟨b, off + k / 8, none⟩ = some (.int .u8 (l.getD (k / 8) 0)) := cellsB_more hB1 hc'.out (k / 8) (by omega)
      go_upto_region 7 with fail
      · have hd := bit_of ll hl'.out hk'
        have h1 : (l[k / 8]?.getD 0 / 2 ^ (7 - k % 8)).tmod 2 = 1 := by
          have h0 : ((l[k / 8]?.getD 0 / 2 ^ (7 - k % 8)).tmod 2 == 1) = true := by assumption
          simpa using h0
        rw [h1] at hd
        obtain ⟨l1, w1d, l3, l4⟩ := sum_mod wcs wcs hH.out.2.2 hH.out.2.2 hS1
        have hs1 := hB1.size
        have hlt1 := cells_lt (by decide) hc1
        have hc1' := Lib.hid hc1
        have hd' := Lib.hid (And.intro hd (And.intro l3 l4))
        clear hd l3 l4 hc1 h1
        go_wp2_with (first
          | (go_at_call 14; refine (oneW_call _).mono ?_; rintro e w2 ⟨⟨g2, o2, rfl, hg2, hc2⟩, hb2⟩; have hc12 := cells_below hb2 hlt1 hc1'.out; have hm2 : Cells w2 bm om 4 prime := cells_below (hB1.trans (hb2.mono hs1)) hbm hm'.out)
          | (go_at_call 13; refine (addW_call lc1 uno_ln rfl w1d uno_wd wq.wd hc12 hc2 hm2).mono ?_; rintro e w3 ⟨⟨g3, o3, c3, rfl, hg3, hc3, lc3, hS3⟩, hb3⟩))
        have hs2 := hb2.size
        obtain ⟨hd, l3, l4⟩ := hd'.out
        obtain ⟨_, w3d, m3, m4⟩ := sum_mod w1d uno_wd l4 (by rw [vw_uno]; exact one_lt_q) hS3
        go_roundw
        case rel =>
          refine ⟨k + 1, by omega, by go_num, g3, o3, c3, rfl, by omega, hc3, lc3, w3d, ?_, m4, (hB1.trans (hb2.mono hs1)).trans (hb3.mono (by omega))⟩
          refine mod_step hk' hH.out.2.1 ?_
          rw [hd, m3, l3, vw_uno, Int.emod_add_emod]
          congr 1
          omega
        case measure => simp [intOf]; omega
      · have hd := bit_of ll hl'.out hk'
        have h1 : (l[k / 8]?.getD 0 / 2 ^ (7 - k % 8)).tmod 2 = 0 := by
          have h0 : ((l[k / 8]?.getD 0 / 2 ^ (7 - k % 8)).tmod 2 == 1) = false := by assumption
          rw [beq_eq_false_iff_ne] at h0
          have := Int.emod_two_eq (beV l / 2 ^ (256 - (k + 1)))
          omega
        rw [h1] at hd
        obtain ⟨l1, w1d, l3, l4⟩ := sum_mod wcs wcs hH.out.2.2 hH.out.2.2 hS1
        go_roundw
        case rel =>
          refine ⟨k + 1, by omega, by go_num, g1, o1, c1, rfl, by omega, hc1, lc1, w1d, ?_, l4, hB1⟩
          refine mod_step hk' hH.out.2.1 ?_
          rw [hd, l3]
          congr 1
          omega
        case measure => simp [intOf]; omega
    · have hkk : k = 256 := by omega
      subst hkk
      rw [Nat.sub_self, Int.pow_zero, Int.ediv_one] at vcs
      go_ret
      exact ⟨⟨g, o, cs, rfl, hg, hcs, lcs, wcs, vcs⟩, hb⟩
end Go.Proofs.YtnhhjhkeiplmpaaDoor
