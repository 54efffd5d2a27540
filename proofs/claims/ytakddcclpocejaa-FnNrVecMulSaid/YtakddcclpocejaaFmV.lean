/-
  Lists of elements: the test of all, the two copies: walked by hand, the calls by their contracts. No conditions.
-/
import Derived.Test.YtakddcclpocejaaFmC
import Derived.Test.YtakddcclpocejaaWG
import Derived.WalkKit
import Derived.Deep.RegionWith
import Derived.Deep.Cut
namespace Go.Proofs.Ytakddcclpocejaa
open Go Eng Go.RowKit
set_option maxRecDepth 100000
def Cells (w : World) (b o n : Nat) (xs : List Int) : Prop := ∀ j, j < n → w.cell? ⟨b, o + j, none⟩ = some (.int .u64 (xs.getD j 0))
theorem cells_below {B : Nat} {w w' : World} {b o n : Nat} {xs : List Int} (h : Below B w w') (hb : b < B) (hc : Cells w b o n xs) : Cells w' b o n xs := fun j hj => (h.cell hb).trans (hc j hj)
theorem cells_lt {w : World} {b o n : Nat} {xs : List Int} (hn : 0 < n) (hc : Cells w b o n xs) : b < w.heap.size := World.block_lt_of_cell? w _ (hc 0 hn)
theorem less_call {b1 o1 b2 o2 : Nat} {xs ys : List Int} (lx : xs.length = 4) (ly : ys.length = 4) (wx : Wds xs) (wy : Wds ys) {w : World} (h1 : Cells w b1 o1 4 xs) (h2 : Cells w b2 o2 4 ys) :
    Calls Try.prog 8 #[.slice (some ⟨b1, o1, none⟩) 4 4, .slice (some ⟨b2, o2, none⟩) 4 4] w fun e w' => e = .returned (.bool (decide (vw xs < vw ys))) ∧ Below w.heap.size w w' := by
  have hw := wx.append wy
  have c1 := us_cell (env := xs ++ ys) (β := [(b1, o1), (b2, o2)]) (i := 0) (n := 4) (b := b1) (o := o1) (by simp; omega) hw fun j hj => by
    rw [h1 j hj, Nat.zero_add, at_old (by omega)]
  have c2 := us_cell (env := xs ++ ys) (β := [(b1, o1), (b2, o2)]) (i := 4) (n := 4) (b := b2) (o := o2) (by simp; omega) hw fun j hj => by
    rw [h2 j hj, List.getD_eq_getElem?_getD, List.getD_eq_getElem?_getD, List.getElem?_append_right (by omega), lx, Nat.add_sub_cancel_left]
  refine (ko_ro less_ok (env := xs ++ ys) (β := [(b1, o1), (b2, o2)]) (vs := [.slice (some ⟨b1, o1, none⟩) 4 4, .slice (some ⟨b2, o2, none⟩) 4 4]) (by show (xs ++ ys).length = 8; simp; omega) rfl (by decide) ?_
    ⟨⟨_, rfl, rfl⟩, ⟨_, rfl, rfl⟩, trivial⟩ ⟨fun _ => hw, trivial⟩).mono ?_
  · intro r cs wr h
    match r, h with
    | 0, h => cases h; exact ⟨_, rfl, cells_lt (by decide) h1, c1⟩
    | 1, h => cases h; exact ⟨_, rfl, cells_lt (by decide) h2, c2⟩
  · rintro e w' ⟨zs, β', v, _, hp, rfl, _, hv, _, _, hb⟩
    have hp : zs = [b01 (decide (vw ((xs ++ ys).take 4) < vw ((xs ++ ys).drop 4)))] := hp
    rw [take_app lx, drop_app lx] at hp
    subst hp
    obtain ⟨t, ht, rfl⟩ := hv
    have ht : (xs ++ ys ++ [b01 (decide (vw xs < vw ys))])[8]? = some (b01 t) := ht
    rw [List.getElem?_append_right (by simp; omega)] at ht
    have e8 : 8 - (xs ++ ys).length = 0 := by simp; omega
    rw [e8] at ht
    refine ⟨?_, hb⟩
    have : t = decide (vw xs < vw ys) := by
      simp only [List.getElem?_cons_zero, Option.some.injEq] at ht
      cases t <;> cases h : decide (vw xs < vw ys) <;> rw [h] at ht <;> first | rfl | (simp [b01] at ht)
    rw [this]
theorem prime_call (w : World) : Calls Try.prog 9 #[] w fun e w' => ∃ b, w.heap.size ≤ b ∧ e = .returned (.slice (some ⟨b, 0, none⟩) 4 4) ∧ Cells w' b 0 4 prime ∧ Below w.heap.size w w' := by
  go_enter Try.func9, Try.ntmps9
  go_wp2
  go_ret
  refine ⟨w.heap.size, Nat.le_refl _, rfl, fun j hj => ?_, (Below.refl _ _).alloc (Nat.le_refl _) _⟩
  rw [Nat.zero_add, World.cell?_alloc_new]
  match j, hj with
  | 0, _ | 1, _ | 2, _ | 3, _ => rfl
def AllR (len : Nat) (X : Nat → List Int) (e : Ending) : Prop := ∃ t, e = .returned (.bool t) ∧ (t = true ↔ ∀ i, i < len → vw (X i) < vw prime)
/-- A list in memory: its elements, 4 words each, lie behind each other. -/
structure Lies (w : World) (o : Option Addr) (b off len : Nat) (X : Nat → List Int) : Prop where
  ad : 0 < len → o = some ⟨b, off, none⟩
  el : ∀ i, i < len → (X i).length = 4 ∧ Wds (X i)
  cells : ∀ i, i < len → Cells w b (off + i * 4) 4 (X i)
theorem Lies.below {B : Nat} {w w' : World} {o : Option Addr} {b off len : Nat} {X : Nat → List Int} (h : Lies w o b off len X) (hb : Below B w w') (hB : 0 < len → b < B) : Lies w' o b off len X :=
  ⟨h.ad, h.el, fun i hi => cells_below hb (hB (by omega)) (h.cells i hi)⟩
theorem Lies.lt {w : World} {o : Option Addr} {b off len : Nat} {X : Nat → List Int} (h : Lies w o b off len X) (hl : 0 < len) : b < w.heap.size := cells_lt (by decide) (h.cells 0 hl)
theorem all_call {o : Option Addr} {b off len cap : Nat} {X : Nat → List Int} {w : World} (hL : Lies w o b off len X) (hlen : len ≤ 2147483647) :
    Calls Try.prog 12 #[.slice o len cap] w fun e w' => AllR len X e ∧ Below w.heap.size w w' := by
  go_enter Try.func12, Try.ntmps12
  go_wp2
  go_loopw [3] (fun i wr => ∃ k : Nat, k ≤ len ∧ i = .int .i64 k ∧ (∀ j, j < k → vw (X j) < vw prime) ∧ Below w.heap.size w wr) (fun i _ => len - (intOf i).toNat)
  case atStart => exact ⟨0, Nat.zero_le _, rfl, fun j hj => absurd hj (by omega), Below.refl _ _⟩
  case round =>
    obtain ⟨k, hk, rfl, hall, hb⟩ := hrel
    have hsz := hb.size
    go_upto_region 4 with fail
    · have hk' : k < len := by assumption
      have hbB := hL.lt (by omega)
      have hcw := cells_below hb hbB (hL.cells k hk')
      have hXk := hL.el k hk'
      obtain rfl := hL.ad (by omega)
      go_region_with (first
        | (go_at_call 9; refine (prime_call _).mono ?_; rintro e w' ⟨b9, hb9, rfl, hc9, hbw⟩; have hcw9 : Cells w' b (off + k * 4) 4 (X k) := cells_below hbw (show b < wr.heap.size by omega) hcw)
        | (go_at_call 8; refine (less_call (xs := X k) (ys := prime) hXk.1 rfl hXk.2 wq.wd (by assumption) (by assumption)).mono ?_; rintro e w' ⟨rfl, hbw2⟩))
      have hB1 : wr.heap.size ≤ _ := hbw.size
      have hb' : Below w.heap.size w w' := ((hb.drew).trans (hbw.mono (show w.heap.size ≤ wr.heap.size by omega))).trans (hbw2.mono (by omega))
      by_cases hlt : vw (X k) < vw prime
      · rw [decide_eq_true hlt]
        go_wp2
        go_roundw
        case rel =>
          refine ⟨k + 1, by omega, by go_num, fun j hj => ?_, hb'⟩
          rcases Nat.lt_succ_iff_lt_or_eq.1 hj with h | rfl
          · exact hall j h
          · exact hlt
        case measure => simp [intOf]; omega
      · rw [decide_eq_false hlt]
        go_wp2
        go_ret
        exact ⟨⟨false, rfl, by simp, fun h => absurd (h k hk') (by omega)⟩, hb'⟩
    · go_wp2
      go_ret
      exact ⟨⟨true, rfl, fun _ i hi => hall i (by omega), fun _ => rfl⟩, hb⟩
/-! ### copies -/
def cellsX (X : Nat → List Int) (k : Nat) : List Value := (List.range k).flatMap fun i => (X i).map (.int .u64)
theorem cellsX_succ (X : Nat → List Int) (k : Nat) : cellsX X (k + 1) = cellsX X k ++ (X k).map (.int .u64) := by simp [cellsX, List.range_succ, List.flatMap_append]
theorem lenX {l : List Int} (h : l.length = 4) : ∃ x0 x1 x2 x3, l = [x0, x1, x2, x3] := by
  match l, h with
  | [x0, x1, x2, x3], _ => exact ⟨_, _, _, _, rfl⟩
theorem own_block {w : World} {base : Nat} {e : TypeId} {size n : Nat} {v : Value} {xs : List Value} (h : w.ownsRow base e size v n xs) : ∀ k, v.ownBlock = some k → base ≤ k := by
  intro k hk
  rcases h.2 with ⟨rfl, _⟩ | ⟨g, cap, cur, rfl, hg, _⟩
  · cases hk
  · have hk : some g = some k := hk
    cases hk
    exact hg
theorem info40 : (Try.prog.info? 40).map (fun i => (i.zero, i.size, i.bytes)) = some (some (.agg #[.int .u64 0, .int .u64 0, .int .u64 0, .int .u64 0]), 4, 32) := by kernel_rfl
theorem made_call {o : Option Addr} {b off len cap : Nat} {X : Nat → List Int} {w : World} (hL : Lies w o b off len X) (hlen : len ≤ 2147483647) :
    Calls Try.prog 23 #[.slice o len cap] w fun e w' => ∃ v, e = .returned v ∧ w'.ownsRow w.heap.size 40 4 v len (cellsX X len) ∧ Below w.heap.size w w' := by
  obtain ⟨i0, hi, hz0, hz1, hz2⟩ := info_parts info40
  go_enter Try.func23, Try.ntmps23
  go_wp2
  go_loopw [3, 8] (fun v i wr => ∃ k : Nat, k ≤ len ∧ i = .int .i64 k ∧ wr.ownsRow w.heap.size 40 4 v k (cellsX X k) ∧ Below w.heap.size w wr) (fun _ i _ => len - (intOf i).toNat)
  case atStart => exact ⟨0, Nat.zero_le _, rfl, World.ownsRow_nil _ _ _ _, Below.refl _ _⟩
  case round =>
    obtain ⟨k, hk, rfl, hown, hb⟩ := hrel
    have hsz := hb.size
    go_upto_region 4 with fail
    · have hk' : k < len := by assumption
      have hbB := hL.lt (by omega)
      have hcw := cells_below hb hbB (hL.cells k hk')
      have hXk := (hL.el k hk').1
      obtain rfl := hL.ad (by omega)
      obtain ⟨x0, x1, x2, x3, hx⟩ := lenX hXk
      have c0 := hcw 0 (by decide)
      have c1 := hcw 1 (by decide)
      have c2 := hcw 2 (by decide)
      have c3 := hcw 3 (by decide)
      rw [hx] at c0 c1 c2 c3
      simp only [Nat.add_zero, List.getD_cons_zero, List.getD_cons_succ] at c0 c1 c2 c3
      go_upto_region 5 with fail
      go_wp2_with (first
        | (at_builtin; refine wpList_append_own _ rfl _ _ 44 rfl w.heap.size 40 i0 (.agg #[.int .u64 0, .int .u64 0, .int .u64 0, .int .u64 0]) 4 32 Try.underlying44 hi hz0 hz1 hz2 rfl (by decide) _ _ _ rfl ((hown.alloc _).alloc _) ⟨wr.heap.size + 1, 0, none⟩ 1 1 [.int .u64 x0, .int .u64 x1, .int .u64 x2, .int .u64 x3] rfl rfl ?c1 ?c2 ?c3 ?c4 ?c5 ?_)
        | go_in)
      case c1 =>
        intro j u hj
        match j, hj with
        | 0, hj | 1, hj | 2, hj | 3, hj => simpa [Addr.add] using hj
        | j + 4, hj => simp at hj
      case c2 =>
        intro u hu
        simp only [List.mem_cons, List.not_mem_nil, or_false] at hu
        rcases hu with rfl | rfl | rfl | rfl <;> rfl
      case c3 => unfold maxLen; omega
      case c4 => omega
      case c5 => simp; omega
      · intro v' w1 hown' hgrow _
        have R : w1.ownsRow w.heap.size 40 4 v' (k + 1) (cellsX X (k + 1)) := by rw [cellsX_succ, hx]; exact hown'
        have hB : Below w.heap.size w w1 := ((hb.alloc hsz _).alloc (by simp; omega) _).grown hgrow (by simp; omega) (own_block hown)
        clear hown' hgrow hown
        go_wp2
        go_roundw
        case rel => exact ⟨k + 1, by omega, by go_num, R, hB⟩
        case measure => simp [intOf]; omega
    · have hkl : k = len := by omega
      subst hkl
      go_wp2
      go_ret
      exact ⟨_, rfl, hown, hb⟩
theorem info23 : (Try.prog.info? 23).map (fun i => (i.zero, i.size, i.bytes)) = some (some (.agg #[.int .u64 0, .int .u64 0, .int .u64 0, .int .u64 0]), 4, 32) := by kernel_rfl
theorem told_call {o : Option Addr} {b off len cap : Nat} {X : Nat → List Int} {w : World} (hL : Lies w o b off len X) (hlen : len ≤ 2147483647) :
    Calls Try.prog 24 #[.slice o len cap] w fun e w' => ∃ v, e = .returned v ∧ w'.ownsRow w.heap.size 23 4 v len (cellsX X len) ∧ Below w.heap.size w w' := by
  obtain ⟨i0, hi, hz0, hz1, hz2⟩ := info_parts info23
  go_enter Try.func24, Try.ntmps24
  go_wp2
  go_loopw [3, 8] (fun v i wr => ∃ k : Nat, k ≤ len ∧ i = .int .i64 k ∧ wr.ownsRow w.heap.size 23 4 v k (cellsX X k) ∧ Below w.heap.size w wr) (fun _ i _ => len - (intOf i).toNat)
  case atStart => exact ⟨0, Nat.zero_le _, rfl, World.ownsRow_nil _ _ _ _, Below.refl _ _⟩
  case round =>
    obtain ⟨k, hk, rfl, hown, hb⟩ := hrel
    have hsz := hb.size
    go_upto_region 4 with fail
    · have hk' : k < len := by assumption
      have hbB := hL.lt (by omega)
      have hcw := cells_below hb hbB (hL.cells k hk')
      have hXk := (hL.el k hk').1
      obtain rfl := hL.ad (by omega)
      obtain ⟨x0, x1, x2, x3, hx⟩ := lenX hXk
      have c0 := hcw 0 (by decide)
      have c1 := hcw 1 (by decide)
      have c2 := hcw 2 (by decide)
      have c3 := hcw 3 (by decide)
      rw [hx] at c0 c1 c2 c3
      simp only [Nat.add_zero, List.getD_cons_zero, List.getD_cons_succ] at c0 c1 c2 c3
      go_upto_region 5 with fail
      go_wp2_with (first
        | (at_builtin; refine wpList_append_own _ rfl _ _ 30 rfl w.heap.size 23 i0 (.agg #[.int .u64 0, .int .u64 0, .int .u64 0, .int .u64 0]) 4 32 Try.underlying30 hi hz0 hz1 hz2 rfl (by decide) _ _ _ rfl ((hown.alloc _).alloc _) ⟨wr.heap.size + 1, 0, none⟩ 1 1 [.int .u64 x0, .int .u64 x1, .int .u64 x2, .int .u64 x3] rfl rfl ?c1 ?c2 ?c3 ?c4 ?c5 ?_)
        | go_in)
      case c1 =>
        intro j u hj
        match j, hj with
        | 0, hj | 1, hj | 2, hj | 3, hj => simpa [Addr.add] using hj
        | j + 4, hj => simp at hj
      case c2 =>
        intro u hu
        simp only [List.mem_cons, List.not_mem_nil, or_false] at hu
        rcases hu with rfl | rfl | rfl | rfl <;> rfl
      case c3 => unfold maxLen; omega
      case c4 => omega
      case c5 => simp; omega
      · intro v' w1 hown' hgrow _
        have R : w1.ownsRow w.heap.size 23 4 v' (k + 1) (cellsX X (k + 1)) := by rw [cellsX_succ, hx]; exact hown'
        have hB : Below w.heap.size w w1 := ((hb.alloc hsz _).alloc (by simp; omega) _).grown hgrow (by simp; omega) (own_block hown)
        clear hown' hgrow hown
        go_wp2
        go_roundw
        case rel => exact ⟨k + 1, by omega, by go_num, R, hB⟩
        case measure => simp [intOf]; omega
    · have hkl : k = len := by omega
      subst hkl
      go_wp2
      go_ret
      exact ⟨_, rfl, hown, hb⟩
end Go.Proofs.Ytakddcclpocejaa
