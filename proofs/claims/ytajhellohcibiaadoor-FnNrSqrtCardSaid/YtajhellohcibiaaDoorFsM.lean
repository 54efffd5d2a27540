/-
  Arrays in memory; calls in memory by their contracts. No conditions.
-/
import Derived.Test.YtajhellohcibiaaDoorFsD
import Derived.Laws.AppendOwn
import Derived.Laws.OwnMore
import Derived.Lib.Hide
import Derived.Lib.BufferMore
import Derived.Deep.RegionWith
import Derived.Deep.Cut
import Derived.Deep.MidRow
import Derived.Test.YtajhellohcibiaaDoorWG
import Derived.Test.YtajhellohcibiaaDoorWH
namespace Go.Proofs.YtajhellohcibiaaDoor
open Go Eng Go.RowKit
set_option maxRecDepth 100000
def Cells (w : World) (b o n : Nat) (xs : List Int) : Prop := ∀ j, j < n → w.cell? ⟨b, o + j, none⟩ = some (.int .u64 (xs.getD j 0))
theorem cells_below {B : Nat} {w w' : World} {b o n : Nat} {xs : List Int} (h : Below B w w') (hb : b < B) (hc : Cells w b o n xs) : Cells w' b o n xs := fun j hj => (h.cell hb).trans (hc j hj)
theorem cells_lt {w : World} {b o n : Nat} {xs : List Int} (hn : 0 < n) (hc : Cells w b o n xs) : b < w.heap.size := World.block_lt_of_cell? w _ (hc 0 hn)
def Froz (w : World) (b o : Nat) : Prop := ∀ j, j < 4 → w.frozen? ⟨b, o + j, none⟩ = false
/-- What stands in the written region afterwards. -/
theorem new_cells {W0 : World} {Tp : Nat → Nat → Prop} {env ys : List Int} {β β' : List (Nat × Nat)} {mem : List (List SC × Bool)} {w' : World} {m b o : Nat} (hM : MRel W0 Tp (env ++ ys) β' mem w') (h0 : mem[0]? = some (us m 4, true)) (hβ : β[0]? = some (b, o)) (hL : Longer β β') (hm : m = env.length) : Cells w' b o 4 ys := by
  have hb : β'[0]? = some (b, o) := by
    obtain ⟨e, rfl⟩ := hL
    rw [List.getElem?_append_left (List.getElem?_eq_some_iff.1 hβ).1]
    exact hβ
  intro j hj
  obtain ⟨v, hv, y, hy, _, rfl⟩ := hM.cells 0 _ _ _ h0 hb j (.ii .u64 (.var (m + j))) (by simp [us, u, hj])
  have hy : (env ++ ys)[m + j]? = some y := hy
  rw [hm, List.getElem?_append_right (by omega), Nat.add_sub_cancel_left] at hy
  rw [hv, List.getD_eq_getElem?_getD, hy]
  rfl
/-! ### two arrays in memory: the one that is made, the one that is handed back -/
structure ZM (bz br : Nat) (w wz : World) (zs rs : List Int) : Prop where
  below : Below w.heap.size w wz
  cz : Cells wz bz 0 4 zs
  fz : Froz wz bz 0
  cr : Cells wz br 0 4 rs
  fr : Froz wz br 0
  hz : w.heap.size ≤ bz
  hr : w.heap.size ≤ br
  ne : br ≠ bz
theorem touch_stay {wr w' : World} {b o n b2 o2 m : Nat} {xs : List Int} (hT : Eng.Touch wr b o n w') (hm : 0 < m) (hne : b2 ≠ b ∨ o2 + m ≤ o ∨ o + n ≤ o2) (hc : Cells wr b2 o2 m xs) : Cells w' b2 o2 m xs := fun j hj => by
  rw [hT.cell b2 (o2 + j) (cells_lt hm hc) (fun hh => by rcases hne with h | h | h <;> omega)]
  exact hc j hj
theorem touch_setCells {W0 : World} {b o n : Nat} : ∀ (vs : List Value) (k : Nat) (w : World), o ≤ k → k + vs.length ≤ o + n → Eng.Touch W0 b o n w → Eng.Touch W0 b o n (w.setCells b k vs)
  | [], _, _, _, _, h => h
  | v :: vs, k, w, h1, h2, h => touch_setCells vs (k + 1) _ (by omega) (by simp at h2; omega) (Kept.setCell h b k v (Or.inr ⟨rfl, h1, by simp at h2; omega⟩))
section
variable {bz br : Nat} {w wz w' : World} {zs rs xs : List Int}
theorem ZM.more (h : ZM bz br w wz zs rs) (hb : Below wz.heap.size wz w') : ZM bz br w w' zs rs := by
  have h1 := cells_lt (by decide) h.cz
  have h2 := cells_lt (by decide) h.cr
  refine ⟨h.below.trans (hb.mono h.below.size), cells_below hb h1 h.cz, fun j hj => ?_, cells_below hb h2 h.cr, fun j hj => ?_, h.hz, h.hr, h.ne⟩
  · rw [hb.frozen (show bz < wz.heap.size from h1)]; exact h.fz j hj
  · rw [hb.frozen (show br < wz.heap.size from h2)]; exact h.fr j hj
theorem ZM.touchZ (h : ZM bz br w wz zs rs) (hT : Eng.Touch wz bz 0 4 w') (hc : Cells w' bz 0 4 xs) : ZM bz br w w' xs rs := by
  have h1 := cells_lt (by decide) h.cz
  have h2 := cells_lt (by decide) h.cr
  refine ⟨h.below.trans (hT.below h.hz h.below.size), hc, fun j hj => ?_, touch_stay hT (by decide) (Or.inl h.ne) h.cr, fun j hj => ?_, h.hz, h.hr, h.ne⟩
  · rw [hT.frozen _ _ h1]; exact h.fz j hj
  · rw [hT.frozen _ _ h2]; exact h.fr j hj
theorem ZM.touchR (h : ZM bz br w wz zs rs) (hT : Eng.Touch wz br 0 4 w') (hc : Cells w' br 0 4 xs) : ZM bz br w w' zs xs := by
  have h1 := cells_lt (by decide) h.cz
  have h2 := cells_lt (by decide) h.cr
  refine ⟨h.below.trans (hT.below h.hr h.below.size), touch_stay hT (by decide) (Or.inl h.ne.symm) h.cz, fun j hj => ?_, hc, fun j hj => ?_, h.hz, h.hr, h.ne⟩
  · rw [hT.frozen _ _ h1]; exact h.fz j hj
  · rw [hT.frozen _ _ h2]; exact h.fr j hj
theorem ZM.at (h : ZM bz br w wz zs rs) (i : Nat) (hi : i < 4) : wz.cell? ⟨bz, i, none⟩ = some (.int .u64 (zs.getD i 0)) := by
  have := h.cz i hi
  rwa [Nat.zero_add] at this
theorem ZM.fat (h : ZM bz br w wz zs rs) (i : Nat) (hi : i < 4) : wz.frozen? ⟨bz, i, none⟩ = false := by
  have := h.fz i hi
  rwa [Nat.zero_add] at this
theorem ZM.setZ (h : ZM bz br w wz zs rs) (lz : zs.length = 4) (i : Nat) (hi : i < 4) (v : Int) : ZM bz br w (wz.setCell ⟨bz, i, none⟩ (.int .u64 v)) (zs.set i v) rs := by
  have hT : Eng.Touch wz bz 0 4 (wz.setCell ⟨bz, i, none⟩ (.int .u64 v)) := Kept.setCell (Kept.refl _ _) bz i _ (Or.inr ⟨rfl, Nat.zero_le _, by omega⟩)
  refine h.touchZ hT fun j hj => ?_
  rw [Nat.zero_add]
  by_cases hji : j = i
  · subst hji
    rw [World.cell?_setCell_same _ _ _ (by rw [h.at j hj]), List.getD_eq_getElem?_getD, List.getElem?_set_self (by omega)]
    rfl
  · have hT1 : Eng.Touch wz bz i 1 (wz.setCell ⟨bz, i, none⟩ (.int .u64 v)) := Kept.setCell (Kept.refl _ _) bz i _ (Or.inr ⟨rfl, Nat.le_refl _, by omega⟩)
    rw [hT1.cell _ _ (cells_lt (by decide) h.cz) (fun hh => by omega), h.at j hj, List.getD_eq_getElem?_getD, List.getD_eq_getElem?_getD, List.getElem?_set_ne (Ne.symm hji)]
theorem setCells_cells {b : Nat} {r : List Int} (lr : r.length = 4) (hc : Cells wz b 0 4 xs) : Cells (wz.setCells b 0 (r.map (.int .u64))) b 0 4 r := fun j hj => by
  have hjl : j < (r.map (Value.int .u64)).length := by rw [List.length_map, lr]; exact hj
  rw [World.cell?_setCells_in b (r.map (Value.int .u64)) 0 wz (fun i hi => by
    have hi : i < 4 := by simpa [lr] using hi
    rw [hc i hi]; rfl) j hjl, List.getElem_map, List.getD_eq_getElem?_getD, List.getElem?_eq_getElem (by omega)]
  rfl
theorem ZM.setR (h : ZM bz br w wz zs rs) {r : List Int} (lr : r.length = 4) : ZM bz br w (wz.setCells br 0 (r.map (.int .u64))) zs r :=
  h.touchR (touch_setCells _ _ _ (Nat.le_refl _) (by simp [lr]) (Kept.refl _ _)) (setCells_cells lr h.cr)
theorem ZM.drew (h : ZM bz br w wz zs rs) : ZM bz br w wz.drew zs rs := ⟨h.below.drew, h.cz, h.fz, h.cr, h.fr, h.hz, h.hr, h.ne⟩
theorem ZM.rat (h : ZM bz br w wz zs rs) (i : Nat) (hi : i < 4) : wz.cell? ⟨br, i, none⟩ = some (.int .u64 (rs.getD i 0)) := by
  have := h.cr i hi
  rwa [Nat.zero_add] at this
theorem ZM.rfat (h : ZM bz br w wz zs rs) (i : Nat) (hi : i < 4) : wz.frozen? ⟨br, i, none⟩ = false := by
  have := h.fr i hi
  rwa [Nat.zero_add] at this
theorem ZM.thereR (h : ZM bz br w wz zs rs) : wz.there br 0 4 := fun j hj => ⟨by rw [h.cr j hj]; rfl, h.fr j hj⟩
theorem ZM.thereZ (h : ZM bz br w wz zs rs) : wz.there bz 0 4 := fun j hj => ⟨by rw [h.cz j hj]; rfl, h.fz j hj⟩
theorem range_of {b o : Nat} {r : List Int} (lr : r.length = 4) (h : Cells wz b o 4 r) : wz.rangeAt b o (r.map (.int .u64)) := fun j v hj => by
  rw [List.getElem?_map] at hj
  have hjl : j < r.length := by
    rcases Nat.lt_or_ge j r.length with h | h
    · exact h
    · rw [List.getElem?_eq_none h] at hj; cases hj
  rw [List.getElem?_eq_getElem hjl] at hj
  rw [h j (by omega), List.getD_eq_getElem?_getD, List.getElem?_eq_getElem hjl]
  exact hj
theorem zm_start (w : World) (o : Obj) (t t' : TypeId) : ZM (w.heap.size + 1 + 1) (w.heap.size + 1) w (((w.alloc o).alloc (.cells #[Value.int IntKind.u64 0, Value.int IntKind.u64 0, Value.int IntKind.u64 0, Value.int IntKind.u64 0] t)).alloc (.cells #[Value.int IntKind.u64 0, Value.int IntKind.u64 0, Value.int IntKind.u64 0, Value.int IntKind.u64 0] t')) (List.replicate 4 0) (List.replicate 4 0) := by
  have e0 : (w.alloc o).heap.size = w.heap.size + 1 := by simp
  have b0 := (Below.refl w.heap.size w).alloc (Nat.le_refl _) o
  generalize w.alloc o = w0 at *
  have e1 : (w0.alloc (.cells #[Value.int IntKind.u64 0, Value.int IntKind.u64 0, Value.int IntKind.u64 0, Value.int IntKind.u64 0] t)).heap.size = w0.heap.size + 1 := by simp
  have c1 : Cells (w0.alloc (.cells #[Value.int IntKind.u64 0, Value.int IntKind.u64 0, Value.int IntKind.u64 0, Value.int IntKind.u64 0] t)) w0.heap.size 0 4 (List.replicate 4 0) := fun j hj => by
    rw [Nat.zero_add, World.cell?_alloc_new]
    match j, hj with
    | 0, _ | 1, _ | 2, _ | 3, _ => rfl
  have f1 : ∀ o, (w0.alloc (.cells #[Value.int IntKind.u64 0, Value.int IntKind.u64 0, Value.int IntKind.u64 0, Value.int IntKind.u64 0] t)).frozen? ⟨w0.heap.size, o, none⟩ = false := fun o => by simp
  have b1 := (Below.refl w0.heap.size w0).alloc (Nat.le_refl _) (.cells #[Value.int IntKind.u64 0, Value.int IntKind.u64 0, Value.int IntKind.u64 0, Value.int IntKind.u64 0] t)
  generalize w0.alloc (.cells #[Value.int IntKind.u64 0, Value.int IntKind.u64 0, Value.int IntKind.u64 0, Value.int IntKind.u64 0] t) = w1 at *
  have e2 : (w1.alloc (.cells #[Value.int IntKind.u64 0, Value.int IntKind.u64 0, Value.int IntKind.u64 0, Value.int IntKind.u64 0] t')).heap.size = w1.heap.size + 1 := by simp
  have c2 : Cells (w1.alloc (.cells #[Value.int IntKind.u64 0, Value.int IntKind.u64 0, Value.int IntKind.u64 0, Value.int IntKind.u64 0] t')) w1.heap.size 0 4 (List.replicate 4 0) := fun j hj => by
    rw [Nat.zero_add, World.cell?_alloc_new]
    match j, hj with
    | 0, _ | 1, _ | 2, _ | 3, _ => rfl
  have f2 : ∀ o, (w1.alloc (.cells #[Value.int IntKind.u64 0, Value.int IntKind.u64 0, Value.int IntKind.u64 0, Value.int IntKind.u64 0] t')).frozen? ⟨w1.heap.size, o, none⟩ = false := fun o => by simp
  have b2 := (Below.refl w1.heap.size w1).alloc (Nat.le_refl _) (.cells #[Value.int IntKind.u64 0, Value.int IntKind.u64 0, Value.int IntKind.u64 0, Value.int IntKind.u64 0] t')
  generalize w1.alloc (.cells #[Value.int IntKind.u64 0, Value.int IntKind.u64 0, Value.int IntKind.u64 0, Value.int IntKind.u64 0] t') = w2 at *
  rw [e1, e0] at c2 f2
  rw [e0] at c1 f1
  refine ⟨(b0.trans (b1.mono (by omega))).trans (b2.mono (by omega)), c2, fun j hj => f2 _, cells_below b2 (by omega) c1, fun j hj => ?_, by omega, by omega, by omega⟩
  rw [b2.frozen (show w.heap.size + 1 < w1.heap.size by omega)]
  exact f1 _
end
theorem zm_start2 (w : World) (t t' : TypeId) : ZM (w.heap.size + 1) w.heap.size w ((w.alloc (.cells #[Value.int IntKind.u64 0, Value.int IntKind.u64 0, Value.int IntKind.u64 0, Value.int IntKind.u64 0] t)).alloc (.cells #[Value.int IntKind.u64 0, Value.int IntKind.u64 0, Value.int IntKind.u64 0, Value.int IntKind.u64 0] t')) (List.replicate 4 0) (List.replicate 4 0) := by
  have e1 : (w.alloc (.cells #[Value.int IntKind.u64 0, Value.int IntKind.u64 0, Value.int IntKind.u64 0, Value.int IntKind.u64 0] t)).heap.size = w.heap.size + 1 := by simp
  have c1 : Cells (w.alloc (.cells #[Value.int IntKind.u64 0, Value.int IntKind.u64 0, Value.int IntKind.u64 0, Value.int IntKind.u64 0] t)) w.heap.size 0 4 (List.replicate 4 0) := fun j hj => by
    rw [Nat.zero_add, World.cell?_alloc_new]
    match j, hj with
    | 0, _ | 1, _ | 2, _ | 3, _ => rfl
  have f1 : ∀ o, (w.alloc (.cells #[Value.int IntKind.u64 0, Value.int IntKind.u64 0, Value.int IntKind.u64 0, Value.int IntKind.u64 0] t)).frozen? ⟨w.heap.size, o, none⟩ = false := fun o => by simp
  have b1 := (Below.refl w.heap.size w).alloc (Nat.le_refl _) (.cells #[Value.int IntKind.u64 0, Value.int IntKind.u64 0, Value.int IntKind.u64 0, Value.int IntKind.u64 0] t)
  generalize w.alloc (.cells #[Value.int IntKind.u64 0, Value.int IntKind.u64 0, Value.int IntKind.u64 0, Value.int IntKind.u64 0] t) = w1 at *
  have c2 : Cells (w1.alloc (.cells #[Value.int IntKind.u64 0, Value.int IntKind.u64 0, Value.int IntKind.u64 0, Value.int IntKind.u64 0] t')) w1.heap.size 0 4 (List.replicate 4 0) := fun j hj => by
    rw [Nat.zero_add, World.cell?_alloc_new]
    match j, hj with
    | 0, _ | 1, _ | 2, _ | 3, _ => rfl
  have f2 : ∀ o, (w1.alloc (.cells #[Value.int IntKind.u64 0, Value.int IntKind.u64 0, Value.int IntKind.u64 0, Value.int IntKind.u64 0] t')).frozen? ⟨w1.heap.size, o, none⟩ = false := fun o => by simp
  have b2 := (Below.refl w1.heap.size w1).alloc (Nat.le_refl _) (.cells #[Value.int IntKind.u64 0, Value.int IntKind.u64 0, Value.int IntKind.u64 0, Value.int IntKind.u64 0] t')
  generalize w1.alloc (.cells #[Value.int IntKind.u64 0, Value.int IntKind.u64 0, Value.int IntKind.u64 0, Value.int IntKind.u64 0] t') = w2 at *
  rw [e1] at c2 f2
  refine ⟨b1.trans (b2.mono (by omega)), c2, fun j hj => f2 _, cells_below b2 (by omega) c1, fun j hj => ?_, by omega, by omega, by omega⟩
  rw [b2.frozen (show w.heap.size < w1.heap.size by omega)]
  exact f1 _
def aggW (s : List Int) : Value := .agg (s.map (Value.int .u64)).toArray
theorem lenX {r : List Int} (h : r.length = 4) : ∃ r0 r1 r2 r3, r = [r0, r1, r2, r3] := by
  match r, h with
  | [r0, r1, r2, r3], _ => exact ⟨r0, r1, r2, r3, rfl⟩
theorem ret_arr {fn : Func} {p u : Tmp} {t : TypeId} {d : TypeDesc} {R : Ending → World → Prop} {a : Act} {w : World} {b : Nat} {r : List Int} {x : Value} (h : fn.results = #[.cell p t, .tmp u])
    (hp : a.tmps.getD p undef = .pointer (some ⟨b, 0, none⟩)) (lr : r.length = 4) (hc : Cells w b 0 4 r) (ht : Tryd.prog.underlying t = some d) (hd : d.isRow = true) (hi : (Tryd.prog.info? t).map (·.size) = some 4)
    (hu : a.tmps.getD u undef = x) (hf : a.defers = []) (hR : R (.returned (.tuple #[aggW r, x])) w) : bodyPost Tryd.prog fn R .ret a w :=
  bodyPost_ret (by
    rw [results_cell_tmp h, hp, hu]
    show ((loadVar t ⟨b, 0, none⟩).run Tryd.prog w).andThen _ = _
    rw [run_loadVar_mid w b 0 t (r.map (Value.int .u64)) d (range_of lr hc) ht hd (by rw [List.length_map, lr]; exact hi)]
    rfl) hf hR
theorem froz_below {B : Nat} {w w' : World} {b o : Nat} (h : Below B w w') (hb : b < B) (hf : Froz w b o) : Froz w' b o := fun j hj => by rw [h.frozen hb]; exact hf j hj
theorem touch_of_below {w w' : World} {b o n : Nat} (h : Below w.heap.size w w') : Eng.Touch w b o n w' :=
  ⟨h.os, h.tape, h.output, h.size, fun k hk _ => h.block k hk, fun _ _ hb _ => h.cell hb, fun _ _ hb => h.frozen hb⟩
theorem Touch.trans {w w1 w2 : World} {b o n : Nat} (h1 : Eng.Touch w b o n w1) (h2 : Eng.Touch w1 b o n w2) : Eng.Touch w b o n w2 := by
  have s1 := h1.size
  exact ⟨h2.os.trans h1.os, h2.tape.trans h1.tape, h2.output.trans h1.output, Nat.le_trans h1.size h2.size, fun k hk hh => (h2.block k (by omega) hh).trans (h1.block k hk hh), fun b' o' hb hh => (h2.cell b' o' (by omega) hh).trans (h1.cell b' o' hb hh), fun b' o' hb => (h2.frozen b' o' (by omega)).trans (h1.frozen b' o' hb)⟩
theorem app2 {a b : List Int} (la : a.length = 4) (j : Nat) : (a ++ b).getD (4 + j) 0 = b.getD j 0 := by
  rw [List.getD_eq_getElem?_getD, List.getD_eq_getElem?_getD, List.getElem?_append_right (by omega), la, Nat.add_sub_cancel_left]
def kEqM : K := { f := 38, args := [pt 0, pt 1], mem := r2, m := 8, id := 1, mout := 1, ret := bo 8, mem1 := r2 }
theorem eqM_ok : KOk Tryd.prog AA kEqM := k_of (L := []) (by simp) (by kernel_rfl) (by kernel_rfl) (T := eqF 4) (by kernel_rfl) fun env hl hw _ => eqF_ok (by decide) hl hw fun e o ho => fin_of hl (congrArg (fun x => [x]) ho)
theorem two_cells {w : World} {b1 o1 b2 o2 : Nat} {xs ys : List Int} (lx : xs.length = 4) (ly : ys.length = 4) (wx : Wds xs) (wy : Wds ys) (h1 : Cells w b1 o1 4 xs) (h2 : Cells w b2 o2 4 ys) {c1 c2 : Bool} :
    ∀ (r : Nat) (cs : List SC) (wr : Bool), [(us 0 4, c1), (us 4 4, c2)][r]? = some (cs, wr) → ∃ x : Nat × Nat, [(b1, o1), (b2, o2)][r]? = some x ∧ x.1 < w.heap.size ∧ ∀ (j : Nat) (sc : SC), cs[j]? = some sc → ∃ v, w.cell? ⟨x.1, x.2 + j, none⟩ = some v ∧ sc.is (xs ++ ys) [(b1, o1), (b2, o2)] v := by
  have hw := wx.append wy
  have k1 := us_cell (env := xs ++ ys) (β := [(b1, o1), (b2, o2)]) (i := 0) (n := 4) (b := b1) (o := o1) (by simp; omega) hw fun j hj => by
    rw [h1 j hj, Nat.zero_add, at_old (by omega)]
  have k2 := us_cell (env := xs ++ ys) (β := [(b1, o1), (b2, o2)]) (i := 4) (n := 4) (b := b2) (o := o2) (by simp; omega) hw fun j hj => by
    rw [h2 j hj, app2 lx]
  intro r cs wr h
  match r, h with
  | 0, h => cases h; exact ⟨_, rfl, cells_lt (by decide) h1, k1⟩
  | 1, h => cases h; exact ⟨_, rfl, cells_lt (by decide) h2, k2⟩
theorem one_cells {w : World} {b o : Nat} {xs ys : List Int} (lx : xs.length = 4) (wx : Wds xs) (wy : Wds ys) (h : Cells w b o 4 xs) {c : Bool} :
    ∀ (r : Nat) (cs : List SC) (wr : Bool), [(us 0 4, c)][r]? = some (cs, wr) → ∃ x : Nat × Nat, [(b, o)][r]? = some x ∧ x.1 < w.heap.size ∧ ∀ (j : Nat) (sc : SC), cs[j]? = some sc → ∃ v, w.cell? ⟨x.1, x.2 + j, none⟩ = some v ∧ sc.is (xs ++ ys) [(b, o)] v := by
  have k1 := us_cell (env := xs ++ ys) (β := [(b, o)]) (i := 0) (n := 4) (b := b) (o := o) (by simp; omega) (wx.append wy) fun j hj => by
    rw [h j hj, Nat.zero_add, at_old (by omega)]
  intro r cs wr h'
  match r, h' with
  | 0, h' => cases h'; exact ⟨_, rfl, cells_lt (by decide) h, k1⟩
theorem bit_of {env : List Int} {t t' : Bool} {m : Nat} (hl : env.length = m) (h : (env ++ [b01 t'])[m]? = some (b01 t)) : t = t' := by
  rw [List.getElem?_append_right (by omega)] at h
  have e8 : m - env.length = 0 := by omega
  rw [e8] at h
  simp only [List.getElem?_cons_zero, Option.some.injEq] at h
  cases t <;> cases t' <;> first | rfl | (simp [b01] at h)
theorem equal_call {b1 o1 b2 o2 : Nat} {xs ys : List Int} (lx : xs.length = 4) (ly : ys.length = 4) (wx : Wds xs) (wy : Wds ys) {w : World} (h1 : Cells w b1 o1 4 xs) (h2 : Cells w b2 o2 4 ys) :
    Calls Tryd.prog 38 #[.pointer (some ⟨b1, o1, none⟩), .pointer (some ⟨b2, o2, none⟩)] w fun e w' => e = .returned (.bool (decide (xs = ys))) ∧ Below w.heap.size w w' := by
  have hw := wx.append wy
  refine (ko_ro eqM_ok (env := xs ++ ys) (β := [(b1, o1), (b2, o2)]) (vs := [.pointer (some ⟨b1, o1, none⟩), .pointer (some ⟨b2, o2, none⟩)]) (by show (xs ++ ys).length = 8; simp; omega) rfl (by decide) (two_cells lx ly wx wy h1 h2)
    ⟨⟨_, rfl, rfl⟩, ⟨_, rfl, rfl⟩, trivial⟩ ⟨fun _ => hw, trivial⟩).mono ?_
  rintro e w' ⟨zs, β', v, _, hp, rfl, _, hv, _, _, hb⟩
  have hp : zs = [b01 (decide ((xs ++ ys).take 4 = (xs ++ ys).drop 4))] := hp
  rw [take_app lx, drop_app lx] at hp
  subst hp
  obtain ⟨t, ht, rfl⟩ := hv
  rw [bit_of (by simp; omega) ht]
  exact ⟨rfl, hb⟩
theorem exp_call {bz oz : Nat} {zs xs : List Int} (lz : zs.length = 4) (lx : xs.length = 4) (wz : Wds zs) (wx : Wds xs) (hx : vw xs < vw prime) {w : World} (cz : Cells w bz oz 4 zs) (hf : Froz w bz oz) :
    Calls Tryd.prog 23 #[.pointer (some ⟨bz, oz, none⟩), aggW xs] w fun e w' => ∃ r, PowM 4 prime xs 40770029410420498293352137776570907027550720424234931066070132305055 r ∧ e = .returned (.pointer (some ⟨bz, oz, none⟩)) ∧ Cells w' bz oz 4 r ∧ Eng.Touch w bz oz 4 w' := by
  have hw := wz.append wx
  have lE : (zs ++ xs).length = 8 := by simp; omega
  have i1 := us_is (env := zs ++ xs) (β := [(bz, oz)]) (i := 4) (n := 4) (by omega) hw
  rw [drop_app lz, List.take_of_length_le (by omega)] at i1
  refine (ko_w exp_ok (env := zs ++ xs) (β := [(bz, oz)]) (vs := [.pointer (some ⟨bz, oz, none⟩), aggW xs]) (b0 := bz) (o0 := oz) rfl rfl lE rfl (by simp) (one_cells lz wz wx cz) hf (by intro r x cs h _; cases h)
    ⟨⟨_, rfl, rfl⟩, ⟨_, rfl, i1⟩, trivial⟩ ⟨hi (by decide), hw, by show vw (List.drop 4 _) < _; rw [drop_app lz]; exact hx⟩).mono ?_
  rintro e w' ⟨rs, β', v, hl, hp, rfl, hL, hv, hM, _, hT⟩
  have hp : PowM 4 prime ((zs ++ xs).drop 4) 40770029410420498293352137776570907027550720424234931066070132305055 rs := hp
  rw [drop_app lz] at hp
  refine ⟨rs, hp, ?_, new_cells hM rfl rfl hL lE.symm, hT⟩
  obtain ⟨x, hx, rfl⟩ := hv
  obtain ⟨e', rfl⟩ := hL
  cases hx
  rfl
theorem sqE_call {bz oz bY oY : Nat} {zs ys : List Int} (lz : zs.length = 4) (ly : ys.length = 4) (wz : Wds zs) (wy : Wds ys) (hy : vw ys < vw prime) {w : World}
    (cz : Cells w bz oz 4 zs) (cy : Cells w bY oY 4 ys) (hf : Froz w bz oz) (dy : bY ≠ bz ∨ oY + 4 ≤ oz ∨ oz + 4 ≤ oY) :
    Calls Tryd.prog 24 #[.pointer (some ⟨bz, oz, none⟩), .pointer (some ⟨bY, oY, none⟩)] w fun e w' => ∃ r, MulM 4 prime ys ys r ∧ e = .returned (.pointer (some ⟨bz, oz, none⟩)) ∧ Cells w' bz oz 4 r ∧ Eng.Touch w bz oz 4 w' := by
  have hw := wz.append wy
  have lE : (zs ++ ys).length = 8 := by simp; omega
  refine (ko_w sqE_ok (env := zs ++ ys) (β := [(bz, oz), (bY, oY)]) (vs := [.pointer (some ⟨bz, oz, none⟩), .pointer (some ⟨bY, oY, none⟩)]) (b0 := bz) (o0 := oz) rfl rfl lE rfl (by decide) (two_cells lz ly wz wy cz cy) hf (by
      intro r x cs h h'
      match r, h, h' with
      | 0, h, h' => cases h; cases h'; exact dy)
    ⟨⟨_, rfl, rfl⟩, ⟨_, rfl, rfl⟩, trivial⟩ ⟨fun _ => hw, by show vw (List.drop 4 _) < _; rw [drop_app lz]; exact hy⟩).mono ?_
  rintro e w' ⟨rs, β', v, hl, hp, rfl, hL, hv, hM, _, hT⟩
  have hp : MulM 4 prime ((zs ++ ys).drop 4) ((zs ++ ys).drop 4) rs := hp
  rw [drop_app lz] at hp
  refine ⟨rs, hp, ?_, new_cells hM rfl rfl hL lE.symm, hT⟩
  obtain ⟨x, hx, rfl⟩ := hv
  obtain ⟨e', rfl⟩ := hL
  cases hx
  rfl
def kSetM : K := { f := 35, args := [pt 0, pt 1], mem := [(us 0 4, true), (us 4 4, false)], m := 8, id := 86, mout := 0, ret := pt 0, mem1 := [(us 4 4, true), (us 4 4, false)] }
theorem setM_ok : KOk Tryd.prog AA kSetM := k_of (L := []) (by simp) (by kernel_rfl) (by kernel_rfl) (T := .fin (enc []) st0) (by kernel_rfl) fun env hl _ _ => fin_take (env := env) (List.take_of_length_le (Nat.le_of_eq hl)) (show ([] : List Int) = [] from rfl)
theorem set_call {bz oz bY oY : Nat} {zs ys : List Int} (lz : zs.length = 4) (ly : ys.length = 4) (wz : Wds zs) (wy : Wds ys) {w : World}
    (cz : Cells w bz oz 4 zs) (cy : Cells w bY oY 4 ys) (hf : Froz w bz oz) (dy : bY ≠ bz ∨ oY + 4 ≤ oz ∨ oz + 4 ≤ oY) :
    Calls Tryd.prog 35 #[.pointer (some ⟨bz, oz, none⟩), .pointer (some ⟨bY, oY, none⟩)] w fun e w' => e = .returned (.pointer (some ⟨bz, oz, none⟩)) ∧ Cells w' bz oz 4 ys ∧ Eng.Touch w bz oz 4 w' := by
  have hw := wz.append wy
  have lE : (zs ++ ys).length = 8 := by simp; omega
  refine (ko_w setM_ok (env := zs ++ ys) (β := [(bz, oz), (bY, oY)]) (vs := [.pointer (some ⟨bz, oz, none⟩), .pointer (some ⟨bY, oY, none⟩)]) (b0 := bz) (o0 := oz) rfl rfl lE rfl (by decide) (two_cells lz ly wz wy cz cy) hf (by
      intro r x cs h h'
      match r, h, h' with
      | 0, h, h' => cases h; cases h'; exact dy)
    ⟨⟨_, rfl, rfl⟩, ⟨_, rfl, rfl⟩, trivial⟩ ⟨fun _ => hw, trivial⟩).mono ?_
  rintro e w' ⟨rs, β', v, hl, hp, rfl, hL, hv, hM, _, hT⟩
  have hb : β'[0]? = some (bz, oz) := by
    obtain ⟨e, rfl⟩ := hL
    rfl
  refine ⟨?_, fun j hj => ?_, hT⟩
  · obtain ⟨x, hx, rfl⟩ := hv
    rw [hb] at hx
    cases hx
    rfl
  · obtain ⟨v, hv, y, hy, _, rfl⟩ := hM.cells 0 _ _ _ rfl hb j (.ii .u64 (.var (4 + j))) (by simp [us, u, hj])
    have hy : (zs ++ ys ++ rs)[4 + j]? = some y := hy
    rw [List.getElem?_append_left (by omega), List.getElem?_append_right (by omega), lz, Nat.add_sub_cancel_left] at hy
    rw [hv, List.getD_eq_getElem?_getD, hy]
    rfl
end Go.Proofs.YtajhellohcibiaaDoor
