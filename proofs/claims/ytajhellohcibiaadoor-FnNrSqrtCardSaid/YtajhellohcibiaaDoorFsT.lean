/-
  More calls in memory by their contracts; new variables. No conditions.
-/
import Derived.Test.YtajhellohcibiaaDoorFsM
import Derived.Test.YtajhellohcibiaaDoorFsU
namespace Go.Proofs.YtajhellohcibiaaDoor
open Go Eng Go.RowKit
set_option maxRecDepth 100000
def kZero : K := { f := 21, args := [pt 0], mem := [(us 0 4, false)], m := 4, id := 65, mout := 1, ret := bo 4, mem1 := [(us 0 4, false)] }
def kOne : K := { f := 26, args := [pt 0], mem := [(us 0 4, false)], m := 4, id := 66, mout := 1, ret := bo 4, mem1 := [(us 0 4, false)] }
theorem zero_ok : KOk Tryd.prog AA kZero := k_of' (L := []) (by simp) (by kernel_rfl) (T := zeT (vr 0 4).reverse 4) (by kernel_rfl) fun env hl hp => by
  have hl' : env.length = 4 := hl
  have hv : ((vr 0 4).reverse).map (·.val env) = env.reverse := by rw [List.map_reverse, one_vr hl']
  refine zeT_ok (A := AA.to kZero) (by decide) hl'.symm (fun x hx => vr_bd (i := 0) (n := 4) (by decide) x (List.mem_reverse.1 hx)) (by rw [hv]; exact wds_rev hp) fun e o ho => fin_of hl ?_
  rw [hv, List.reverse_reverse] at ho
  exact congrArg (fun x => [x]) ho
theorem one_ok : KOk Tryd.prog AA kOne := k_of' (L := []) (by simp) (by kernel_rfl) (T := onT (vr 0 4).reverse one.reverse 4) (by kernel_rfl) fun env hl hp => by
  have hl' : env.length = 4 := hl
  have hv : ((vr 0 4).reverse).map (·.val env) = env.reverse := by rw [List.map_reverse, one_vr hl']
  refine onT_ok (A := AA.to kOne) (by decide) (by decide) hl'.symm (fun x hx => vr_bd (i := 0) (n := 4) (by decide) x (List.mem_reverse.1 hx)) (by rw [hv]; exact wds_rev hp) (wds_rev one_wd) fun e o ho => fin_of hl ?_
  rw [hv] at ho
  refine (congrArg (fun x => [x]) ho).trans ?_
  show [b01 (decide (env.reverse = one.reverse))] = [b01 (decide (env = one))]
  congr 2
  rw [decide_eq_decide]
  exact List.reverse_inj
/-! ### more calls in memory -/
def kSetOne : K := { f := 33, args := [pt 0], mem := [(us 0 4, true)], m := 4, id := 86, mout := 0, ret := pt 0, mem1 := [((ls one).map fun e => .ii .u64 e, true)] }
def kSetZero : K := { f := 22, args := [pt 0], mem := [(us 0 4, true)], m := 4, id := 86, mout := 0, ret := pt 0, mem1 := [((ls (List.replicate 4 0)).map fun e => .ii .u64 e, true)] }
def kNegZ : K := { f := 37, args := [pt 0, pt 0], mem := [(us 0 4, true)], m := 4, id := 88, mout := 4, ret := pt 0, mem1 := [(us 4 4, true)] }
theorem setOne_ok : KOk Tryd.prog AA kSetOne := k_of (L := []) (by simp) (by kernel_rfl) (by kernel_rfl) (T := .fin (enc []) st0) (by kernel_rfl) fun env hl _ _ => fin_take (env := env) (List.take_of_length_le (Nat.le_of_eq hl)) (show ([] : List Int) = [] from rfl)
theorem setZero_ok : KOk Tryd.prog AA kSetZero := k_of (L := []) (by simp) (by kernel_rfl) (by kernel_rfl) (T := .fin (enc []) st0) (by kernel_rfl) fun env hl _ _ => fin_take (env := env) (List.take_of_length_le (Nat.le_of_eq hl)) (show ([] : List Int) = [] from rfl)
theorem negZ_ok : KOk Tryd.prog AA kNegZ := k_of' (L := []) (by simp) (by kernel_rfl) (T := negT 4 prime (vr 0 4) 4) (by kernel_rfl) fun env hl hp => negT_ok wq (by decide) vr_length hl.symm (vr_bd (by decide)) (one_vr hl) hp.1 hp.2 fun e os h => fin_of hl h
def At (w : World) (b o : Nat) (xs : List Int) : Prop := Cells w b o 4 xs ∧ ∀ j, j < 4 → w.frozen? ⟨b, o + j, none⟩ = false
theorem At.lt {w : World} {b o : Nat} {xs : List Int} (h : At w b o xs) : b < w.heap.size := cells_lt (by decide) h.1
theorem At.below {B : Nat} {w w' : World} {b o : Nat} {xs : List Int} (h : At w b o xs) (hb : Below B w w') (hl : b < B) : At w' b o xs := ⟨cells_below hb hl h.1, fun j hj => by rw [hb.frozen hl]; exact h.2 j hj⟩
theorem At.more {w w' : World} {b o : Nat} {xs : List Int} (h : At w b o xs) (hb : Below w.heap.size w w') : At w' b o xs := h.below hb h.lt
theorem At.stay {w w' : World} {b o b2 o2 : Nat} {xs : List Int} (h : At w b o xs) (hT : Eng.Touch w b2 o2 4 w') (hne : b ≠ b2 ∨ o + 4 ≤ o2 ∨ o2 + 4 ≤ o) : At w' b o xs :=
  ⟨touch_stay hT (by decide) hne h.1, fun j hj => by rw [hT.frozen _ _ h.lt]; exact h.2 j hj⟩
theorem At.new {w w' : World} {b o : Nat} {xs ys : List Int} (h : At w b o xs) (hT : Eng.Touch w b o 4 w') (hc : Cells w' b o 4 ys) : At w' b o ys := ⟨hc, fun j hj => by rw [hT.frozen _ _ h.lt]; exact h.2 j hj⟩
theorem one_cells1 {w : World} {b o : Nat} {xs : List Int} (lx : xs.length = 4) (wx : Wds xs) (h : Cells w b o 4 xs) {c : Bool} :
    ∀ (r : Nat) (cs : List SC) (wr : Bool), [(us 0 4, c)][r]? = some (cs, wr) → ∃ x : Nat × Nat, [(b, o)][r]? = some x ∧ x.1 < w.heap.size ∧ ∀ (j : Nat) (sc : SC), cs[j]? = some sc → ∃ v, w.cell? ⟨x.1, x.2 + j, none⟩ = some v ∧ sc.is xs [(b, o)] v := by
  have := one_cells (ys := []) lx wx wds_nil h (c := c)
  rwa [List.append_nil] at this
theorem lits_new {W0 : World} {Tp : Nat → Nat → Prop} {env : List Int} {β β' : List (Nat × Nat)} {w' : World} {b o : Nat} {l : List Int} (ll : l.length = 4) (hM : MRel W0 Tp env β' [((ls l).map fun e => .ii .u64 e, true)] w') (hβ : β[0]? = some (b, o)) (hL : Longer β β') : Cells w' b o 4 l := by
  have hb : β'[0]? = some (b, o) := by
    obtain ⟨e, rfl⟩ := hL
    rw [List.getElem?_append_left (List.getElem?_eq_some_iff.1 hβ).1]
    exact hβ
  intro j hj
  obtain ⟨v, hv, y, hy, _, rfl⟩ := hM.cells 0 _ _ _ rfl hb j (.ii .u64 (.lit (l.getD j 0))) (by
    have e : (ls l)[j]? = some (.lit (l.getD j 0)) := by
      rw [ls, List.getElem?_map, List.getD_eq_getElem?_getD, List.getElem?_eq_getElem (by omega)]
      rfl
    rw [List.getElem?_map, e]
    rfl)
  have hy : y = l.getD j 0 := by simpa [SI.is] using hy
  rw [hv, hy]
theorem setOne_call {b o : Nat} {xs : List Int} (lx : xs.length = 4) (wx : Wds xs) {w : World} (h : At w b o xs) :
    Calls Tryd.prog 33 #[.pointer (some ⟨b, o, none⟩)] w fun e w' => e = .returned (.pointer (some ⟨b, o, none⟩)) ∧ At w' b o one ∧ Eng.Touch w b o 4 w' := by
  refine (ko_w setOne_ok (env := xs) (β := [(b, o)]) (vs := [.pointer (some ⟨b, o, none⟩)]) (b0 := b) (o0 := o) rfl rfl lx rfl (by simp) (one_cells1 lx wx h.1) h.2 (by intro r x cs h _; cases h)
    ⟨⟨_, rfl, rfl⟩, trivial⟩ ⟨fun _ => wx, trivial⟩).mono ?_
  rintro e w' ⟨rs, β', v, hl, hp, rfl, hL, hv, hM, _, hT⟩
  refine ⟨?_, h.new hT (lits_new rfl hM rfl hL), hT⟩
  obtain ⟨x, hx, rfl⟩ := hv
  obtain ⟨e', rfl⟩ := hL
  cases hx
  rfl
theorem setZero_call {b o : Nat} {xs : List Int} (lx : xs.length = 4) (wx : Wds xs) {w : World} (h : At w b o xs) :
    Calls Tryd.prog 22 #[.pointer (some ⟨b, o, none⟩)] w fun e w' => e = .returned (.pointer (some ⟨b, o, none⟩)) ∧ At w' b o (List.replicate 4 0) ∧ Eng.Touch w b o 4 w' := by
  refine (ko_w setZero_ok (env := xs) (β := [(b, o)]) (vs := [.pointer (some ⟨b, o, none⟩)]) (b0 := b) (o0 := o) rfl rfl lx rfl (by simp) (one_cells1 lx wx h.1) h.2 (by intro r x cs h _; cases h)
    ⟨⟨_, rfl, rfl⟩, trivial⟩ ⟨fun _ => wx, trivial⟩).mono ?_
  rintro e w' ⟨rs, β', v, hl, hp, rfl, hL, hv, hM, _, hT⟩
  refine ⟨?_, h.new hT (lits_new (by simp) hM rfl hL), hT⟩
  obtain ⟨x, hx, rfl⟩ := hv
  obtain ⟨e', rfl⟩ := hL
  cases hx
  rfl
theorem negZ_call {b o : Nat} {xs : List Int} (lx : xs.length = 4) (wx : Wds xs) (hx : vw xs < vw prime) {w : World} (h : At w b o xs) :
    Calls Tryd.prog 37 #[.pointer (some ⟨b, o, none⟩), .pointer (some ⟨b, o, none⟩)] w fun e w' => ∃ r, NegM 4 prime xs r ∧ e = .returned (.pointer (some ⟨b, o, none⟩)) ∧ At w' b o r ∧ Eng.Touch w b o 4 w' := by
  refine (ko_w negZ_ok (env := xs) (β := [(b, o)]) (vs := [.pointer (some ⟨b, o, none⟩), .pointer (some ⟨b, o, none⟩)]) (b0 := b) (o0 := o) rfl rfl lx rfl (by simp) (one_cells1 lx wx h.1) h.2 (by intro r x cs h _; cases h)
    ⟨⟨_, rfl, rfl⟩, ⟨_, rfl, rfl⟩, trivial⟩ ⟨hi (by decide), wx, hx⟩).mono ?_
  rintro e w' ⟨rs, β', v, hl, hp, rfl, hL, hv, hM, _, hT⟩
  refine ⟨rs, hp, ?_, h.new hT (new_cells hM rfl rfl hL lx.symm), hT⟩
  obtain ⟨x, hx, rfl⟩ := hv
  obtain ⟨e', rfl⟩ := hL
  cases hx
  rfl
theorem sqZ_call {b o : Nat} {xs : List Int} (lx : xs.length = 4) (wx : Wds xs) (hx : vw xs < vw prime) {w : World} (h : At w b o xs) :
    Calls Tryd.prog 24 #[.pointer (some ⟨b, o, none⟩), .pointer (some ⟨b, o, none⟩)] w fun e w' => ∃ r, MulM 4 prime xs xs r ∧ e = .returned (.pointer (some ⟨b, o, none⟩)) ∧ At w' b o r ∧ Eng.Touch w b o 4 w' := by
  refine (ko_w sqZ_ok (env := xs) (β := [(b, o)]) (vs := [.pointer (some ⟨b, o, none⟩), .pointer (some ⟨b, o, none⟩)]) (b0 := b) (o0 := o) rfl rfl lx rfl (by simp) (one_cells1 lx wx h.1) h.2 (by intro r x cs h _; cases h)
    ⟨⟨_, rfl, rfl⟩, ⟨_, rfl, rfl⟩, trivial⟩ ⟨hi (by decide), wx, hx⟩).mono ?_
  rintro e w' ⟨rs, β', v, hl, hp, rfl, hL, hv, hM, _, hT⟩
  refine ⟨rs, hp, ?_, h.new hT (new_cells hM rfl rfl hL lx.symm), hT⟩
  obtain ⟨x, hx, rfl⟩ := hv
  obtain ⟨e', rfl⟩ := hL
  cases hx
  rfl
theorem mulZ_call {bz oz bY oY : Nat} {zs ys : List Int} (lz : zs.length = 4) (ly : ys.length = 4) (wz : Wds zs) (wy : Wds ys) (hy : vw ys < vw prime) {w : World}
    (cz : At w bz oz zs) (cy : Cells w bY oY 4 ys) (dy : bY ≠ bz ∨ oY + 4 ≤ oz ∨ oz + 4 ≤ oY) :
    Calls Tryd.prog 25 #[.pointer (some ⟨bz, oz, none⟩), .pointer (some ⟨bz, oz, none⟩), .pointer (some ⟨bY, oY, none⟩)] w fun e w' => ∃ r, MulM 4 prime zs ys r ∧ e = .returned (.pointer (some ⟨bz, oz, none⟩)) ∧ At w' bz oz r ∧ Eng.Touch w bz oz 4 w' := by
  have hw := wz.append wy
  have lE : (zs ++ ys).length = 8 := by simp; omega
  refine (ko_w mulZ_ok (env := zs ++ ys) (β := [(bz, oz), (bY, oY)]) (vs := [.pointer (some ⟨bz, oz, none⟩), .pointer (some ⟨bz, oz, none⟩), .pointer (some ⟨bY, oY, none⟩)]) (b0 := bz) (o0 := oz) rfl rfl lE rfl (by decide) (two_cells lz ly wz wy cz.1 cy) cz.2 (by
      intro r x cs h h'
      match r, h, h' with
      | 0, h, h' => cases h; cases h'; exact dy)
    ⟨⟨_, rfl, rfl⟩, ⟨_, rfl, rfl⟩, ⟨_, rfl, rfl⟩, trivial⟩ ⟨fun _ => hw, by show vw (List.drop 4 _) < _; rw [drop_app lz]; exact hy⟩).mono ?_
  rintro e w' ⟨rs, β', v, hl, hp, rfl, hL, hv, hM, _, hT⟩
  have hp : MulM 4 prime ((zs ++ ys).take 4) ((zs ++ ys).drop 4) rs := hp
  rw [take_app lz, drop_app lz] at hp
  refine ⟨rs, hp, ?_, cz.new hT (new_cells hM rfl rfl hL lE.symm), hT⟩
  obtain ⟨x, hx, rfl⟩ := hv
  obtain ⟨e', rfl⟩ := hL
  cases hx
  rfl
theorem sqE_at {bz oz bY oY : Nat} {zs ys : List Int} (lz : zs.length = 4) (ly : ys.length = 4) (wz : Wds zs) (wy : Wds ys) (hy : vw ys < vw prime) {w : World}
    (cz : At w bz oz zs) (cy : Cells w bY oY 4 ys) (dy : bY ≠ bz ∨ oY + 4 ≤ oz ∨ oz + 4 ≤ oY) :
    Calls Tryd.prog 24 #[.pointer (some ⟨bz, oz, none⟩), .pointer (some ⟨bY, oY, none⟩)] w fun e w' => ∃ r, MulM 4 prime ys ys r ∧ e = .returned (.pointer (some ⟨bz, oz, none⟩)) ∧ At w' bz oz r ∧ Eng.Touch w bz oz 4 w' :=
  (sqE_call lz ly wz wy hy cz.1 cy cz.2 dy).mono fun _ _ ⟨r, h1, h2, h3, h4⟩ => ⟨r, h1, h2, cz.new h4 h3, h4⟩
theorem set_at {bz oz bY oY : Nat} {zs ys : List Int} (lz : zs.length = 4) (ly : ys.length = 4) (wz : Wds zs) (wy : Wds ys) {w : World}
    (cz : At w bz oz zs) (cy : Cells w bY oY 4 ys) (dy : bY ≠ bz ∨ oY + 4 ≤ oz ∨ oz + 4 ≤ oY) :
    Calls Tryd.prog 35 #[.pointer (some ⟨bz, oz, none⟩), .pointer (some ⟨bY, oY, none⟩)] w fun e w' => e = .returned (.pointer (some ⟨bz, oz, none⟩)) ∧ At w' bz oz ys ∧ Eng.Touch w bz oz 4 w' :=
  (set_call lz ly wz wy cz.1 cy cz.2 dy).mono fun _ _ ⟨h1, h2, h3⟩ => ⟨h1, cz.new h3 h2, h3⟩
/-- z = x * y, all three apart. -/
theorem mulE_call {bz oz bX oX bY oY : Nat} {zs xs ys : List Int} (lz : zs.length = 4) (lx : xs.length = 4) (ly : ys.length = 4) (wz : Wds zs) (wx : Wds xs) (wy : Wds ys) (hy : vw ys < vw prime) {w : World}
    (cz : At w bz oz zs) (cx : Cells w bX oX 4 xs) (cy : Cells w bY oY 4 ys) (dx : bX ≠ bz ∨ oX + 4 ≤ oz ∨ oz + 4 ≤ oX) (dy : bY ≠ bz ∨ oY + 4 ≤ oz ∨ oz + 4 ≤ oY) :
    Calls Tryd.prog 25 #[.pointer (some ⟨bz, oz, none⟩), .pointer (some ⟨bX, oX, none⟩), .pointer (some ⟨bY, oY, none⟩)] w fun e w' => ∃ r, MulM 4 prime xs ys r ∧ e = .returned (.pointer (some ⟨bz, oz, none⟩)) ∧ At w' bz oz r ∧ Eng.Touch w bz oz 4 w' := by
  have hw := (wz.append wx).append wy
  have lE : (zs ++ xs ++ ys).length = 12 := by simp; omega
  have k1 := us_cell (env := zs ++ xs ++ ys) (β := [(bz, oz), (bX, oX), (bY, oY)]) (i := 0) (n := 4) (b := bz) (o := oz) (by omega) hw fun j hj => by
    rw [cz.1 j hj, Nat.zero_add, at_old (by simp; omega), at_old (by omega)]
  have k2 := us_cell (env := zs ++ xs ++ ys) (β := [(bz, oz), (bX, oX), (bY, oY)]) (i := 4) (n := 4) (b := bX) (o := oX) (by omega) hw fun j hj => by
    rw [cx j hj, at_old (by simp; omega), app2 lz]
  have k3 := us_cell (env := zs ++ xs ++ ys) (β := [(bz, oz), (bX, oX), (bY, oY)]) (i := 8) (n := 4) (b := bY) (o := oY) (by omega) hw fun j hj => by
    rw [cy j hj, List.getD_eq_getElem?_getD, List.getD_eq_getElem?_getD, List.getElem?_append_right (by simp; omega)]
    congr 4
    simp; omega
  refine (ko_w mulE_ok (env := zs ++ xs ++ ys) (β := [(bz, oz), (bX, oX), (bY, oY)]) (vs := [.pointer (some ⟨bz, oz, none⟩), .pointer (some ⟨bX, oX, none⟩), .pointer (some ⟨bY, oY, none⟩)]) (b0 := bz) (o0 := oz) rfl rfl lE rfl (by decide) (by
      intro r cs wr h
      match r, h with
      | 0, h => cases h; exact ⟨_, rfl, cz.lt, k1⟩
      | 1, h => cases h; exact ⟨_, rfl, cells_lt (by decide) cx, k2⟩
      | 2, h => cases h; exact ⟨_, rfl, cells_lt (by decide) cy, k3⟩) cz.2 (by
      intro r x cs h h'
      match r, h, h' with
      | 0, h, h' => cases h; cases h'; exact dx
      | 1, h, h' => cases h; cases h'; exact dy)
    ⟨⟨_, rfl, rfl⟩, ⟨_, rfl, rfl⟩, ⟨_, rfl, rfl⟩, trivial⟩ ⟨fun _ => hw, by show vw (List.drop 8 _) < _; rw [app_drop2 lz lx]; exact hy⟩).mono ?_
  rintro e w' ⟨rs, β', v, hl, hp, rfl, hL, hv, hM, _, hT⟩
  have hp : MulM 4 prime (((zs ++ xs ++ ys).drop 4).take 4) ((zs ++ xs ++ ys).drop 8) rs := hp
  rw [app_mid lz lx, app_drop2 lz lx] at hp
  refine ⟨rs, hp, ?_, cz.new hT (new_cells hM rfl rfl hL lE.symm), hT⟩
  obtain ⟨x, hx, rfl⟩ := hv
  obtain ⟨e', rfl⟩ := hL
  cases hx
  rfl
theorem isZero_call {b o : Nat} {xs : List Int} (lx : xs.length = 4) (wx : Wds xs) {w : World} (h : Cells w b o 4 xs) :
    Calls Tryd.prog 21 #[.pointer (some ⟨b, o, none⟩)] w fun e w' => e = .returned (.bool (decide (vw xs = 0))) ∧ Below w.heap.size w w' := by
  refine (ko_ro zero_ok (env := xs) (β := [(b, o)]) (vs := [.pointer (some ⟨b, o, none⟩)]) lx rfl (by decide) (one_cells1 lx wx h) ⟨⟨_, rfl, rfl⟩, trivial⟩ ⟨hi (by decide), wx⟩).mono ?_
  rintro e w' ⟨zs, β', v, _, hp, rfl, _, hv, _, _, hb⟩
  have hp : zs = [b01 (decide (vw xs = 0))] := hp
  subst hp
  obtain ⟨t, ht, rfl⟩ := hv
  rw [bit_of lx ht]
  exact ⟨rfl, hb⟩
theorem isOne_call {b o : Nat} {xs : List Int} (lx : xs.length = 4) (wx : Wds xs) {w : World} (h : Cells w b o 4 xs) :
    Calls Tryd.prog 26 #[.pointer (some ⟨b, o, none⟩)] w fun e w' => e = .returned (.bool (decide (xs = one))) ∧ Below w.heap.size w w' := by
  refine (ko_ro one_ok (env := xs) (β := [(b, o)]) (vs := [.pointer (some ⟨b, o, none⟩)]) lx rfl (by decide) (one_cells1 lx wx h) ⟨⟨_, rfl, rfl⟩, trivial⟩ ⟨hi (by decide), wx⟩).mono ?_
  rintro e w' ⟨zs, β', v, _, hp, rfl, _, hv, _, _, hb⟩
  have hp : zs = [b01 (decide (xs = one))] := hp
  subst hp
  obtain ⟨t, ht, rfl⟩ := hv
  rw [bit_of lx ht]
  exact ⟨rfl, hb⟩
/-! ### a new variable -/
structure NewB (w w1 : World) (n : Nat) : Prop where
  size : w1.heap.size = w.heap.size + 1
  below : Below w.heap.size w w1
  cell : ∀ j, j < n → w1.cell? ⟨w.heap.size, j, none⟩ = some (.int .u64 0)
  froz : ∀ j, w1.frozen? ⟨w.heap.size, j, none⟩ = false
theorem newB {w : World} {n : Nat} {t : TypeId} : NewB w (w.alloc (.cells (Array.replicate n (.int .u64 0)) t)) n :=
  ⟨by simp, (Below.refl w.heap.size w).alloc (Nat.le_refl _) _, fun j hj => by
    rw [World.cell?_alloc_new]
    show (Array.replicate n (Value.int .u64 0))[j]? = _
    simp [hj], fun j => by simp⟩
theorem wpList_new {ops : Array Oper} {rest : List Oper} {op : Oper} {a : Act} {w : World} {Q : Exit → Act → World → Prop} (hgd : op.guard = none) (t : TypeId) (ho : op.op = .alloc t) (n : Nat) {i : TypeInfo} {z : Value} (hi : Tryd.prog.info? t = some i) (hz : i.zero = some z)
    (hc : z.cells = Array.replicate n (.int .u64 0)) (h : ∀ w1, NewB w w1 n → wpList Tryd.prog ops Q rest (a.put op.dst (.pointer (some ⟨w.heap.size, 0, none⟩))) w1) : wpList Tryd.prog ops Q (op :: rest) a w :=
  wpList_plain hgd fun K hK => by
    have hr : (execOp a.eval op).run Tryd.prog w = .ok (.value (.pointer (some ⟨w.heap.size, 0, none⟩))) (w.alloc (.cells (Array.replicate n (.int .u64 0)) t)) := by
      rw [← hc]
      simp [execOp, ho, Instr.alloc, zeroValue, typeInfo, hi, hz, newVar, newRow]
    unfold Oper.wp
    rw [hr, Oper.upon_value]
    exact hK _ _ (h _ newB)
theorem NewB.at {w w1 : World} {n : Nat} (h : NewB w w1 n) (o : Nat) (ho : o + 4 ≤ n) : At w1 w.heap.size o (List.replicate 4 0) :=
  ⟨fun j hj => by
    rw [h.cell (o + j) (by omega)]
    match j, hj with
    | 0, _ | 1, _ | 2, _ | 3, _ => rfl, fun j _ => h.froz _⟩
end Go.Proofs.YtajhellohcibiaaDoor
