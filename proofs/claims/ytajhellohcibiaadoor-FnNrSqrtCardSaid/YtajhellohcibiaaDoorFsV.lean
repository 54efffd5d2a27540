/-
  The powers of the root of unity, its logarithm: walked by hand, the calls by their contracts. No conditions.
-/
import Derived.Test.YtajhellohcibiaaDoorFsT
namespace Go.Proofs.YtajhellohcibiaaDoor
open Go Eng Go.RowKit
set_option maxRecDepth 100000
theorem infoE : (Tryd.prog.info? 33).map (fun i => (i.zero, i.size, i.bytes)) = some (some (.agg #[Value.int IntKind.u64 0, Value.int IntKind.u64 0, Value.int IntKind.u64 0, Value.int IntKind.u64 0]), 4, 32) := by kernel_rfl
theorem infoP : (Tryd.prog.info? 46).map (fun i => (i.zero, i.size, i.bytes)) = some (some (.agg (Array.replicate 112 (.int .u64 0))), 112, 896) := by kernel_rfl
theorem wpNewE {ops : Array Oper} {rest : List Oper} {op : Oper} {a : Act} {w : World} {Q : Exit → Act → World → Prop} (hgd : op.guard = none) (ho : op.op = .alloc 33)
    (h : ∀ w1, NewB w w1 4 → wpList Tryd.prog ops Q rest (a.put op.dst (.pointer (some ⟨w.heap.size, 0, none⟩))) w1) : wpList Tryd.prog ops Q (op :: rest) a w := by
  obtain ⟨i0, hi, hz, _, _⟩ := info_parts infoE
  exact wpList_new hgd 33 ho 4 hi hz rfl h
theorem wpNewP {ops : Array Oper} {rest : List Oper} {op : Oper} {a : Act} {w : World} {Q : Exit → Act → World → Prop} (hgd : op.guard = none) (ho : op.op = .alloc 46)
    (h : ∀ w1, NewB w w1 112 → wpList Tryd.prog ops Q rest (a.put op.dst (.pointer (some ⟨w.heap.size, 0, none⟩))) w1) : wpList Tryd.prog ops Q (op :: rest) a w := by
  obtain ⟨i0, hi, hz, _, _⟩ := info_parts infoP
  exact wpList_new hgd 46 ho 112 hi hz rfl h
theorem zeros_wd : Wds (List.replicate 4 0) := wds_zeros _
theorem zeros_ln : (List.replicate 4 (0 : Int)).length = 4 := by simp
/-! ### which power by squares is -1 -/
set_option maxHeartbeats 800000 in
theorem find_call {bd od : Nat} {D : List Int} {d : Int} {j : Nat} {w : World} (hD : El D d) (cD : Cells w bd od 4 D) (hj : Cg (d ^ 2 ^ j) (-1)) (hj64 : j < 64) :
    Calls Tryd.prog 36 #[.pointer (some ⟨bd, od, none⟩)] w fun e w' => e = .returned (.int .u64 (j : Int)) ∧ Below w.heap.size w w' := by
  have hbd := cells_lt (by decide) cD
  have hD' := Lib.hid hD
  have cD' := Lib.hid cD
  have hj' := Lib.hid hj
  clear hD cD hj
  go_enter Tryd.func36, Tryd.ntmps36
  go_upto_region 2 with (first
    | (have hx := n1; refine wpNewE rfl rfl ?_; rintro w2 n2)
    | (refine wpNewE rfl rfl ?_; rintro w1 n1))
  have s1 := n1.size
  have s2 := n2.size
  have B2 : Below w.heap.size w w2 := n1.below.trans (n2.below.mono (by omega))
  have a1 : At w2 w.heap.size 0 (List.replicate 4 0) := (n1.at 0 (by decide)).more n2.below
  have a2 : At w2 w1.heap.size 0 (List.replicate 4 0) := n2.at 0 (by decide)
  have hlt : w.heap.size < w1.heap.size := by omega
  clear n1 n2 hx s1 s2
  generalize w1.heap.size = b2 at *
  go_upto_region 5 with (first
    | (go_at_call 33; refine (setOne_call zeros_ln zeros_wd a2).mono ?_; rintro e w3 ⟨rfl, a3, T3⟩; have c3 := a1.stay T3 (Or.inl (Nat.ne_of_lt hlt)); have B3 := B2.trans (T3.below (show w.heap.size ≤ b2 by omega) B2.size))
    | (go_at_call 37; refine (negZ_call el_one.1 el_one.2.1 el_one.2.2.1 a3).mono ?_; rintro e w4 ⟨m, hm, rfl, a4, T4⟩; have c4 := c3.stay T4 (Or.inl (Nat.ne_of_lt hlt)); have B4 := B3.trans (T4.below (show w.heap.size ≤ b2 by omega) B3.size))
    | (go_at_call 35; refine (set_at zeros_ln hD'.out.1 zeros_wd hD'.out.2.1 c4 (cells_below B4 hbd cD'.out) (Or.inl (by omega))).mono ?_; rintro e w5 ⟨rfl, c5, T5⟩; have a5 := a4.stay T5 (Or.inl (Nat.ne_of_gt hlt)); have B5 := B4.trans (T5.below (Nat.le_refl _) B4.size)))
  have hM := Lib.hid (el_neg el_one hm)
  have hst : ∃ M, El M (d ^ 2 ^ 0) ∧ At w5 w.heap.size 0 M := ⟨D, by rw [Nat.pow_zero, Int.pow_succ, Int.pow_zero, Int.one_mul]; exact hD'.out, c5⟩
  clear T3 T4 T5 c3 c4 c5 a1 a2 a3 a4 B2 B3 B4 hm
  go_wp2
  go_loopw [5] (fun i wr => ∃ k : Nat, k ≤ j ∧ i = .int .u64 (k : Int) ∧ (∃ M, El M (d ^ 2 ^ k) ∧ At wr w.heap.size 0 M) ∧ At wr b2 0 m ∧ Below w.heap.size w wr) (fun i _ => j - (intOf i).toNat)
  case atStart => exact ⟨0, Nat.zero_le _, rfl, hst, a5, B5⟩
  case round =>
    clear hst a5 B5
    obtain ⟨k, hk, rfl, ⟨M, eM, aM⟩, am, B⟩ := hrel
    have eM' := Lib.hid eM
    clear eM
    by_cases hkj : k = j
    · have he : M = m := (eM'.out.eq hM.out).2 (by rw [hkj]; exact hj'.out)
      go_wp2_with (go_at_call 38; refine (equal_call eM'.out.1 hM.out.1 eM'.out.2.1 hM.out.2.1 aM.1 am.1).mono ?_; rw [decide_eq_true he]; rintro e w6 ⟨rfl, B6⟩)
      go_ret
      exact ⟨rfl, B.trans (B6.mono B.size)⟩
    · have he : M ≠ m := fun h => minus_once hj'.out (show k < j by omega) ((eM'.out.eq hM.out).1 h)
      go_wp2_with (first
        | (go_at_call 38; refine (equal_call eM'.out.1 hM.out.1 eM'.out.2.1 hM.out.2.1 aM.1 am.1).mono ?_; rw [decide_eq_false he]; rintro e w6 ⟨rfl, B6⟩; have aM6 := aM.more B6; have am6 := am.more B6; have B' := B.trans (B6.mono B.size))
        | (go_at_call 24; refine (sqZ_call eM'.out.1 eM'.out.2.1 eM'.out.2.2.1 aM6).mono ?_; rintro e w7 ⟨r, hr, rfl, a7, T7⟩))
      go_roundw
      case rel =>
        refine ⟨k + 1, by omega, by go_num, ⟨r, ?_, a7⟩, am6.stay T7 (Or.inl (Nat.ne_of_gt hlt)), B'.trans (T7.below (Nat.le_refl _) B'.size)⟩
        rw [pow_two]
        exact eM'.out.mul eM'.out hr
      case measure => simp [intOf]; omega
/-! ### the powers of the root of unity -/
/-- The powers by squares, as words. -/
def Pows (P : Nat → List Int) (k : Nat) : Prop := ∀ i, i < k → El (P i) (gI ^ 2 ^ i)
/-- An array of elements that lies in memory. -/
def Arr (w : World) (b n : Nat) (P : Nat → List Int) : Prop := ∀ i, i < n → At w b (i * 4) (P i)
theorem Arr.below {B : Nat} {w w' : World} {b n : Nat} {P : Nat → List Int} (h : Arr w b n P) (hb : Below B w w') (hl : b < B) : Arr w' b n P := fun i hi => (h i hi).below hb hl
theorem Arr.more {w w' : World} {b n : Nat} {P : Nat → List Int} (h : Arr w b n P) (hb : Below w.heap.size w w') : Arr w' b n P := fun i hi => (h i hi).more hb
theorem Arr.stay {w w' : World} {b n b2 o2 : Nat} {P : Nat → List Int} (h : Arr w b n P) (hT : Eng.Touch w b2 o2 4 w') (hne : b ≠ b2) : Arr w' b n P := fun i hi => (h i hi).stay hT (Or.inl hne)
theorem Arr.set {w w' : World} {b n k : Nat} {P : Nat → List Int} {r : List Int} (h : Arr w b n P) (hT : Eng.Touch w b (k * 4) 4 w') (hr : At w' b (k * 4) r) : Arr w' b n (fun i => if i = k then r else P i) := fun i hi => by
  by_cases hik : i = k
  · subst hik
    simp only [if_pos]
    exact hr
  · simp only [if_neg hik]
    exact (h i hi).stay hT (Or.inr (by
      rcases Nat.lt_or_gt_of_ne hik with h | h
      · left
        have := Nat.mul_le_mul_right 4 (Nat.succ_le_of_lt h)
        omega
      · right
        have := Nat.mul_le_mul_right 4 (Nat.succ_le_of_lt h)
        omega))
theorem NewB.arr {w w1 : World} {n k : Nat} (h : NewB w w1 n) (hk : k * 4 ≤ n) : Arr w1 w.heap.size k (fun _ => List.replicate 4 0) := fun i hi => h.at (i * 4) (by
  have := Nat.mul_le_mul_right 4 (Nat.succ_le_of_lt hi)
  omega)
/-- All words in a row. -/
def flatW (P : Nat → List Int) : Nat → List Value
  | 0 => []
  | k + 1 => flatW P k ++ (P k).map (.int .u64)
theorem flatW_len {P : Nat → List Int} : ∀ {k : Nat}, (∀ i, i < k → (P i).length = 4) → (flatW P k).length = k * 4
  | 0, _ => by simp [flatW]
  | k + 1, h => by
    rw [flatW, List.length_append, flatW_len fun i hi => h i (by omega), List.length_map, h k (by omega)]
    omega
theorem flatW_at {P : Nat → List Int} : ∀ {k : Nat}, (∀ i, i < k → (P i).length = 4) → ∀ i j, i < k → j < 4 → (flatW P k)[i * 4 + j]? = some (.int .u64 ((P i).getD j 0))
  | 0, _, i, _, hi, _ => absurd hi (by omega)
  | k + 1, h, i, j, hi, hj => by
    have hl := flatW_len (P := P) (k := k) fun i hi => h i (by omega)
    rw [flatW]
    by_cases hik : i = k
    · subst hik
      rw [List.getElem?_append_right (by omega), hl, Nat.add_sub_cancel_left, List.getElem?_map, List.getD_eq_getElem?_getD, List.getElem?_eq_getElem (by rw [h i (by omega)]; exact hj)]
      rfl
    · have := Nat.mul_le_mul_right 4 (show i + 1 ≤ k by omega)
      rw [List.getElem?_append_left (by omega)]
      exact flatW_at (fun i hi => h i (by omega)) i j (by omega) hj
theorem Arr.range {w : World} {b n : Nat} {P : Nat → List Int} (h : Arr w b n P) (hl : ∀ i, i < n → (P i).length = 4) : w.rangeAt b 0 (flatW P n) := fun m v hv => by
  have hm : m < n * 4 := by
    have := (List.getElem?_eq_some_iff.1 hv).1
    rwa [flatW_len hl] at this
  have hi : m / 4 < n := by omega
  have e := flatW_at hl (m / 4) (m % 4) hi (by omega)
  rw [show m / 4 * 4 + m % 4 = m by omega] at e
  have := (h (m / 4) hi).1 (m % 4) (by omega)
  rw [Nat.zero_add, ← hv, e]
  rwa [show m / 4 * 4 + m % 4 = m by omega] at this
theorem Arr.there {w : World} {b n : Nat} {P : Nat → List Int} (h : Arr w b n P) : w.there b 0 (n * 4) := fun m hm => by
  have hi : m / 4 < n := by omega
  have c := (h (m / 4) hi).1 (m % 4) (by omega)
  have f := (h (m / 4) hi).2 (m % 4) (by omega)
  rw [show m / 4 * 4 + m % 4 = m by omega] at c f
  rw [Nat.zero_add]
  exact ⟨by rw [c]; rfl, f⟩
theorem flatW_one {P : Nat → List Int} {n : Nat} : ∀ v ∈ flatW P n, v.oneCell' = true := by
  induction n with
  | zero => intro v hv; cases hv
  | succ n ih =>
    intro v hv
    rw [flatW, List.mem_append] at hv
    rcases hv with hv | hv
    · exact ih v hv
    · obtain ⟨x, _, rfl⟩ := List.mem_map.1 hv
      rfl
theorem touch_flat {w : World} {b n : Nat} {vs : List Value} (hl : vs.length = n) : Eng.Touch w b 0 n (w.setCells b 0 vs) := touch_setCells vs 0 w (Nat.le_refl _) (by omega) (Kept.refl _ _)
theorem Arr.put {w : World} {b n : Nat} {P Q : Nat → List Int} (h : Arr w b n P) (hl : ∀ i, i < n → (Q i).length = 4) : Arr (w.setCells b 0 (flatW Q n)) b n Q := fun i hi => by
  have hT := touch_flat (w := w) (b := b) (flatW_len hl)
  refine ⟨fun j hj => ?_, fun j hj => by rw [hT.frozen _ _ (h i hi).lt]; exact (h i hi).2 j hj⟩
  have hm : i * 4 + j < (flatW Q n).length := by
    rw [flatW_len hl]
    have := Nat.mul_le_mul_right 4 (Nat.succ_le_of_lt hi)
    omega
  have := World.cell?_setCells_in b (flatW Q n) 0 w (fun m hm => by
    rw [flatW_len hl] at hm
    exact (h.there m hm).1) (i * 4 + j) hm
  rw [Nat.zero_add] at this
  rw [this]
  have e := flatW_at hl i j hi hj
  rw [List.getElem?_eq_getElem hm] at e
  exact e
theorem results_cell {fn : Func} {p : Tmp} {ty : TypeId} (h : fn.results = #[.cell p ty]) (tmps : Array Value) (P : Program) (w : World) :
    (results fn tmps).run P w = ((asAddr (tmps.getD p undef)).run P w).andThen fun a w₁ => (loadVar ty a).run P w₁ := by
  simp only [results, h]
  simp [Sem.run_bind, Result.andThen]
/-- What the function hands back, an array. -/
theorem ret_flat {fn : Func} {p : Tmp} {R : Ending → World → Prop} {a : Act} {w : World} {b : Nat} {P : Nat → List Int} (h : fn.results = #[.cell p 46]) (hp : a.tmps.getD p undef = .pointer (some ⟨b, 0, none⟩)) (hl : ∀ i, i < 28 → (P i).length = 4)
    (hA : Arr w b 28 P) (hf : a.defers = []) (hR : R (.returned (.agg (flatW P 28).toArray)) w) : bodyPost Tryd.prog fn R .ret a w := by
  refine bodyPost_ret (v := .agg (flatW P 28).toArray) ?_ hf hR
  have e := run_loadVar_mid (P := Tryd.prog) w b 0 46 (flatW P 28) _ (hA.range hl) Tryd.underlying46 rfl (by rw [flatW_len hl]; kernel_rfl)
  rw [results_cell h, hp]
  show ((loadVar 46 ⟨b, 0, none⟩).run Tryd.prog w) = _
  rw [e]
theorem wpLoadP {ops : Array Oper} {rest : List Oper} {op : Oper} {a : Act} {w : World} {Q : Exit → Act → World → Prop} (hgd : op.guard = none) (x : Operand) (ho : op.op = .load 46 x) {b : Nat} {P : Nat → List Int} (hx : a.eval x = .pointer (some ⟨b, 0, none⟩)) (hl : ∀ i, i < 28 → (P i).length = 4) (hA : Arr w b 28 P)
    (h : wpList Tryd.prog ops Q rest (a.put op.dst (.agg (flatW P 28).toArray)) w) : wpList Tryd.prog ops Q (op :: rest) a w :=
  wpList_load_mid hgd 46 x ho b 0 hx (flatW P 28) _ (hA.range hl) Tryd.underlying46 rfl (by rw [flatW_len hl]; kernel_rfl) h
theorem wpStoreP {ops : Array Oper} {rest : List Oper} {op : Oper} {a : Act} {w : World} {Q : Exit → Act → World → Prop} (hgd : op.guard = none) (x y : Operand) (ho : op.op = .store 46 x y) {b : Nat} {P P0 : Nat → List Int} (hx : a.eval x = .pointer (some ⟨b, 0, none⟩)) (hy : a.eval y = .agg (flatW P 28).toArray) (hl : ∀ i, i < 28 → (P i).length = 4) (hA : Arr w b 28 P0)
    (h : wpList Tryd.prog ops Q rest (a.put op.dst undef) (w.setCells b 0 (flatW P 28))) : wpList Tryd.prog ops Q (op :: rest) a w :=
  wpList_store_mid hgd 46 x y ho b 0 (flatW P 28).toArray hx hy (by rw [List.size_toArray, flatW_len hl]; exact hA.there) (by rw [List.size_toArray, flatW_len hl]; kernel_rfl) (all_oneCell_toArray flatW_one) h
set_option maxHeartbeats 800000 in
theorem pows_call {w : World} (hg : Cells w 1 0 4 gW) :
    Calls Tryd.prog 34 #[] w fun e w' => (∃ P, Pows P 28 ∧ e = .returned (.agg (flatW P 28).toArray)) ∧ Below w.heap.size w w' := by
  have hgl := cells_lt (by decide) hg
  have hg' := Lib.hid hg
  clear hg
  go_enter Tryd.func34, Tryd.ntmps34
  go_upto_region 2 with (first
    | (have hx := n1; refine wpNewP rfl rfl ?_; rintro w2 n2)
    | (refine wpNewP rfl rfl ?_; rintro w1 n1))
  have s1 := n1.size
  have s2 := n2.size
  have B2 : Below w.heap.size w w2 := n1.below.trans (n2.below.mono (by omega))
  have a1 : Arr w2 w.heap.size 28 (fun _ => List.replicate 4 0) := (n1.arr (by decide)).more n2.below
  have a2 : Arr w2 w1.heap.size 28 (fun _ => List.replicate 4 0) := n2.arr (by decide)
  have hlt : w.heap.size < w1.heap.size := by omega
  clear n1 n2 hx s1 s2
  generalize w1.heap.size = b2 at *
  have hrg : w2.rangeAt 1 0 [Value.int IntKind.u64 7164790868263648668, Value.int IntKind.u64 11685701338293206998, Value.int IntKind.u64 6216421865291908056, Value.int IntKind.u64 1756667274303109607] := range_of (r := gW) rfl (cells_below B2 hgl hg'.out)
  have h0 := a2 0 (by decide)
  have hth : w2.there b2 0 4 := fun j hj => ⟨by rw [h0.1 j hj]; rfl, h0.2 j hj⟩
  have T3 : Eng.Touch w2 b2 0 4 (w2.setCells b2 0 [Value.int IntKind.u64 7164790868263648668, Value.int IntKind.u64 11685701338293206998, Value.int IntKind.u64 6216421865291908056, Value.int IntKind.u64 1756667274303109607]) := touch_setCells [Value.int IntKind.u64 7164790868263648668, Value.int IntKind.u64 11685701338293206998, Value.int IntKind.u64 6216421865291908056, Value.int IntKind.u64 1756667274303109607] 0 w2 (Nat.le_refl _) (by simp) (Kept.refl _ _)
  have c3 : Cells (w2.setCells b2 0 [Value.int IntKind.u64 7164790868263648668, Value.int IntKind.u64 11685701338293206998, Value.int IntKind.u64 6216421865291908056, Value.int IntKind.u64 1756667274303109607]) b2 0 4 gW := setCells_cells (r := gW) rfl h0.1
  have A3 := Lib.hid (a2.set (k := 0) T3 (h0.new T3 c3))
  have R3 := Lib.hid (a1.stay T3 (Nat.ne_of_lt hlt))
  have B3 := Lib.hid (B2.trans (T3.below (Nat.le_of_lt hlt) B2.size))
  clear T3 c3 h0 a1 a2 B2
  go_upto_region 3 with (first
    | (refine wpList_load_mid rfl 33 (.global 1) rfl 1 0 rfl [Value.int IntKind.u64 7164790868263648668, Value.int IntKind.u64 11685701338293206998, Value.int IntKind.u64 6216421865291908056, Value.int IntKind.u64 1756667274303109607] _ hrg Tryd.underlying33 rfl (by kernel_rfl) ?_)
    | (refine wpList_store_mid rfl 33 (.tmp 4) (.tmp 3) rfl b2 0 #[Value.int IntKind.u64 7164790868263648668, Value.int IntKind.u64 11685701338293206998, Value.int IntKind.u64 6216421865291908056, Value.int IntKind.u64 1756667274303109607] rfl rfl hth (by kernel_rfl) (by simp [Value.oneCell']) ?_))
  go_wp2
  generalize w2.setCells b2 0 [Value.int IntKind.u64 7164790868263648668, Value.int IntKind.u64 11685701338293206998, Value.int IntKind.u64 6216421865291908056, Value.int IntKind.u64 1756667274303109607] = w3 at *
  have hst : ∃ P, Pows P 1 ∧ P 0 = gW ∧ (∀ i, i < 28 → 1 ≤ i → P i = List.replicate 4 0) ∧ Arr w3 b2 28 P :=
    ⟨_, fun i hi => by
      obtain rfl : i = 0 := by omega
      simp only [if_pos]
      rw [Nat.pow_zero, Int.pow_succ, Int.pow_zero, Int.one_mul]
      exact el_g, by simp only [if_pos], fun i _ h1 => by rw [if_neg (by omega)], A3.out⟩
  go_loopw [2] (fun i wr => ∃ k : Nat, 1 ≤ k ∧ k ≤ 28 ∧ i = .int .i64 (k : Int) ∧ (∃ P, Pows P k ∧ P 0 = gW ∧ (∀ i, i < 28 → k ≤ i → P i = List.replicate 4 0) ∧ Arr wr b2 28 P) ∧ Arr wr w.heap.size 28 (fun _ => List.replicate 4 0) ∧ Below w.heap.size w wr) (fun i _ => 28 - (intOf i).toNat)
  case atStart => exact ⟨1, Nat.le_refl _, by decide, rfl, hst, R3.out, B3.out⟩
  case round =>
    clear hst
    obtain ⟨k, hk1, hk, rfl, ⟨P, hP, hP0, hPz, hA⟩, hR, hB⟩ := hrel
    have hP' := Lib.hid hP
    have hPz' := Lib.hid hPz
    have hA' := Lib.hid hA
    have hR' := Lib.hid hR
    clear hP hPz hA hR hg'
    by_cases hkN : k < 28
    · have hki : (k : Int) < 28 := by omega
      have h1 : (1 : Int) ≤ k := by omega
      have h3 : (k : Int) - 1 < 28 := by omega
      have h2 : (k : Int) < 28 + 1 := by omega
      have hw : IntKind.i64.wrap ((k : Int) - 1) = (k : Int) - 1 := by
        simp only [IntKind.wrap_i64]
        omega
      have hm0 := hA'.out (k - 1) (by omega)
      have hm1 := hA'.out k hkN
      have hE := Lib.hid (hP'.out (k - 1) (by omega))
      rw [hPz'.out k hkN (Nat.le_refl _)] at hm1
      clear hrg hth A3 R3 B3
      have hP0' := Lib.hid hP0
      clear hP0
      go_upto_region 6 with fail
      go_region_with (go_at_call 24; refine (sqE_at zeros_ln hE.out.1 zeros_wd hE.out.2.1 hE.out.2.2.1 (oz := k * 4) (oY := (k - 1) * 4) ?_ ?_ (Or.inr (Or.inl (by omega)))).mono ?_; exact hm1; exact hm0.1; rintro e w4 ⟨r, hr, rfl, hc4, hT4⟩)
      have hAd : Arr wr.drew b2 28 P := fun i hi => hA'.out i hi
      have hRd : Arr wr.drew w.heap.size 28 (fun _ => List.replicate 4 0) := fun i hi => hR'.out i hi
      go_wp2
      go_roundw
      case rel =>
        refine ⟨k + 1, by omega, by omega, by go_num, ⟨_, fun i hi => ?_, ?_, fun i hi h1 => ?_, hAd.set hT4 hc4⟩, hRd.stay hT4 (Nat.ne_of_lt hlt), hB.drew.trans (hT4.below (Nat.le_of_lt hlt) hB.size)⟩
        · by_cases hik : i = k
          · subst hik
            simp only [if_pos]
            have := hE.out.mul hE.out hr
            rwa [← pow_two, show i - 1 + 1 = i by omega] at this
          · simp only [if_neg hik]
            exact hP'.out i (by omega)
        · rw [if_neg (by omega)]
          exact hP0'.out
        · rw [if_neg (by omega)]
          exact hPz'.out i hi (by omega)
      case measure => simp [intOf]; omega
    · have hki : ¬ (k : Int) < 28 := by omega
      obtain rfl : k = 28 := by omega
      have hl : ∀ i, i < 28 → (P i).length = 4 := fun i hi => (hP'.out i hi).1
      have hl' := Lib.hid hl
      clear hl
      go_wp2_with (first
        | (refine wpLoadP rfl (.tmp 1) rfl (b := b2) (P := P) rfl hl'.out hA'.out ?_)
        | (refine wpStoreP rfl (.tmp 0) (.tmp 15) rfl (b := w.heap.size) (P := P) rfl rfl hl'.out hR'.out ?_))
      exact ret_flat rfl rfl hl'.out (hR'.out.put hl'.out) rfl ⟨⟨P, hP'.out, rfl⟩, hB.trans ((touch_flat (flatW_len hl'.out)).below (Nat.le_refl _) hB.size)⟩
end Go.Proofs.YtajhellohcibiaaDoor
