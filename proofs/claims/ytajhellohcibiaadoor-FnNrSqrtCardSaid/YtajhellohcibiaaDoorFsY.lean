/-
  The root by tables, walked by hand, its calls by their contracts. No conditions.
-/
import Derived.Test.YtajhellohcibiaaDoorFsX
namespace Go.Proofs.YtajhellohcibiaaDoor
open Go Eng Go.RowKit
set_option maxRecDepth 100000
/-! ### the root by tables -/
def SkR (x : Int) (bz : Nat) (w : World) (e : Ending) (w' : World) : Prop :=
  ((vw prime ∣ x ∨ Cg (x ^ 10944121435919637611123202872628637544274182200208017171849102093287904247808) 1) ∧ (∃ R y, El R y ∧ Cg (y * y) x ∧ At w' bz 0 R) ∧ e = .returned (.pointer (some ⟨bz, 0, none⟩)) ∧ Eng.Touch w bz 0 4 w') ∨
  (¬ (vw prime ∣ x ∨ Cg (x ^ 10944121435919637611123202872628637544274182200208017171849102093287904247808) 1) ∧ e = .returned (.pointer none) ∧ Below w.heap.size w w')
theorem el_zeros {x : Int} (h : vw prime ∣ x) : El (List.replicate 4 0) x ∧ Cg (x * x) x := by
  refine ⟨⟨by simp, wds_zeros _, by rw [vw_zeros]; exact q_pos, ?_⟩, ?_⟩
  · unfold Rep
    rw [vw_zeros, Int.zero_sub]
    exact Int.dvd_neg.2 (Int.dvd_mul_of_dvd_left h)
  · exact Int.dvd_sub (Int.dvd_mul_of_dvd_left h) h
/-- The number to the odd part of the prime less one. -/
def xmOf (x : Int) : Int := x ^ 40770029410420498293352137776570907027550720424234931066070132305055 * x ^ 40770029410420498293352137776570907027550720424234931066070132305055 * x
theorem pw3 (x : Int) (k : Nat) : x ^ k * x ^ k * x = x ^ (k + k + 1) := by rw [Int.pow_succ, Int.pow_add]
theorem xm_top (x : Int) : xmOf x ^ 2 ^ 27 = x ^ 10944121435919637611123202872628637544274182200208017171849102093287904247808 := by
  exact ((congrArg (· ^ 2 ^ 27) (pw3 x 40770029410420498293352137776570907027550720424234931066070132305055)).trans Int.pow_mul.symm).trans (congrArg (x ^ ·) (by decide +kernel : (40770029410420498293352137776570907027550720424234931066070132305055 + 40770029410420498293352137776570907027550720424234931066070132305055 + 1) * 2 ^ 27 = 10944121435919637611123202872628637544274182200208017171849102093287904247808))
theorem xm_zero {x : Int} (h : vw prime ∣ x ^ 10944121435919637611123202872628637544274182200208017171849102093287904247808) : vw prime ∣ x := q_pow h
theorem infoQ : (Tryd.prog.info? 47).map (fun i => (i.zero, i.size, i.bytes)) = some (some (.agg (Array.replicate 20 (.int .u64 0))), 20, 160) := by kernel_rfl
theorem wpNewQ {ops : Array Oper} {rest : List Oper} {op : Oper} {a : Act} {w : World} {Q : Exit → Act → World → Prop} (hgd : op.guard = none) (ho : op.op = .alloc 47)
    (h : ∀ w1, NewB w w1 20 → wpList Tryd.prog ops Q rest (a.put op.dst (.pointer (some ⟨w.heap.size, 0, none⟩))) w1) : wpList Tryd.prog ops Q (op :: rest) a w := by
  obtain ⟨i0, hi, hz, _, _⟩ := info_parts infoQ
  exact wpList_new hgd 47 ho 20 hi hz rfl h
theorem wpLoadE {ops : Array Oper} {rest : List Oper} {op : Oper} {a : Act} {w : World} {Q : Exit → Act → World → Prop} (hgd : op.guard = none) (x : Operand) (ho : op.op = .load 33 x) {b o : Nat} {xs : List Int} (hx : a.eval x = .pointer (some ⟨b, o, none⟩)) (lx : xs.length = 4) (hc : Cells w b o 4 xs)
    (h : wpList Tryd.prog ops Q rest (a.put op.dst (.agg (xs.map (Value.int .u64)).toArray)) w) : wpList Tryd.prog ops Q (op :: rest) a w :=
  wpList_load_mid hgd 33 x ho b o hx (xs.map (Value.int .u64)) _ (range_of lx hc) Tryd.underlying33 rfl (by rw [List.length_map, lx]; kernel_rfl) h
theorem wpStoreE {ops : Array Oper} {rest : List Oper} {op : Oper} {a : Act} {w : World} {Q : Exit → Act → World → Prop} (hgd : op.guard = none) (x y : Operand) (ho : op.op = .store 33 x y) {b o : Nat} {xs zs : List Int} (hx : a.eval x = .pointer (some ⟨b, o, none⟩)) (hy : a.eval y = .agg (xs.map (Value.int .u64)).toArray) (lx : xs.length = 4) (hA : At w b o zs)
    (h : ∀ w', At w' b o xs → Eng.Touch w b o 4 w' → wpList Tryd.prog ops Q rest (a.put op.dst undef) w') : wpList Tryd.prog ops Q (op :: rest) a w := by
  have hT : Eng.Touch w b o 4 (w.setCells b o (xs.map (Value.int .u64))) := touch_setCells _ o w (Nat.le_refl _) (by rw [List.length_map, lx]; exact Nat.le_refl _) (Kept.refl _ _)
  refine wpList_store_mid hgd 33 x y ho b o (xs.map (Value.int .u64)).toArray hx hy ?_ (by rw [List.size_toArray, List.length_map, lx]; kernel_rfl) (all_oneCell_toArray fun v hv => by
    obtain ⟨x, _, rfl⟩ := List.mem_map.1 hv
    rfl) (h _ (hA.new hT fun j hj => ?_) hT)
  · rw [List.size_toArray, List.length_map, lx]
    exact fun j hj => ⟨by rw [hA.1 j hj]; rfl, hA.2 j hj⟩
  · have hjl : j < (xs.map (Value.int .u64)).length := by rw [List.length_map, lx]; exact hj
    rw [World.cell?_setCells_in b (xs.map (Value.int .u64)) o w (fun i hi => by
      have hi : i < 4 := by simpa [lx] using hi
      rw [hA.1 i hi]; rfl) j hjl, List.getElem_map, List.getD_eq_getElem?_getD, List.getElem?_eq_getElem (by omega)]
    rfl
def PowsB (g : Int) (P : Nat → List Int) (k : Nat) : Prop := ∀ i, i < k → El (P i) (g ^ 2 ^ i)
/-- The table's sums. -/
def SLn : List Nat := [5, 5, 5, 6, 6]
def Sp (k : Nat) : Nat := (SLn.take k).sum
theorem tab_ok {k : Nat} (hk : k < 5) : ∃ l : Nat, ([5, 5, 5, 6, 6] : List Int).getD k 0 = (l : Int) ∧ Sp (k + 1) = Sp k + l ∧ 1 ≤ l ∧ Sp (k + 1) ≤ 27 := by
  match k, hk with
  | 0, _ | 1, _ | 2, _ | 3, _ | 4, _ => exact ⟨_, rfl, rfl, by decide, by decide⟩
/-- What the main loop keeps. -/
def Dm (x : Int) (k s t : Nat) : Prop := s + t < 2 ^ (28 + 1) ∧ 2 ^ (28 - Sp k) ∣ s + t ∧ Cg (xmOf x ^ 2 ^ (27 - Sp k) * gI ^ (s + t)) 1
theorem div_lt {T l : Nat} (hl : 1 ≤ l) (h : T < 2 ^ (28 + 1)) : T / 2 ^ l < 2 ^ 28 := by
  refine Nat.div_lt_of_lt_mul (Nat.lt_of_lt_of_le h ?_)
  rw [← Nat.pow_add]
  exact Nat.pow_le_pow_right (by decide) (by omega)
theorem two_lt {a b : Nat} (h1 : a < 2 ^ 28) (h2 : b < 2 ^ 28) : a + b < 2 ^ (28 + 1) := by
  rw [Nat.pow_succ]
  generalize (2 : Nat) ^ 28 = p at *
  omega
theorem sp_end : Sp 5 = 27 := rfl
theorem root_sq {x : Int} {T : Nat} (h2 : 2 ^ (28 - Sp 5) ∣ T) (h3 : Cg (xmOf x ^ 2 ^ (27 - Sp 5) * gI ^ T) 1) : Cg (x * x ^ 40770029410420498293352137776570907027550720424234931066070132305055 * gI ^ (T / 2 ^ 1) * (x * x ^ 40770029410420498293352137776570907027550720424234931066070132305055 * gI ^ (T / 2 ^ 1))) x := by
  rw [sp_end] at h2 h3
  have hT : T / 2 ^ 1 + T / 2 ^ 1 = T := by omega
  rw [Nat.sub_self, Nat.pow_zero, Int.pow_succ, Int.pow_zero, Int.one_mul] at h3
  have e2 : gI ^ T = gI ^ (T / 2 ^ 1) * gI ^ (T / 2 ^ 1) := by rw [← Int.pow_add, hT]
  rw [e2] at h3
  unfold xmOf at h3
  generalize gI ^ (T / 2 ^ 1) = g at *
  generalize x ^ 40770029410420498293352137776570907027550720424234931066070132305055 = v at *
  have e3 : x * v * g * (x * v * g) = x * (v * v * x * (g * g)) := by ac_rfl
  rw [e3]
  have := (Cg.refl x).mul h3
  rwa [Int.mul_one] at this
set_option maxHeartbeats 4000000 in
theorem sarkar_call {bz bx : Nat} {Z : List Int} {x0 x1 x2 x3 x : Int} {w : World} (lZ : Z.length = 4) (wZ : Wds Z) (aZ : At w bz 0 Z) (eX : El [x0, x1, x2, x3] x) (cX : Cells w bx 0 4 [x0, x1, x2, x3]) (hxz : bx ≠ bz) (hg : Cells w 1 0 4 gW) (hL : ∀ i, i < 5 → w.cell? ⟨0, i, none⟩ = some (.int .u64 ([5, 5, 5, 6, 6].getD i 0))) :
    Calls Tryd.prog 19 #[.pointer (some ⟨bz, 0, none⟩), .pointer (some ⟨bx, 0, none⟩)] w fun e w' => SkR x bz w e w' := by
  have hbz := aZ.lt
  have hbx := cells_lt (by decide) cX
  have hgl := cells_lt (by decide) hg
  have hGl : 0 < w.heap.size := World.block_lt_of_cell? w _ (hL 0 (by decide))
  have aZ' := Lib.hid aZ
  have eX' := Lib.hid eX
  have cX' := Lib.hid cX
  have hg' := Lib.hid hg
  have hL' := Lib.hid hL
  clear aZ eX cX hg hL
  by_cases hx0 : vw [x0, x1, x2, x3] = 0
  · have hd := Lib.hid ((el_zero eX'.out).1 hx0)
    go_enter Tryd.func19, Tryd.ntmps19
    go_wp2_with (first
      | (go_at_call 21; refine (isZero_call eX'.out.1 eX'.out.2.1 cX'.out).mono ?_; rw [decide_eq_true hx0]; rintro e w1 ⟨rfl, B1⟩; have a1 := aZ'.out.more B1)
      | (go_at_call 22; refine (setZero_call lZ wZ a1).mono ?_; rintro e w2 ⟨rfl, a2, T2⟩))
    go_ret
    exact Or.inl ⟨Or.inl hd.out, ⟨_, x, (el_zeros hd.out).1, (el_zeros hd.out).2, a2⟩, rfl, Touch.trans (touch_of_below B1) T2⟩
  · have hnd := Lib.hid (fun h => hx0 ((el_zero eX'.out).2 h))
    have hx0' := Lib.hid (And.intro hx0 trivial)
    go_enter Tryd.func19, Tryd.ntmps19
    go_upto_region 4 with (first
      | (go_at_call 21; refine (isZero_call eX'.out.1 eX'.out.2.1 cX'.out).mono ?_; rw [decide_eq_false hx0]; rintro e w1 ⟨rfl, B1⟩)
      | (refine wpNewE rfl rfl ?_; rintro w2 n2))
    have h1 : w.heap.size ≤ w1.heap.size := B1.size
    have B2 := B1.trans (n2.below.mono h1)
    have a2 := n2.at 0 (by decide)
    have hrg : w2.rangeAt bx 0 [Value.int IntKind.u64 x0, Value.int IntKind.u64 x1, Value.int IntKind.u64 x2, Value.int IntKind.u64 x3] := range_of (r := [x0, x1, x2, x3]) rfl (cells_below B2 hbx cX'.out)
    clear n2 B1
    generalize w1.heap.size = bv at *
    go_upto_region 5 with (first
      | (refine wpList_load_mid rfl 33 (.tmp 25) rfl bx 0 rfl [Value.int IntKind.u64 x0, Value.int IntKind.u64 x1, Value.int IntKind.u64 x2, Value.int IntKind.u64 x3] _ hrg Tryd.underlying33 rfl (by kernel_rfl) ?_)
      | (go_at_call 23; refine (exp_call (xs := [x0, x1, x2, x3]) zeros_ln rfl zeros_wd eX'.out.2.1 eX'.out.2.2.1 a2.1 a2.2).mono ?_; rintro e w3 ⟨V, hV, rfl, cV, T3⟩))
    have eV := Lib.hid (el_pow (by decide) eX'.out hV)
    have aV := Lib.hid (a2.new T3 cV)
    have B3 := Lib.hid (B2.trans (T3.below h1 B2.size))
    clear hV cV T3 a2 B2 hrg
    go_upto_region 6 with (refine wpNewE rfl rfl ?_; rintro w4 n4)
    have h4 : bv < w3.heap.size := aV.out.lt
    have aV4 := Lib.hid (aV.out.more n4.below)
    have B4 := Lib.hid (B3.out.trans (n4.below.mono B3.out.size))
    have a4 := n4.at 0 (by decide)
    clear n4 aV B3
    generalize w3.heap.size = bm at *
    go_upto_region 7 with (go_at_call 24; refine (sqE_at zeros_ln eV.out.1 zeros_wd eV.out.2.1 eV.out.2.2.1 a4 aV4.out.1 (Or.inl (Nat.ne_of_lt h4))).mono ?_; rintro e w5 ⟨M, hM, rfl, aM, T5⟩)
    have aV5 := Lib.hid (aV4.out.stay T5 (Or.inl (Nat.ne_of_lt h4)))
    have hbm : w.heap.size ≤ bm := by omega
    have B5 := Lib.hid (B4.out.trans (T5.below hbm B4.out.size))
    have eM := Lib.hid (eV.out.mul eV.out hM)
    have hbxm : bx ≠ bm := by omega
    clear T5 hM aV4 B4 a4
    go_upto_region 8 with (go_at_call 25; refine (mulZ_call eM.out.1 eX'.out.1 eM.out.2.1 eX'.out.2.1 eX'.out.2.2.1 aM (cells_below B5.out hbx cX'.out) (Or.inl hbxm)).mono ?_; rintro e w6 ⟨XM, hXM, rfl, aXM, T6⟩)
    have aV6 := Lib.hid (aV5.out.stay T6 (Or.inl (Nat.ne_of_lt h4)))
    have B6 := Lib.hid (B5.out.trans (T6.below hbm B5.out.size))
    have eXM : Hid (El XM (xmOf x)) := Lib.hid (eM.out.mul eX'.out hXM)
    have aXM' := Lib.hid aXM
    clear T6 hXM aV5 B5 aM eM aXM
    obtain ⟨m0, m1, m2, m3, rfl⟩ := lenX eXM.out.1
    have hrg : w6.rangeAt bm 0 [Value.int IntKind.u64 m0, Value.int IntKind.u64 m1, Value.int IntKind.u64 m2, Value.int IntKind.u64 m3] := range_of (r := [m0, m1, m2, m3]) rfl aXM'.out.1
    go_upto_region 9 with (first
      | (refine wpList_load_mid rfl 33 (.tmp 6) rfl bm 0 rfl [Value.int IntKind.u64 m0, Value.int IntKind.u64 m1, Value.int IntKind.u64 m2, Value.int IntKind.u64 m3] _ hrg Tryd.underlying33 rfl (by kernel_rfl) ?_)
      | (refine wpNewE rfl rfl ?_; rintro w7 n7; have a7 := n7.at 0 (by decide); have hth : w7.there w6.heap.size 0 4 := fun j hj => ⟨by rw [a7.1 j hj]; rfl, a7.2 j hj⟩)
      | (refine wpList_store_mid rfl 33 (.tmp 7) (.tmp 31) rfl w6.heap.size 0 #[Value.int IntKind.u64 m0, Value.int IntKind.u64 m1, Value.int IntKind.u64 m2, Value.int IntKind.u64 m3] rfl rfl hth (by kernel_rfl) (by simp [Value.oneCell']) ?_))
    have T7 : Eng.Touch w7 w6.heap.size 0 4 (w7.setCells w6.heap.size 0 [Value.int IntKind.u64 m0, Value.int IntKind.u64 m1, Value.int IntKind.u64 m2, Value.int IntKind.u64 m3]) := touch_setCells [Value.int IntKind.u64 m0, Value.int IntKind.u64 m1, Value.int IntKind.u64 m2, Value.int IntKind.u64 m3] 0 w7 (Nat.le_refl _) (by simp) (Kept.refl _ _)
    have aT := a7.new T7 (setCells_cells (r := [m0, m1, m2, m3]) rfl a7.1)
    have hbt : bm < w6.heap.size := aXM'.out.lt
    have aV7 := (aV6.out.more n7.below).stay T7 (Or.inl (by omega))
    have aM7 := (aXM'.out.more n7.below).stay T7 (Or.inl (by omega))
    have B7 := (B6.out.trans (n7.below.mono B6.out.size)).trans (T7.below B6.out.size (B6.out.trans (n7.below.mono B6.out.size)).size)
    have hst : ∃ T, El T (xmOf x ^ 2 ^ 0) ∧ At (w7.setCells w6.heap.size 0 [Value.int IntKind.u64 m0, Value.int IntKind.u64 m1, Value.int IntKind.u64 m2, Value.int IntKind.u64 m3]) w6.heap.size 0 T := ⟨_, by rw [Nat.pow_zero, Int.pow_succ, Int.pow_zero, Int.one_mul]; exact eXM.out, aT⟩
    clear n7 T7 a7 hth hrg aT aV6 aXM' B6
    generalize w7.setCells w6.heap.size 0 [Value.int IntKind.u64 m0, Value.int IntKind.u64 m1, Value.int IntKind.u64 m2, Value.int IntKind.u64 m3] = w8 at *
    generalize w6.heap.size = bt at *
    go_wp2
    go_loopw [32] (fun i wr => ∃ k : Nat, k ≤ 27 ∧ i = .int .i64 (k : Int) ∧ (∃ T, El T (xmOf x ^ 2 ^ k) ∧ At wr bt 0 T) ∧ At wr bm 0 [m0, m1, m2, m3] ∧ At wr bv 0 V ∧ Below w.heap.size w wr) (fun i _ => 27 - (intOf i).toNat)
    case atStart => exact ⟨0, by decide, rfl, hst, aM7, aV7, B7⟩
    case round =>
      clear hst aM7 aV7 B7
      obtain ⟨k, hk, rfl, ⟨T, eT, aT⟩, aM, aV, B⟩ := hrel
      have eT' := Lib.hid eT
      have aM' := Lib.hid aM
      have aV' := Lib.hid aV
      have B' := Lib.hid B
      clear eT aM aV B
      by_cases hkN : k < 27
      · have hki : (k : Int) < 27 := by omega
        go_wp2_with (go_at_call 24; refine (sqZ_call eT'.out.1 eT'.out.2.1 eT'.out.2.2.1 aT).mono ?_; rintro e w9 ⟨r, hr, rfl, a9, T9⟩)
        go_roundw
        case rel =>
          refine ⟨k + 1, by omega, by go_num, ⟨r, by rw [pow_two]; exact eT'.out.mul eT'.out hr, a9⟩, aM'.out.stay T9 (Or.inl (Nat.ne_of_lt hbt)), aV'.out.stay T9 (Or.inl (by omega)), B'.out.trans (T9.below (by omega) B'.out.size)⟩
        case measure => simp [intOf]; omega
      · obtain rfl : k = 27 := by omega
        have hnz : vw T ≠ 0 := fun h => hnd.out (xm_zero (by rw [← xm_top]; exact (el_zero eT'.out).1 h))
        by_cases hone : T = one
        · have hc : Hid (Cg (xmOf x ^ 2 ^ 27) 1) := Lib.hid ((eT'.out.eq el_one).1 hone)
          go_upto_region 18 with (first
            | (go_at_call 21; refine (isZero_call eT'.out.1 eT'.out.2.1 aT.1).mono ?_; rw [decide_eq_false hnz]; rintro e w9 ⟨rfl, B9⟩; have aT9 := aT.more B9)
            | (go_at_call 26; refine (isOne_call eT'.out.1 eT'.out.2.1 aT9.1).mono ?_; rw [decide_eq_true hone]; rintro e w10 ⟨rfl, B10⟩)
            | (refine wpNewP rfl rfl ?_; rintro w11 n11))
          have b9 : wr.heap.size ≤ w9.heap.size := B9.size
          have b10 : w9.heap.size ≤ w10.heap.size := B10.size
          have b0 : w.heap.size ≤ wr.heap.size := B'.out.size
          have hbw : bt < wr.heap.size := aT.lt
          have hbp : bt < w10.heap.size := by omega
          have bB : Below wr.heap.size wr w11 := (B9.trans (B10.mono b9)).trans (n11.below.mono (by omega))
          have B11 := Lib.hid (B'.out.trans (bB.mono b0))
          have aM11 := Lib.hid (aM'.out.more bB)
          have aV11 := Lib.hid (aV'.out.more bB)
          have A11 : Hid (Arr w11 w10.heap.size 28 (fun _ => List.replicate 4 0)) := Lib.hid (n11.arr (by decide))
          have hbp0 : w.heap.size ≤ w10.heap.size := by omega
          clear n11 bB B9 B10 b9 b10 b0 hbw aT9 aT aM' aV' B'
          generalize w10.heap.size = bp at *
          go_upto_region 19 with (first
            | (refine wpLoadE rfl (.tmp 6) rfl (b := bm) (o := 0) (xs := [m0, m1, m2, m3]) rfl rfl aM11.out.1 ?_)
            | (refine wpStoreE rfl (.tmp 42) (.tmp 41) rfl (b := bp) (o := 0) (xs := [m0, m1, m2, m3]) rfl rfl rfl (A11.out 0 (by decide)) ?_; rintro w12 a12 T12))
          have A12 := A11.out.set (k := 0) T12 a12
          have hst : ∃ P, PowsB (xmOf x) P 1 ∧ (∀ i, i < 28 → 1 ≤ i → P i = List.replicate 4 0) ∧ Arr w12 bp 28 P :=
            ⟨_, fun i hi => by
              obtain rfl : i = 0 := by omega
              simp only [if_pos]
              rw [Nat.pow_zero, Int.pow_succ, Int.pow_zero, Int.one_mul]
              exact eXM.out, fun i _ h1 => by rw [if_neg (by omega)], A12⟩
          have aV12 := aV11.out.stay T12 (Or.inl (by omega))
          have B12 := B11.out.trans (T12.below hbp0 B11.out.size)
          clear A12 a12 T12 A11 aV11 aM11 B11
          go_wp2
          go_loopw [9] (fun i wr => ∃ k : Nat, 1 ≤ k ∧ k ≤ 28 ∧ i = .int .i64 (k : Int) ∧ (∃ P, PowsB (xmOf x) P k ∧ (∀ i, i < 28 → k ≤ i → P i = List.replicate 4 0) ∧ Arr wr bp 28 P) ∧ At wr bv 0 V ∧ Below w.heap.size w wr) (fun i _ => 28 - (intOf i).toNat)
          case atStart => exact ⟨1, Nat.le_refl _, by decide, rfl, hst, aV12, B12⟩
          case round =>
            clear hst aV12 B12
            obtain ⟨k, hk1, hk, rfl, ⟨P, hP, hPz, hA⟩, aV, B⟩ := hrel
            have hP' := Lib.hid hP
            have hPz' := Lib.hid hPz
            have hA' := Lib.hid hA
            have aV' := Lib.hid aV
            have B' := Lib.hid B
            clear hP hPz hA aV B
            by_cases hkN : k < 28
            · have hki : (k : Int) < 28 := by omega
              have h1 : (1 : Int) ≤ k := by omega
              have h3 : (k : Int) - 1 < 28 := by omega
              have h2 : (k : Int) < 28 + 1 := by omega
              have hw : IntKind.i64.wrap ((k : Int) - 1) = (k : Int) - 1 := by
                simp only [IntKind.wrap_i64]
                omega
              have hm0 := hA'.out (k - 1) (by omega)
              have hm1 := hA'.out k hkN
              have hE := Lib.hid (hP'.out (k - 1) (by omega))
              rw [hPz'.out k hkN (Nat.le_refl _)] at hm1
              go_upto_region 22 with fail
              go_region_with (go_at_call 24; refine (sqE_at zeros_ln hE.out.1 zeros_wd hE.out.2.1 hE.out.2.2.1 (oz := k * 4) (oY := (k - 1) * 4) ?_ ?_ (Or.inr (Or.inl (by omega)))).mono ?_; exact hm1; exact hm0.1; rintro e w13 ⟨r, hr, rfl, hc4, hT4⟩)
              have hAd : Arr wr.drew bp 28 P := fun i hi => hA'.out i hi
              have aVd : At wr.drew bv 0 V := aV'.out
              go_wp2
              go_roundw
              case rel =>
                refine ⟨k + 1, by omega, by omega, by go_num, ⟨_, fun i hi => ?_, fun i hi h1 => ?_, hAd.set hT4 hc4⟩, aVd.stay hT4 (Or.inl (by omega)), B'.out.drew.trans (hT4.below hbp0 B'.out.size)⟩
                · by_cases hik : i = k
                  · subst hik
                    simp only [if_pos]
                    have := hE.out.mul hE.out hr
                    rwa [← pow_two, show i - 1 + 1 = i by omega] at this
                  · simp only [if_neg hik]
                    exact hP'.out i (by omega)
                · rw [if_neg (by omega)]
                  exact hPz'.out i hi (by omega)
              case measure => simp [intOf]; omega
            · have hki : ¬ (k : Int) < 28 := by omega
              obtain rfl : k = 28 := by omega
              clear hPz'
              go_upto_region 24 with (refine wpNewQ rfl rfl ?_; rintro w14 n14)
              have b0 : w.heap.size ≤ wr.heap.size := B'.out.size
              have hpw : bp < wr.heap.size := (hA'.out 0 (by decide)).lt
              have A14 := Lib.hid (hA'.out.more n14.below)
              have aV14 := Lib.hid (aV'.out.more n14.below)
              have B14 := Lib.hid (B'.out.trans (n14.below.mono b0))
              have X14 : Hid (Arr w14 wr.heap.size 5 (fun _ => List.replicate 4 0)) := Lib.hid (n14.arr (by decide))
              clear n14 hA' aV' B'
              generalize wr.heap.size = bq at *
              go_upto_region 25 with fail
              have hst : ∃ X : Nat → List Int, (∀ i, i < 0 → El (X i) (xmOf x ^ 2 ^ (27 - Sp (i + 1)))) ∧ (∀ i, i < 5 → 0 ≤ i → X i = List.replicate 4 0) ∧ Arr w14 bq 5 X := ⟨_, fun i hi => absurd hi (by omega), fun _ _ _ => rfl, X14.out⟩
              clear X14
              go_wp2
              go_loopw [11, 53] (fun v i wr => ∃ k : Nat, k ≤ 5 ∧ i = .int .i64 (k : Int) ∧ v = .int .u64 ((Sp k : Nat) : Int) ∧ (∃ X : Nat → List Int, (∀ i, i < k → El (X i) (xmOf x ^ 2 ^ (27 - Sp (i + 1)))) ∧ (∀ i, i < 5 → k ≤ i → X i = List.replicate 4 0) ∧ Arr wr bq 5 X) ∧ Arr wr bp 28 P ∧ At wr bv 0 V ∧ Below w.heap.size w wr) (fun _ i _ => 5 - (intOf i).toNat)
              case atStart => exact ⟨0, by decide, rfl, rfl, hst, A14.out, aV14.out, B14.out⟩
              case round =>
                clear hst A14 aV14 B14
                obtain ⟨k, hk, rfl, rfl, ⟨X, hX, hXz, aX⟩, hA, aV, B⟩ := hrel
                have hX' := Lib.hid hX
                have hXz' := Lib.hid hXz
                have aX' := Lib.hid aX
                have hA' := Lib.hid hA
                have aV' := Lib.hid aV
                have B' := Lib.hid B
                clear hX hXz aX hA aV B
                by_cases hkN : k < 5
                · obtain ⟨l, hl0, hl1, hl2, hl3⟩ := tab_ok hkN
                  have hki : (k : Int) < 5 := by omega
                  have hLk : wr.cell? ⟨0, k, none⟩ = some (.int .u64 (l : Int)) := by
                    rw [← hl0, ← hL'.out k hkN]
                    exact B'.out.cell hGl
                  have hSp : Hid (Sp (k + 1) = Sp k + l) := Lib.hid hl1
                  rw [hl1] at hl3
                  have hX1 := Lib.hid (fun (D : List Int) (hD : El D (xmOf x ^ 2 ^ (27 - Sp (k + 1)))) => hD)
                  generalize hS : Sp k = S at *
                  have hS' := Lib.hid hS
                  clear hS hl0 hl1
                  have hw1 : IntKind.u64.wrap ((S : Int) + l) = ((S + l : Nat) : Int) := by
                    simp only [IntKind.wrap_u64]
                    omega
                  generalize hT : S + l = T at *
                  have hT' := Lib.hid hT
                  clear hT
                  have hw2 : IntKind.i64.wrap (T : Int) = T := by
                    simp only [IntKind.wrap_i64]
                    omega
                  have hw3 : IntKind.i64.wrap ((27 : Int) - T) = 27 - T := by
                    simp only [IntKind.wrap_i64]
                    omega
                  have h5 : (27 : Int) - T < 28 := by omega
                  have h6 : (0 : Int) ≤ 27 - T := by omega
                  have h7 : (T : Int) ≤ 27 := by omega
                  have eP := Lib.hid (hP'.out (27 - T) (by omega))
                  have aP := (hA'.out (27 - T) (by omega)).1
                  have aQ := aX'.out k hkN
                  rw [hXz'.out k hkN (Nat.le_refl _)] at aQ
                  have lP := Lib.hid eP.out.1
                  go_wp2_with (first
                    | (refine wpLoadE rfl (.tmp 66) rfl (b := bp) (o := (27 - T) * 4) (xs := P (27 - T)) rfl lP.out aP ?_)
                    | (refine wpStoreE rfl (.tmp 68) (.tmp 67) rfl (b := bq) (o := k * 4) (xs := P (27 - T)) rfl rfl lP.out aQ ?_; rintro w15 a15 T15))
                  go_roundw
                  case rel =>
                    refine ⟨k + 1, by omega, by go_num, by rw [hSp.out], ⟨_, fun i hi => ?_, fun i hi h1 => ?_, aX'.out.set T15 a15⟩, hA'.out.stay T15 (Nat.ne_of_lt hpw), aV'.out.stay T15 (Or.inl (by omega)), B'.out.trans (T15.below b0 B'.out.size)⟩
                    · by_cases hik : i = k
                      · subst hik
                        simp only [if_pos]
                        rw [hSp.out]
                        exact eP.out
                      · simp only [if_neg hik]
                        exact hX'.out i (by omega)
                    · rw [if_neg (by omega)]
                      exact hXz'.out i hi (by omega)
                  case measure => simp [intOf]; omega
                · have hki : ¬ (k : Int) < 5 := by omega
                  obtain rfl : k = 5 := by omega
                  have hst : Dm x 0 0 0 := by
                    refine ⟨Nat.two_pow_pos _, Nat.dvd_zero _, ?_⟩
                    rw [show Sp 0 = 0 from rfl, Nat.add_zero, Int.pow_zero, Int.mul_one]
                    rw [xm_top]
                    rw [xm_top] at hc
                    exact hc.out
                  have hst' := Lib.hid hst
                  have aXf := Lib.hid aX'.out
                  clear hXz' hP' hA' hst aX'
                  go_wp2
                  go_loopw [14, 15, 70] (fun v u i wr => ∃ k s t : Nat, k ≤ 5 ∧ i = .int .i64 (k : Int) ∧ v = .int .u64 (s : Int) ∧ u = .int .u64 (t : Int) ∧ Dm x k s t ∧ Arr wr bq 5 X ∧ At wr bv 0 V ∧ Below w.heap.size w wr) (fun _ _ i _ => 5 - (intOf i).toNat)
                  case atStart => exact ⟨0, 0, 0, by decide, rfl, rfl, rfl, hst'.out, aXf.out, aV'.out, B'.out⟩
                  case round =>
                    clear hst' aXf aV' B'
                    obtain ⟨k, s, t, hk, rfl, rfl, rfl, ⟨d1, d2, d3⟩, aX, aV, B⟩ := hrel
                    have d1' := Lib.hid d1
                    have d2' := Lib.hid d2
                    have d3' := Lib.hid d3
                    have aX' := Lib.hid aX
                    have aV' := Lib.hid aV
                    have B' := Lib.hid B
                    clear d1 d2 d3 aX aV B
                    by_cases hkN : k < 5
                    · obtain ⟨l, hl0, hl1, hl2, hl3⟩ := tab_ok hkN
                      have hki : (k : Int) < 5 := by omega
                      have hLk : wr.cell? ⟨0, k, none⟩ = some (.int .u64 (l : Int)) := by
                        rw [← hl0, ← hL'.out k hkN]
                        exact B'.out.cell hGl
                      have hSp : Hid (Sp (k + 1) = Sp k + l) := Lib.hid hl1
                      have hS1 : Hid (Sp k + l ≤ 27) := Lib.hid (by rw [← hl1]; exact hl3)
                      have hlN : l ≤ 27 := by omega
                      have hT2 : Hid ((s + t) / 2 ^ l < 2 ^ 28) := Lib.hid (div_lt hl2 d1'.out)
                      have hw1 : IntKind.u64.wrap ((s : Int) + t) = ((s + t : Nat) : Int) := by
                        have h := Nat.lt_trans d1'.out (by decide : 2 ^ (28 + 1) < 18446744073709551616)
                        simp only [IntKind.wrap_u64]
                        omega
                      have hst0 : Hid (Cg ((xmOf x ^ 2 ^ (27 - (Sp k + l)) * gI ^ ((s + t) / 2 ^ l)) ^ 2 ^ l) 1) := Lib.hid (step_ok hl2 hS1.out d2'.out d3'.out)
                      clear hl0 hl1
                      go_upto_region 37 with fail
                      clear hw1
                      have hsh : ((s : Int) + t) / 2 ^ l = (((s + t) / 2 ^ l : Nat) : Int) := by simp
                      rw [hsh]
                      clear hsh
                      generalize hTd : (s + t) / 2 ^ l = T at *
                      have hTd' := Lib.hid hTd
                      clear hTd
                      have b1 : w.heap.size ≤ wr.heap.size := B'.out.size
                      have hqw : bq < wr.heap.size := (aX'.out 0 (by decide)).lt
                      have hvw : bv < wr.heap.size := aV'.out.lt
                      go_upto_region 38 with (refine wpNewE rfl rfl ?_; rintro w20 n20)
                      have a20 := n20.at 0 (by decide)
                      have aX20 := Lib.hid (aX'.out.more n20.below)
                      have aV20 := Lib.hid (aV'.out.more n20.below)
                      have B20 := Lib.hid (B'.out.trans (n20.below.mono b1))
                      clear n20 B' aX' aV' hLk
                      generalize wr.heap.size = bg at *
                      have hGw := Lib.hid (cells_below B20.out hgl hg'.out)
                      go_upto_region 39 with (go_at_call 27; refine (powG_call zeros_ln zeros_wd a20 hT2.out hGw.out).mono ?_; rintro e w21 ⟨⟨G, eG, a21⟩, rfl, T21⟩)
                      have eG' := Lib.hid eG
                      have aX21 := Lib.hid (aX20.out.stay T21 (Nat.ne_of_lt hqw))
                      have aV21 := Lib.hid (aV20.out.stay T21 (Or.inl (Nat.ne_of_lt hvw)))
                      have B21 := Lib.hid (B20.out.trans (T21.below b1 B20.out.size))
                      clear T21 B20 aX20 aV20 eG a20 hGw
                      have hgw : bg < w21.heap.size := a21.lt
                      go_upto_region 40 with (refine wpNewE rfl rfl ?_; rintro w22 n22)
                      have a22 := n22.at 0 (by decide)
                      have b2 : w.heap.size ≤ w21.heap.size := B21.out.size
                      have aX22 := Lib.hid (aX21.out.more n22.below)
                      have aV22 := Lib.hid (aV21.out.more n22.below)
                      have aG22 := Lib.hid (a21.more n22.below)
                      have B22 := Lib.hid (B21.out.trans (n22.below.mono b2))
                      clear n22 B21 aX21 aV21 a21
                      generalize w21.heap.size = ba at *
                      have eX1 := Lib.hid (hX'.out k hkN)
                      have aXk := Lib.hid (aX22.out k hkN).1
                      have hqa : bq ≠ ba := by omega
                      have hga : bg ≠ ba := by omega
                      go_upto_region 41 with (go_at_call 25; refine (mulE_call zeros_ln eX1.out.1 eG'.out.1 zeros_wd eX1.out.2.1 eG'.out.2.1 eG'.out.2.2.1 a22 aXk.out aG22.out.1 (Or.inl hqa) (Or.inl hga)).mono ?_; rintro e w23 ⟨A, hA, rfl, a23, T23⟩)
                      have eA := Lib.hid (eX1.out.mul eG'.out hA)
                      have hX23 := Lib.hid (aX22.out.stay T23 hqa)
                      have aV23 := Lib.hid (aV22.out.stay T23 (Or.inl (by omega)))
                      have B23 := Lib.hid (B22.out.trans (T23.below b2 B22.out.size))
                      clear T23 B22 aX22 aV22 hA a22 aXk aG22
                      have hGw := Lib.hid (cells_below B23.out hgl hg'.out)
                      have hst1 := hst0.out
                      rw [← hSp.out] at hst1
                      have hst2 := Lib.hid hst1
                      clear hst1 hst0
                      go_wp2_with (go_at_call 28; refine (eval_call eA.out a23.1 hst2.out hlN hGw.out).mono ?_; rintro e w24 ⟨⟨s', hs1, hs2, hs3, rfl⟩, B24⟩)
                      have hs1' := Lib.hid hs1
                      have hs2' := Lib.hid hs2
                      have hs3' := Lib.hid hs3
                      clear hs1 hs2 hs3
                      go_roundw
                      case rel =>
                        refine ⟨k + 1, s', T, by omega, by go_num, rfl, rfl, ⟨?_, ?_, ?_⟩, hX23.out.more B24, aV23.out.more B24, B23.out.trans (B24.mono B23.out.size)⟩
                        · exact two_lt hs1'.out hT2.out
                        · rw [hSp.out, ← hTd'.out]
                          exact step_dvd hS1.out d2'.out hs2'.out
                        · have h := hs3'.out
                          rw [← hTd'.out] at h ⊢
                          rw [hSp.out] at h ⊢
                          exact step_one h
                      case measure => simp [intOf]; omega
                    · have hki : ¬ (k : Int) < 5 := by omega
                      obtain rfl : k = 5 := by omega
                      have hw1 : IntKind.u64.wrap ((s : Int) + t) = ((s + t : Nat) : Int) := by
                        have h := Nat.lt_trans d1'.out (by decide : 2 ^ (28 + 1) < 18446744073709551616)
                        simp only [IntKind.wrap_u64]
                        omega
                      have hT2 := Lib.hid (div_lt (Nat.le_refl 1) d1'.out)
                      have hR := Lib.hid (root_sq d2'.out d3'.out)
                      clear d1' d2' d3' aX' hX' hki
                      go_upto_region 44 with fail
                      clear hw1
                      have e : (s : Int) + t = ((s + t : Nat) : Int) := (Int.natCast_add s t).symm
                      rw [e]
                      clear e
                      generalize hTd : s + t = T at *
                      clear hTd
                      have b1 : w.heap.size ≤ wr.heap.size := B'.out.size
                      have hvw : bv < wr.heap.size := aV'.out.lt
                      go_upto_region 45 with (refine wpNewE rfl rfl ?_; rintro w30 n30)
                      have a30 := n30.at 0 (by decide)
                      have aV30 := Lib.hid (aV'.out.more n30.below)
                      have B30 := Lib.hid (B'.out.trans (n30.below.mono b1))
                      clear n30 B' aV'
                      generalize wr.heap.size = bg at *
                      have hGw := Lib.hid (cells_below B30.out hgl hg'.out)
                      have hbzg : bz < bg := by omega
                      go_upto_region 46 with (go_at_call 27; rw [show ((T : Nat) : Int) / 2 = ((T / 2 ^ 1 : Nat) : Int) by simp]; refine (powG_call zeros_ln zeros_wd a30 hT2.out hGw.out).mono ?_; rintro e w31 ⟨⟨G, eG, a31⟩, rfl, T31⟩)
                      have eG' := Lib.hid eG
                      have aG31 := Lib.hid a31
                      have aV31 := Lib.hid (aV30.out.stay T31 (Or.inl (Nat.ne_of_lt hvw)))
                      have B31 := Lib.hid (B30.out.trans (T31.below b1 B30.out.size))
                      have aZ31 := Lib.hid (aZ'.out.below B31.out hbz)
                      have cX31 := Lib.hid (cells_below B31.out hbx cX'.out)
                      have hvz : bv ≠ bz := by omega
                      clear T31 B30 aV30 eG a30 a31 hGw
                      go_upto_region 47 with (go_at_call 25; refine (mulE_call lZ rfl eV.out.1 wZ eX'.out.2.1 eV.out.2.1 eV.out.2.2.1 aZ31.out cX31.out aV31.out.1 (Or.inl hxz) (Or.inl hvz)).mono ?_; rintro e w32 ⟨R1, hR1, rfl, a32, T32⟩)
                      have e32 := Lib.hid (eX'.out.mul eV.out hR1)
                      have aG32 := Lib.hid (aG31.out.stay T32 (Or.inl (by omega)))
                      have hgz2 : bg ≠ bz := by omega
                      go_wp2_with (go_at_call 25; refine (mulZ_call e32.out.1 eG'.out.1 e32.out.2.1 eG'.out.2.1 eG'.out.2.2.1 a32 aG32.out.1 (Or.inl hgz2)).mono ?_; rintro e w33 ⟨R2, hR2, rfl, a33, T33⟩)
                      go_ret
                      exact Or.inl ⟨Or.inr (by rw [xm_top] at hc; exact hc.out), ⟨R2, _, e32.out.mul eG'.out hR2, hR.out, a33⟩, rfl, Touch.trans (Touch.trans (touch_of_below B31.out) T32) T33⟩
        · go_wp2_with (first
            | (go_at_call 21; refine (isZero_call eT'.out.1 eT'.out.2.1 aT.1).mono ?_; rw [decide_eq_false hnz]; rintro e w9 ⟨rfl, B9⟩; have aT9 := aT.more B9)
            | (go_at_call 26; refine (isOne_call eT'.out.1 eT'.out.2.1 aT9.1).mono ?_; rw [decide_eq_false hone]; rintro e w10 ⟨rfl, B10⟩))
          go_ret
          refine Or.inr ⟨fun h => ?_, rfl, (B'.out.trans (B9.mono B'.out.size)).trans (B10.mono (Nat.le_trans B'.out.size B9.size))⟩
          rcases h with h | h
          · exact hnd.out h
          · exact hone ((eT'.out.eq el_one).2 (by rw [xm_top]; exact h))
end Go.Proofs.YtajhellohcibiaaDoor
