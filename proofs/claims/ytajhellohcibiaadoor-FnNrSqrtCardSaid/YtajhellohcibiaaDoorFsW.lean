/-
  Powers of the root of unity; its logarithm: walked by hand. No conditions.
-/
import Derived.Test.YtajhellohcibiaaDoorFsV
namespace Go.Proofs.YtajhellohcibiaaDoor
open Go Eng Go.RowKit
set_option maxRecDepth 100000
/-! ### a power of the root of unity -/
set_option maxHeartbeats 800000 in
theorem powG_call {bz oz E : Nat} {Z : List Int} {w : World} (lZ : Z.length = 4) (wZ : Wds Z) (aZ : At w bz oz Z) (hE : E < 2 ^ 28) (hg : Cells w 1 0 4 gW) :
    Calls Tryd.prog 27 #[.pointer (some ⟨bz, oz, none⟩), .int .u64 (E : Int)] w fun e w' => (∃ R, El R (gI ^ E) ∧ At w' bz oz R) ∧ e = .returned (.pointer (some ⟨bz, oz, none⟩)) ∧ Eng.Touch w bz oz 4 w' := by
  have hbz := aZ.lt
  have hg' := Lib.hid hg
  have aZ' := Lib.hid aZ
  have hE' := Lib.hid hE
  clear hg aZ hE
  by_cases h0 : E = 0
  · subst h0
    go_enter Tryd.func27, Tryd.ntmps27
    go_wp2_with (go_at_call 33; refine (setOne_call lZ wZ aZ'.out).mono ?_; rintro e w1 ⟨rfl, a1, T1⟩)
    go_ret
    exact ⟨⟨one, by rw [Int.pow_zero]; exact el_one, a1⟩, rfl, T1⟩
  · have hp : (0 : Int) < E := by omega
    have hp2 : ((E : Int) == 0) = false := by rw [beq_eq_false_iff_ne]; omega
    go_enter Tryd.func27, Tryd.ntmps27
    go_upto_region 4 with (first
      | (go_at_call 34; refine (pows_call hg'.out).mono ?_; rintro e w1 ⟨⟨P, hP, rfl⟩, B1⟩; have hl' := Lib.hid (fun i (hi : i < 28) => (hP i hi).1); have hP' := Lib.hid hP; clear hP)
      | (refine wpNewP rfl rfl ?_; rintro w2 n2)
      | (refine wpStoreP rfl (.tmp 5) (.tmp 12) rfl (b := w1.heap.size) (P := P) rfl rfl hl'.out (n2.arr (by decide)) ?_))
    have hlt : w.heap.size ≤ w1.heap.size := B1.size
    have B2 : Below w.heap.size w w2 := B1.trans (n2.below.mono hlt)
    have A3 : Arr (w2.setCells w1.heap.size 0 (flatW P 28)) w1.heap.size 28 P := (n2.arr (k := 28) (by decide)).put hl'.out
    have B3 : Below w.heap.size w (w2.setCells w1.heap.size 0 (flatW P 28)) := B2.trans ((touch_flat (flatW_len hl'.out)).below hlt B2.size)
    clear n2 B1 B2
    generalize w2.setCells w1.heap.size 0 (flatW P 28) = w3 at *
    generalize w1.heap.size = b2 at *
    have A3' := Lib.hid A3
    have B3' := Lib.hid B3
    clear A3 B3
    go_upto_region 5 with (refine wpNewE rfl rfl ?_; rintro w4 n4)
    have hlt4 : b2 < w3.heap.size := (A3'.out 0 (by decide)).lt
    have hlt5 : w.heap.size ≤ w3.heap.size := B3'.out.size
    have A4 := Lib.hid (A3'.out.more n4.below)
    have B4 := Lib.hid (B3'.out.trans (n4.below.mono hlt5))
    have a4 := n4.at 0 (by decide)
    clear n4
    generalize w3.heap.size = b4 at *
    go_upto_region 6 with (go_at_call 33; refine (setOne_call zeros_ln zeros_wd a4).mono ?_; rintro e w5 ⟨rfl, a5, T5⟩)
    have A5 := A4.out.stay T5 (Nat.ne_of_lt hlt4)
    have B5 := B4.out.trans (T5.below hlt5 B4.out.size)
    have hst : ∃ R, El R (gI ^ (E % 2 ^ 0)) ∧ At w5 b4 0 R := ⟨one, by rw [Nat.pow_zero, Nat.mod_one, Int.pow_zero]; exact el_one, a5⟩
    clear T5 a4 a5 A4 B4 A3' B3'
    go_wp2
    go_loopw [1, 7] (fun x i wr => ∃ k : Nat, k ≤ 28 ∧ i = .int .i64 (k : Int) ∧ x = .int .u64 ((E / 2 ^ k : Nat) : Int) ∧ (∃ R, El R (gI ^ (E % 2 ^ k)) ∧ At wr b4 0 R) ∧ Arr wr b2 28 P ∧ Below w.heap.size w wr) (fun x _ _ => (intOf x).toNat)
    case atStart => exact ⟨0, by decide, rfl, by rw [Nat.pow_zero, Nat.div_one], hst, A5, B5⟩
    case round =>
      clear hst A5 B5
      obtain ⟨k, hk, rfl, rfl, ⟨R, eR, aR⟩, A, B⟩ := hrel
      have eR' := Lib.hid eR
      have A' := Lib.hid A
      clear eR A
      by_cases hy0 : E / 2 ^ k = 0
      · have hm : E % 2 ^ k = E := by
          have := Nat.div_add_mod E (2 ^ k)
          rw [hy0] at this
          omega
        rw [hm] at eR'
        clear hm
        have hyi : ¬ (0 : Int) < ((E / 2 ^ k : Nat) : Int) := by rw [hy0]; decide
        have cz := aZ'.out.below B hbz
        have hne : b4 ≠ bz := by omega
        go_wp2_with (go_at_call 35; refine (set_at lZ eR'.out.1 wZ eR'.out.2.1 cz aR.1 (Or.inl hne)).mono ?_; rintro e w6 ⟨rfl, a6, T6⟩)
        go_ret
        exact ⟨⟨R, eR'.out, a6⟩, rfl, Touch.trans (touch_of_below B) T6⟩
      · have hyi : (0 : Int) < ((E / 2 ^ k : Nat) : Int) := Int.natCast_pos.2 (Nat.pos_of_ne_zero hy0)
        have hkN : k < 28 := by
          rcases Nat.lt_or_ge k 28 with h | h
          · exact h
          · exfalso
            exact hy0 (Nat.div_eq_of_lt (Nat.lt_of_lt_of_le hE'.out (Nat.pow_le_pow_right (by decide) h)))
        have hki : (k : Int) < 28 := by omega
        have aP := A'.out k hkN
        have eP := Lib.hid (hP'.out k hkN)
        have hu : E / 2 ^ k < 18446744073709551616 := Nat.lt_of_le_of_lt (Nat.div_le_self _ _) (Nat.lt_trans hE'.out (by decide))
        generalize hy : E / 2 ^ k = y at *
        have hy' := Lib.hid hy
        clear hy
        have hbit : bits BinOp.and IntKind.u64 (y : Int) 1 = ((y % 2 : Nat) : Int) := (and_one ⟨by omega, by omega⟩).trans (by omega)
        have hnext : E / 2 ^ (k + 1) = y / 2 := by rw [Nat.pow_succ, ← Nat.div_div_eq_div_mul, hy'.out]
        have hmod : E % 2 ^ (k + 1) = E % 2 ^ k + 2 ^ k * (y % 2) := by
          rw [Nat.pow_succ, Nat.mod_mul, hy'.out]
        have hnext' := Lib.hid hnext
        have hmod' := Lib.hid hmod
        clear hnext hmod hy'
        by_cases hb : y % 2 = 1
        · have hb1 : (bits BinOp.and IntKind.u64 (y : Int) 1 == 1) = true := by rw [hbit, hb]; rfl
          clear hbit
          go_wp2_with (go_at_call 25; refine (mulZ_call eR'.out.1 eP.out.1 eR'.out.2.1 eP.out.2.1 eP.out.2.2.1 aR aP.1 (Or.inl (Nat.ne_of_lt hlt4))).mono ?_; rintro e w6 ⟨r, hr, rfl, a6, T6⟩)
          have A6 := A'.out.stay T6 (Nat.ne_of_lt hlt4)
          have B6 := B.trans (T6.below hlt5 B.size)
          go_roundw
          case rel =>
            refine ⟨k + 1, by omega, by go_num, ?_, ⟨r, ?_, a6⟩, A6, B6⟩
            · rw [hnext'.out]
              rfl
            · rw [hmod'.out, hb, Nat.mul_one, Int.pow_add]
              exact eR'.out.mul eP.out hr
          case measure => simp [intOf]; omega
        · have hb1 : (bits BinOp.and IntKind.u64 (y : Int) 1 == 1) = false := by rw [hbit, beq_eq_false_iff_ne]; omega
          clear hbit
          go_wp2
          go_roundw
          case rel =>
            refine ⟨k + 1, by omega, by go_num, ?_, ⟨R, ?_, aR⟩, A'.out, B⟩
            · rw [hnext'.out]
              rfl
            · rw [hmod'.out, show y % 2 = 0 by omega, Nat.mul_zero, Nat.add_zero]
              exact eR'.out
          case measure => simp [intOf]; omega
end Go.Proofs.YtajhellohcibiaaDoor
