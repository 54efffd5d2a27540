/-
  The logarithm of a root of unity, walked by hand. No conditions.
-/
import Derived.Test.YtajhellohcibiaaDoorFsW
namespace Go.Proofs.YtajhellohcibiaaDoor
open Go Eng Go.RowKit
set_option maxRecDepth 100000
/-! ### the logarithm -/
theorem eval_one {d : Int} {j : Nat} (hj : j < 28) (h : Cg (d ^ 2 ^ j) (-1)) : Cg ((d * gI ^ 2 ^ (27 - j)) ^ 2 ^ j) 1 := by
  rw [Int.mul_pow, ← Int.pow_mul, ← Nat.pow_add, show 27 - j + j = 27 by omega]
  exact h.mul g_top
theorem eval_lt {s k j : Nat} (hjk : j < k) (hk : k ≤ 27) (hs : s < 2 ^ (28 - k)) : s + 2 ^ (27 - j) < 2 ^ (28 - j) := by
  have h1 : 2 ^ (28 - k) ≤ 2 ^ (27 - j) := Nat.pow_le_pow_right (by decide) (by omega)
  have h2 : 2 ^ (28 - j) = 2 ^ (27 - j) + 2 ^ (27 - j) := by
    rw [show 28 - j = 27 - j + 1 by omega, Nat.pow_succ]
    omega
  omega
theorem eval_dvd {s l k j : Nat} (hjk : j < k) (hk : k ≤ l) (hl : l ≤ 27) (hs : 2 ^ (28 - l) ∣ s) : 2 ^ (28 - l) ∣ s + 2 ^ (27 - j) :=
  Nat.dvd_add hs (Nat.pow_dvd_pow 2 (by omega))
theorem meas {s p q : Nat} (h1 : s + p < q) (h2 : 0 < p) : q - (((s + p : Nat) : Int)).toNat < q - ((s : Int)).toNat := by omega
def EvS (a : Int) (l bd : Nat) (k s : Nat) (wr : World) : Prop := k ≤ l ∧ s < 2 ^ (28 - k) ∧ 2 ^ (28 - l) ∣ s ∧ Cg ((a * gI ^ s) ^ 2 ^ k) 1 ∧ ∃ D, El D (a * gI ^ s) ∧ At wr bd 0 D
set_option maxHeartbeats 800000 in
theorem eval_call {ba oa l : Nat} {A : List Int} {a : Int} {w : World} (eA : El A a) (cA : Cells w ba oa 4 A) (ha : Cg (a ^ 2 ^ l) 1) (hl : l ≤ 27) (hg : Cells w 1 0 4 gW) :
    Calls Tryd.prog 28 #[.pointer (some ⟨ba, oa, none⟩)] w fun e w' => (∃ s : Nat, s < 2 ^ 28 ∧ 2 ^ (28 - l) ∣ s ∧ Cg (a * gI ^ s) 1 ∧ e = .returned (.int .u64 (s : Int))) ∧ Below w.heap.size w w' := by
  have hba := cells_lt (by decide) cA
  have hg' := Lib.hid hg
  have eA' := Lib.hid eA
  have cA' := Lib.hid cA
  have ha' := Lib.hid ha
  have hl' := Lib.hid hl
  clear hg eA cA ha hl
  go_enter Tryd.func28, Tryd.ntmps28
  go_upto_region 2 with (first
    | (go_at_call 34; refine (pows_call hg'.out).mono ?_; rintro e w1 ⟨⟨P, hP, rfl⟩, B1⟩; have hPl := Lib.hid (fun i (hi : i < 28) => (hP i hi).1); have hP' := Lib.hid hP; clear hP)
    | (refine wpNewP rfl rfl ?_; rintro w2 n2)
    | (refine wpStoreP rfl (.tmp 3) (.tmp 7) rfl (b := w1.heap.size) (P := P) rfl rfl hPl.out (n2.arr (by decide)) ?_))
  have hlt : w.heap.size ≤ w1.heap.size := B1.size
  have B2 : Below w.heap.size w w2 := B1.trans (n2.below.mono hlt)
  have A3 : Arr (w2.setCells w1.heap.size 0 (flatW P 28)) w1.heap.size 28 P := (n2.arr (k := 28) (by decide)).put hPl.out
  have B3 : Below w.heap.size w (w2.setCells w1.heap.size 0 (flatW P 28)) := B2.trans ((touch_flat (flatW_len hPl.out)).below hlt B2.size)
  clear n2 B1 B2
  generalize w2.setCells w1.heap.size 0 (flatW P 28) = w3 at *
  generalize w1.heap.size = b2 at *
  have A3' := Lib.hid A3
  have B3' := Lib.hid B3
  clear A3 B3
  go_upto_region 3 with (refine wpNewE rfl rfl ?_; rintro w4 n4)
  have hlt4 : b2 < w3.heap.size := (A3'.out 0 (by decide)).lt
  have hlt5 : w.heap.size ≤ w3.heap.size := B3'.out.size
  have A4 := Lib.hid (A3'.out.more n4.below)
  have B4 := Lib.hid (B3'.out.trans (n4.below.mono hlt5))
  have a4 := n4.at 0 (by decide)
  clear n4
  generalize w3.heap.size = b4 at *
  have hne : ba ≠ b4 := by omega
  go_upto_region 4 with (go_at_call 35; refine (set_at zeros_ln eA'.out.1 zeros_wd eA'.out.2.1 a4 (cells_below B4.out hba cA'.out) (Or.inl hne)).mono ?_; rintro e w5 ⟨rfl, a5, T5⟩)
  have A5 := A4.out.stay T5 (Nat.ne_of_lt hlt4)
  have B5 := B4.out.trans (T5.below hlt5 B4.out.size)
  have hst : EvS a l b4 l 0 w5 := ⟨Nat.le_refl _, Nat.two_pow_pos _, Nat.dvd_zero _, by rw [Int.pow_zero, Int.mul_one]; exact ha'.out, A, by rw [Int.pow_zero, Int.mul_one]; exact eA'.out, a5⟩
  clear T5 a4 a5 A4 B4 A3' B3'
  go_wp2
  go_loopw [5] (fun v wr => ∃ k s : Nat, v = .int .u64 (s : Int) ∧ EvS a l b4 k s wr ∧ Arr wr b2 28 P ∧ Below w.heap.size w wr) (fun v _ => 2 ^ 28 - (intOf v).toNat)
  case atStart => exact ⟨l, 0, rfl, hst, A5, B5⟩
  case round =>
    clear hst A5 B5
    obtain ⟨k, s, rfl, ⟨hk, hs, hd, h1, D, eD, aD⟩, hA, B⟩ := hrel
    have eD' := Lib.hid eD
    have hA' := Lib.hid hA
    have hs' := Lib.hid hs
    have hd' := Lib.hid hd
    have h1' := Lib.hid h1
    have hk' := Lib.hid hk
    clear eD hA hs hd h1 hk
    by_cases hone : D = one
    · have hc := Lib.hid ((eD'.out.eq el_one).1 hone)
      go_wp2_with (go_at_call 26; refine (isOne_call eD'.out.1 eD'.out.2.1 aD.1).mono ?_; rw [decide_eq_true hone]; rintro e w6 ⟨rfl, B6⟩)
      go_ret
      exact ⟨⟨s, Nat.lt_of_lt_of_le hs'.out (Nat.pow_le_pow_right (by decide) (Nat.sub_le _ _)), hd'.out, hc.out, rfl⟩, B.trans (B6.mono B.size)⟩
    · obtain ⟨j, hjk, hj⟩ := minus_some h1'.out fun h => hone ((eD'.out.eq el_one).2 h)
      have hj' := Lib.hid hj
      have hk1 := hk'.out
      have hl1 := hl'.out
      have hjN : j < 28 := by omega
      clear hj
      go_upto_region 8 with (first
        | (go_at_call 26; refine (isOne_call eD'.out.1 eD'.out.2.1 aD.1).mono ?_; rw [decide_eq_false hone]; rintro e w6 ⟨rfl, B6⟩; have aD6 := aD.more B6; have A6 := Lib.hid (hA'.out.more B6); have B6' := B.trans (B6.mono B.size))
        | (go_at_call 36; refine (find_call eD'.out aD6.1 hj'.out (by omega)).mono ?_; rintro e w7 ⟨rfl, B7⟩; have aD7 := aD6.more B7; have A7 := Lib.hid (A6.out.more B7); have B7' := B6'.trans (B7.mono B6'.size)))
      have hb2 : s + 2 ^ (27 - j) < 2 ^ 28 := Nat.lt_of_lt_of_le (eval_lt hjk (by omega) hs'.out) (Nat.pow_le_pow_right (by decide) (Nat.sub_le _ _))
      have hsum : IntKind.u64.wrap ((s : Int) + IntKind.u64.wrap (2 ^ (27 - j))) = ((s + 2 ^ (27 - j) : Nat) : Int) := by
        have e : (2 : Int) ^ (27 - j) = ((2 ^ (27 - j) : Nat) : Int) := by simp
        have hb3 : (2 : Nat) ^ 28 < 18446744073709551616 := by decide
        rw [e]
        generalize (2 : Nat) ^ (27 - j) = p at *
        generalize (2 : Nat) ^ 28 = q at *
        simp only [IntKind.wrap_u64]
        omega
      rw [hsum]
      have hpos : 0 < 2 ^ (27 - j) := Nat.two_pow_pos _
      have nxt : ∀ D' wr', El D' (a * gI ^ (s + 2 ^ (27 - j))) → At wr' b4 0 D' → EvS a l b4 j (s + 2 ^ (27 - j)) wr' := fun D' wr' e' a' => by
        refine ⟨by omega, eval_lt hjk (by omega) hs'.out, eval_dvd hjk hk1 hl1 hd'.out, ?_, D', e', a'⟩
        rw [Int.pow_add, ← Int.mul_assoc]
        exact eval_one hjN hj'.out
      have nxt' := Lib.hid nxt
      have hb2' := Lib.hid hb2
      have hpos' := Lib.hid hpos
      clear nxt hb2 hsum hpos A6 B6 aD6 B7 B6' hA' aD
      by_cases hj0 : j = 0
      · subst hj0
        go_wp2_with (go_at_call 37; refine (negZ_call eD'.out.1 eD'.out.2.1 eD'.out.2.2.1 aD7).mono ?_; rintro e w8 ⟨r, hr, rfl, a8, T8⟩)
        have A8 := A7.out.stay T8 (Nat.ne_of_lt hlt4)
        have B8 := B7'.trans (T8.below hlt5 B7'.size)
        have er : El r (a * gI ^ (s + 2 ^ (27 - 0))) := by
          refine (el_neg eD'.out hr).cg ?_
          rw [Int.pow_add, ← Int.mul_assoc, show -(a * gI ^ s) = a * gI ^ s * -1 by omega]
          exact (Cg.refl _).mul g_top.symm
        go_roundw
        case rel => exact ⟨0, s + 2 ^ (27 - 0), rfl, nxt'.out r _ er a8, A8, B8⟩
        case measure =>
          exact meas hb2'.out hpos'.out
      · have hji : (0 : Int) < j := by omega
        have h31 : (j : Int) ≤ 27 := by omega
        have h5 : (27 : Int) - j < 28 := by omega
        have h6 : (0 : Int) ≤ 27 - j := by omega
        have hw : IntKind.i64.wrap ((27 : Int) - j) = 27 - j := by
          simp only [IntKind.wrap_i64]
          omega
        have aP := A7.out (27 - j) (by omega)
        have eP := Lib.hid (hP'.out (27 - j) (by omega))
        go_wp2_with (go_at_call 25; refine (mulZ_call eD'.out.1 eP.out.1 eD'.out.2.1 eP.out.2.1 eP.out.2.2.1 aD7 aP.1 (Or.inl (Nat.ne_of_lt hlt4))).mono ?_; rintro e w8 ⟨r, hr, rfl, a8, T8⟩)
        have A8 := A7.out.stay T8 (Nat.ne_of_lt hlt4)
        have B8 := B7'.trans (T8.below hlt5 B7'.size)
        have er : El r (a * gI ^ (s + 2 ^ (27 - j))) := by
          rw [Int.pow_add, ← Int.mul_assoc]
          exact eD'.out.mul eP.out hr
        go_roundw
        case rel => exact ⟨j, s + 2 ^ (27 - j), rfl, nxt'.out r _ er a8, A8, B8⟩
        case measure =>
          exact meas hb2'.out hpos'.out
end Go.Proofs.YtajhellohcibiaaDoor
