/-
  The symbol's inner round as a tree of facts. No conditions.
-/
import Derived.Test.YtmnenhkjdhbjmaaLE
import Derived.Test.YtmnenhkjdhbjmaaEngD
namespace Eng
open Go Jac
/-- What stands in the five words behind some rounds: factors, factors, number, number, sign. -/
def InL (P X Y l0 : Int) (ls : List Int) : Prop := ∃ U V f0 g0 f1 g1 l, ls = [pack f0 g0, pack f1 g1, U, V, l] ∧ Wd U ∧ Wd V ∧ GI P X Y U V f0 g0 f1 g1 ∧ (l = 1 ∨ l = -1) ∧
  ∀ s e a b, Nears s e X Y a b → ∃ A B, LG P s e X Y a b l0 U V f0 g0 f1 g1 A B l
theorem InL.zero {X Y l : Int} (hx : Wd X) (hy : Wd Y) (ho : Y % 2 = 1) (hl : l = 1 ∨ l = -1) : InL 1 X Y l [1, 4294967296, X, Y, l] :=
  ⟨X, Y, 1, 0, 0, 1, l, rfl, hx, hy, GI.zero hx.1 hy.1 ho, hl, fun _ _ a b _ => ⟨a, b, LG.zero hx.1 hy.1 ho hl⟩⟩
def t8T (w l c : SI) (ne : Nat) (k : SI → SI → List SI) : Tree :=
  .dfn (.bin .and .u64) [w, .lit 7] (.dfn (.cmp .eql) [.var ne, .lit 3] (.br (ne + 1)
    (.dfn (.bin .sub .i64) [.lit 0, l] (.dfn (.bin .mul .i64) [c, .lit 2] (.fin (enc (k (.var (ne + 3)) (.var (ne + 2)))) st0)))
    (.dfn (.cmp .eql) [.var ne, .lit 5] (.br (ne + 2)
      (.dfn (.bin .sub .i64) [.lit 0, l] (.dfn (.bin .mul .i64) [c, .lit 2] (.fin (enc (k (.var (ne + 4)) (.var (ne + 3)))) st0)))
      (.dfn (.bin .mul .i64) [c, .lit 2] (.fin (enc (k (.var (ne + 3)) l)) st0))))))
def lgS (c0 c1 a b l : SI) (m : Nat) : Tree :=
  .dfn (.bin .sub .u64) [b, a] (.dfn (.bin .quo .u64) [.var m, .lit 2] (.dfn (.bin .sub .i64) [c1, c0] (t8T a l c0 (m + 3) fun c' l' => [.var (m + 2), c', .var (m + 1), a, l'])))
def lgT (c0 c1 a b l : SI) (ne : Nat) : Tree :=
  .dfn (.bin .and .u64) [a, .lit 1] (.dfn (.cmp .eql) [.var ne, .lit 0] (.br (ne + 1)
    (.dfn (.bin .quo .u64) [a, .lit 2] (t8T b l c1 (ne + 3) fun c' l' => [c0, c', .var (ne + 2), b, l']))
    (.dfn .subD [a, b, .lit 0] (.dfn .subB [a, b, .lit 0] (.dfn (.cmp .eql) [.var (ne + 3), .lit 1] (.br (ne + 4)
      (.dfn (.bin .and .u64) [b, .lit 3] (.dfn (.cmp .eql) [.var (ne + 5), .lit 3] (.br (ne + 6)
        (.dfn (.bin .and .u64) [a, .lit 3] (.dfn (.cmp .eql) [.var (ne + 7), .lit 3] (.br (ne + 8)
          (.dfn (.bin .sub .i64) [.lit 0, l] (lgS c0 c1 a b (.var (ne + 9)) (ne + 10)))
          (lgS c0 c1 a b l (ne + 9)))))
        (lgS c0 c1 a b l (ne + 7)))))
      (.dfn (.bin .quo .u64) [.var (ne + 2), .lit 2] (.dfn (.bin .sub .i64) [c0, c1] (t8T b l c1 (ne + 7) fun c' l' => [.var (ne + 6), c', .var (ne + 5), b, l'])))))))))
theorem and_k {x : Int} (h : Wd x) (k : Nat) (hk : k ≤ 32) : binEv .and .u64 x ((2 ^ k - 1 : Nat) : Int) = x % ((2 ^ k : Nat) : Int) := by
  obtain ⟨j, rfl, hj⟩ := nat_of h
  have hp : 2 ^ k ≤ 2 ^ 32 := Nat.pow_le_pow_right (by decide) hk
  have := ev_and j (2 ^ k - 1) hj (by omega)
  rw [Nat.and_two_pow_sub_one_eq_mod] at this
  rw [this]; simp
theorem and_seven {x : Int} (h : Wd x) : binEv .and .u64 x 7 = x % 8 := and_k h 3 (by decide)
theorem and_three {x : Int} (h : Wd x) : binEv .and .u64 x 3 = x % 4 := and_k h 2 (by decide)
theorem sub_zero64 {l : Int} (h : l = 1 ∨ l = -1) : binEv .sub .i64 0 l = -l := by
  show IntKind.i64.wrap (0 - l) = _
  rcases h with rfl | rfl <;> rfl
theorem t8T_ok {A : Ask} {w l c : SI} {ne : Nat} {k : SI → SI → List SI} {env : List Int} {W L f g : Int} (hne : ne = env.length) (bl : Bd ne l) (bc : Bd ne c) (ew : w.val env = W) (wW : Wd W) (el : l.val env = L) (hL : L = 1 ∨ L = -1) (ec : c.val env = pack f g)
    (hk : ∀ (e : List Int) (c' l' : SI), c'.val (env ++ e) = pack (2 * f) (2 * g) → l'.val (env ++ e) = L * tw W → A.fin (enc (k c' l')) st0 (env ++ e)) : (t8T w l c ne k).holds A env := by
  rw [hne] at bl bc
  have vl : ∀ e : List Int, l.val (env ++ e) = L := fun e => by rw [val_more bl, el]
  have vc : ∀ e : List Int, c.val (env ++ e) = pack f g := fun e => by rw [val_more bc, ec]
  unfold t8T
  refine hold_dfn0 (v := W % 8) ?_ ?_
  · show binEv .and .u64 (w.val env) 7 = _
    rw [ew, and_seven wW]
  refine hold_dfn (v := b01 (decide (W % 8 = 3))) ?_ ?_
  · show b01 (cmpEv .eql ((SI.var ne).val _) 3) = _
    rw [var_at0 hne]; rfl
  refine ⟨fun h1 => ?_, fun h1 => ?_⟩
  · rw [getD_at hne] at h1
    have h3 : W % 8 = 3 := of_decide_eq_true ((b01_one _).1 h1)
    refine hold_dfn (v := -L) ?_ ?_
    · show binEv .sub .i64 0 (l.val _) = _
      rw [vl, sub_zero64 hL]
    refine hold_dfn (v := pack (2 * f) (2 * g)) ?_ ?_
    · show binEv .mul .i64 (c.val _) 2 = _
      rw [vc, pack_mul2]
    refine hk _ _ _ ?_ ?_
    · rw [var_at hne]; rfl
    · rw [var_at hne]
      show -L = _
      unfold tw; rw [if_pos (.inl h3)]; omega
  · rw [getD_at hne] at h1
    have h3 : ¬ W % 8 = 3 := of_decide_eq_false ((b01_zero _).1 h1)
    refine hold_dfn (v := b01 (decide (W % 8 = 5))) ?_ ?_
    · show b01 (cmpEv .eql ((SI.var ne).val _) 5) = _
      rw [var_at0 hne]; rfl
    refine ⟨fun h2 => ?_, fun h2 => ?_⟩
    · rw [getD_at hne] at h2
      have h5 : W % 8 = 5 := of_decide_eq_true ((b01_one _).1 h2)
      refine hold_dfn (v := -L) ?_ ?_
      · show binEv .sub .i64 0 (l.val _) = _
        rw [vl, sub_zero64 hL]
      refine hold_dfn (v := pack (2 * f) (2 * g)) ?_ ?_
      · show binEv .mul .i64 (c.val _) 2 = _
        rw [vc, pack_mul2]
      refine hk _ _ _ ?_ ?_
      · rw [var_at hne]; rfl
      · rw [var_at hne]
        show -L = _
        unfold tw; rw [if_pos (.inr h5)]; omega
    · rw [getD_at hne] at h2
      have h5 : ¬ W % 8 = 5 := of_decide_eq_false ((b01_zero _).1 h2)
      refine hold_dfn (v := pack (2 * f) (2 * g)) ?_ ?_
      · show binEv .mul .i64 (c.val _) 2 = _
        rw [vc, pack_mul2]
      refine hk _ _ _ ?_ ?_
      · rw [var_at hne]; rfl
      · rw [vl]
        unfold tw; rw [if_neg (by omega)]; omega

theorem pow_le30 {i : Nat} (h : i ≤ 29) : (2 : Int) ^ i ≤ 2 ^ 30 := by
  have : 2 ^ i ≤ 2 ^ 30 := Nat.pow_le_pow_right (by decide) (by omega)
  exact_mod_cast this
theorem pow_cut {i : Nat} (h : i ≤ 29) : (2 : Int) ^ i * (8 * 2 ^ (29 - i)) = 2 ^ 32 := by
  rw [show (8 : Int) = 2 ^ 3 from rfl, ← Int.pow_add, ← Int.pow_add]; congr 1; omega

theorem lgT_ok {A : Ask} {c0 c1 a b l : SI} {ne : Nat} {env : List Int} {i : Nat} {X Y l0 : Int} (hi : i ≤ 29) (hne : ne = env.length) (b0 : Bd ne c0) (b1 : Bd ne c1) (ba : Bd ne a) (bb : Bd ne b) (bl : Bd ne l)
    (hs : InL (2 ^ i) X Y l0 [c0.val env, c1.val env, a.val env, b.val env, l.val env])
    (hk : ∀ (e : List Int) (os : List SI), InL (2 ^ (i + 1)) X Y l0 (os.map (·.val (env ++ e))) → A.fin (enc os) st0 (env ++ e)) : (lgT c0 c1 a b l ne).holds A env := by
  rw [show (2 : Int) ^ (i + 1) = 2 * 2 ^ i by rw [Int.pow_succ, Int.mul_comm]] at hk
  have hcut := pow_cut hi
  have h30 := pow_le30 hi
  generalize (2 : Int) ^ (29 - i) = R at hcut
  generalize (2 : Int) ^ i = P at *
  obtain ⟨U, V, f0, g0, f1, g1, L, hl, wU, wV, hG, hL, hall⟩ := hs
  simp only [List.cons.injEq, and_true] at hl
  obtain ⟨e0, e1, eU, eV, eL⟩ := hl
  have mr : ∀ {x : SI} (l : List Int), Bd ne x → Bd (env ++ l).length x := fun l h => h.more (by rw [hne]; simp)
  have v0 : ∀ e : List Int, c0.val (env ++ e) = pack f0 g0 := fun e => by rw [val_more (by rw [← hne]; exact b0), e0]
  have v1 : ∀ e : List Int, c1.val (env ++ e) = pack f1 g1 := fun e => by rw [val_more (by rw [← hne]; exact b1), e1]
  have vU : ∀ e : List Int, a.val (env ++ e) = U := fun e => by rw [val_more (by rw [← hne]; exact ba), eU]
  have vV : ∀ e : List Int, b.val (env ++ e) = V := fun e => by rw [val_more (by rw [← hne]; exact bb), eV]
  have vL : ∀ e : List Int, l.val (env ++ e) = L := fun e => by rw [val_more (by rw [← hne]; exact bl), eL]
  unfold lgT
  refine hold_dfn0 (v := U % 2) ?_ ?_
  · show binEv .and .u64 (a.val env) 1 = _
    rw [eU, and_one wU]
  refine hold_dfn (v := b01 (decide (U % 2 = 0))) ?_ ?_
  · show b01 (cmpEv .eql ((SI.var ne).val _) 0) = _
    rw [var_at0 hne]
    rfl
  refine ⟨fun h1 => ?_, fun h1 => ?_⟩
  · rw [getD_at hne] at h1
    have hev : U % 2 = 0 := of_decide_eq_true ((b01_one _).1 h1)
    refine hold_dfn (v := U / 2) ?_ ?_
    · show binEv .quo .u64 (a.val _) 2 = _
      rw [vU, quo_two wU]
    refine t8T_ok (by simp [hne]) (bl.more (by omega)) (b1.more (by omega)) (vV _) wV (vL _) hL (v1 _) ?_
    intro e c' l' hc' hl'
    rw [List.append_assoc]
    rw [List.append_assoc] at hc' hl'
    refine hk _ _ ⟨U / 2, V, f0, g0, 2 * f1, 2 * g1, L * tw V, ?_, wd_half wU, wV, hG.even hev, pm_tw hL V, fun s e a b hn => ?_⟩
    · simp only [List.map_cons, List.map_nil, v0, vV, var_at hne, hc', hl']
      rfl
    · obtain ⟨A, B, h⟩ := hall s e a b hn
      exact ⟨_, _, h.even hn hcut hev⟩
  · rw [getD_at hne] at h1
    have hod : ¬ U % 2 = 0 := of_decide_eq_false ((b01_zero _).1 h1)
    have hod : U % 2 = 1 := by omega
    have hd : (((U.toNat + 18446744073709551616 - V.toNat - (0 : Int).toNat) % 18446744073709551616 : Nat) : Int) = IntKind.u64.wrap (U - V) := by
      obtain ⟨h3, h4⟩ := wU
      obtain ⟨h5, h6⟩ := wV
      rw [IntKind.wrap_u64]
      show (((U.toNat + 18446744073709551616 - V.toNat - 0) % 18446744073709551616 : Nat) : Int) = _
      omega
    refine hold_dfn (v := IntKind.u64.wrap (U - V)) ?_ ?_
    · show ((((a.val _).toNat + 18446744073709551616 - (b.val _).toNat - (0 : Int).toNat) % 18446744073709551616 : Nat) : Int) = _
      rw [vU, vV, hd]
    refine hold_dfn (v := b01 (decide (U < V))) ?_ ?_
    · show b01 (decide ((a.val _).toNat < (b.val _).toNat + (0 : Int).toNat)) = _
      rw [vU, vV]
      congr 1
      rw [decide_eq_decide]
      obtain ⟨h3, h4⟩ := wU
      obtain ⟨h5, h6⟩ := wV
      show U.toNat < V.toNat + 0 ↔ _
      omega
    refine hold_dfn (v := b01 (decide (U < V))) ?_ ?_
    · show b01 (cmpEv .eql ((SI.var (ne + 3)).val _) 1) = _
      rw [var_at hne]
      show b01 (b01 (decide (U < V)) == 1) = _
      cases decide (U < V) <;> rfl
    refine ⟨fun h2 => ?_, fun h2 => ?_⟩
    · rw [getD_at hne] at h2
      have hlt : U < V := of_decide_eq_true ((b01_one _).1 h2)
      have wVU : Wd (V - U) := by
        obtain ⟨h3, h4⟩ := wU
        obtain ⟨h5, h6⟩ := wV
        exact ⟨by omega, by omega⟩
      have sw : ∀ (l2 : SI) (m : Nat) (el : List Int), m = (env ++ el).length → Bd m l2 → l2.val (env ++ el) = L * rw' V U → (lgS c0 c1 a b l2 m).holds A (env ++ el) := by
        intro l2 m el hm b2 h2
        have hle : ne ≤ m := by rw [hm, hne]; simp
        unfold lgS
        refine hold_dfn (v := V - U) ?_ ?_
        · show IntKind.u64.wrap (b.val _ - a.val _) = _
          rw [vU, vV, IntKind.wrap_u64]
          obtain ⟨h3, h4⟩ := wVU
          omega
        rw [← List.append_assoc]
        refine hold_dfn (v := (V - U) / 2) ?_ ?_
        · show binEv .quo .u64 ((SI.var m).val _) 2 = _
          rw [var_at0 hm]
          exact quo_two wVU
        refine hold_dfn (v := pack (f1 - f0) (g1 - g0)) ?_ ?_
        · show binEv .sub .i64 (c1.val _) (c0.val _) = _
          rw [List.append_assoc, v0, v1, pack_sub]
        rw [List.append_assoc]
        refine t8T_ok (L := L * rw' V U) (by simp [hm]; omega) (b2.more (by omega)) (b0.more (by omega)) (vU _) wU ?_ (pm_rw hL _ _) (v0 _) ?_
        · rw [← List.append_assoc, val_more (by rw [← hm]; exact b2), h2]
        intro e c' l' hc' hl'
        have ee : env ++ (el ++ ([V - U] ++ [(V - U) / 2] ++ [pack (f1 - f0) (g1 - g0)])) ++ e = env ++ (el ++ ([V - U] ++ [(V - U) / 2] ++ [pack (f1 - f0) (g1 - g0)]) ++ e) := by simp
        rw [ee] at hc' hl' ⊢
        refine hk _ _ ⟨(V - U) / 2, U, f1 - f0, g1 - g0, 2 * f0, 2 * g0, L * rw' V U * tw U, ?_, wd_half wVU, wU, hG.swap hod hlt, pm_tw (pm_rw hL _ _) U, fun s e a b hn => ?_⟩
        · have x1 : (SI.var (m + 2)).val (env ++ (el ++ ([V - U] ++ [(V - U) / 2] ++ [pack (f1 - f0) (g1 - g0)]) ++ e)) = pack (f1 - f0) (g1 - g0) := by
            rw [List.append_assoc, ← List.append_assoc env, var_at hm]; rfl
          have x2 : (SI.var (m + 1)).val (env ++ (el ++ ([V - U] ++ [(V - U) / 2] ++ [pack (f1 - f0) (g1 - g0)]) ++ e)) = (V - U) / 2 := by
            rw [List.append_assoc, ← List.append_assoc env, var_at hm]; rfl
          simp only [List.map_cons, List.map_nil, vU, hc', hl', x1, x2]
        · obtain ⟨A, B, h⟩ := hall s e a b hn
          exact ⟨_, _, h.swap hn hcut h30 hod hlt⟩
      refine hold_dfn (v := V % 4) ?_ ?_
      · show binEv .and .u64 (b.val _) 3 = _
        rw [vV, and_three wV]
      refine hold_dfn (v := b01 (decide (V % 4 = 3))) ?_ ?_
      · show b01 (cmpEv .eql ((SI.var (ne + 5)).val _) 3) = _
        rw [var_at hne]; rfl
      refine ⟨fun h3 => ?_, fun h3 => ?_⟩
      · rw [getD_at hne] at h3
        have h3 : V % 4 = 3 := of_decide_eq_true ((b01_one _).1 h3)
        refine hold_dfn (v := U % 4) ?_ ?_
        · show binEv .and .u64 (a.val _) 3 = _
          rw [vU, and_three wU]
        refine hold_dfn (v := b01 (decide (U % 4 = 3))) ?_ ?_
        · show b01 (cmpEv .eql ((SI.var (ne + 7)).val _) 3) = _
          rw [var_at hne]; rfl
        refine ⟨fun h4 => ?_, fun h4 => ?_⟩
        · rw [getD_at hne] at h4
          have h4 : U % 4 = 3 := of_decide_eq_true ((b01_one _).1 h4)
          refine hold_dfn (v := -L) ?_ ?_
          · show binEv .sub .i64 0 (l.val _) = _
            rw [vL, sub_zero64 hL]
          refine sw _ _ _ (by simp [hne]) (show ne + 9 < ne + 10 by omega) ?_
          rw [var_at hne]
          show -L = _
          unfold rw'; rw [if_pos ⟨h3, h4⟩]; omega
        · rw [getD_at hne] at h4
          have h4 : ¬ U % 4 = 3 := of_decide_eq_false ((b01_zero _).1 h4)
          refine sw _ _ _ (by simp [hne]) (bl.more (by omega)) ?_
          rw [vL]
          unfold rw'; rw [if_neg (fun h => h4 h.2)]; omega
      · rw [getD_at hne] at h3
        have h3 : ¬ V % 4 = 3 := of_decide_eq_false ((b01_zero _).1 h3)
        refine sw _ _ _ (by simp [hne]) (bl.more (by omega)) ?_
        rw [vL]
        unfold rw'; rw [if_neg (fun h => h3 h.1)]; omega
    · rw [getD_at hne] at h2
      have hge : ¬ U < V := of_decide_eq_false ((b01_zero _).1 h2)
      have hUV : IntKind.u64.wrap (U - V) = U - V := by
        rw [IntKind.wrap_u64]
        obtain ⟨h3, h4⟩ := wU
        obtain ⟨h5, h6⟩ := wV
        omega
      have wUV : Wd (U - V) := by
        obtain ⟨h3, h4⟩ := wU
        obtain ⟨h5, h6⟩ := wV
        exact ⟨by omega, by omega⟩
      rw [hUV]
      refine hold_dfn (v := (U - V) / 2) ?_ ?_
      · show binEv .quo .u64 ((SI.var (ne + 2)).val _) 2 = _
        rw [var_at hne]
        exact quo_two wUV
      refine hold_dfn (v := pack (f0 - f1) (g0 - g1)) ?_ ?_
      · show binEv .sub .i64 (c0.val _) (c1.val _) = _
        rw [v0, v1, pack_sub]
      refine t8T_ok (by simp [hne]) (bl.more (by omega)) (b1.more (by omega)) (vV _) wV (vL _) hL (v1 _) ?_
      intro e c' l' hc' hl'
      rw [List.append_assoc]
      rw [List.append_assoc] at hc' hl'
      refine hk _ _ ⟨(U - V) / 2, V, f0 - f1, g0 - g1, 2 * f1, 2 * g1, L * tw V, ?_, wd_half wUV, wV, hG.odd hod (by omega), pm_tw hL V, fun s e a b hn => ?_⟩
      · simp only [List.map_cons, List.map_nil, vV, var_at hne, hc', hl']
        rfl
      · obtain ⟨A, B, h⟩ := hall s e a b hn
        exact ⟨_, _, h.odd hn hcut hod (by omega)⟩
end Eng
