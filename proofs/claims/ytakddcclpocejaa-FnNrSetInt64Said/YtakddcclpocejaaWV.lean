/-
  Numbers by words: one halving of the regular form, the law on bytes: as trees of facts, for any number of words.
-/
import Derived.Test.YtakddcclpocejaaWZ
namespace Eng
open Go

section
variable {A : Ask} {n : Nat} {q : List Int}

theorem odd_low {c : List Int} (hc : c ≠ []) : vw c % 2 = c.headD 0 % 2 := by
  match c, hc with
  | x :: l, _ =>
    simp only [vw, List.headD_cons]
    omega
/-- The top word is below half where the number is. -/
theorem top_half {h : List Int} {t : Int} (hw : Wds (h ++ [t])) (hb : 2 * vw (h ++ [t]) < BW ^ (h.length + 1)) : t < 9223372036854775808 := by
  rw [vw_snoc, Int.pow_succ] at hb
  have h0 := (vw_bounds (fun x hx => hw x (List.mem_append_left _ hx) : Wds h)).1
  have hp := bw_pos h.length
  generalize BW ^ h.length = P at *
  have : P * (2 * t) < P * BW := by
    rw [Int.mul_left_comm]
    omega
  have := Int.lt_of_mul_lt_mul_left this (by omega)
  simp only [BW] at this
  omega

def regT (n : Nat) (cur : List SI) (ne : Nat) : Tree :=
  .dfn (.bin .rem .u64) [cur.headD (.lit 0), .lit 2] (.dfn (.cmp .eql) [.var ne, .lit 1] (.br (ne + 1)
    (.hav 4 (cur ++ vr n n) (n + 1) (.hav 24 (vr (ne + 2) n) n (.br (ne + 2 + n)
      (.dfn (.bin .add .u64) [.var (ne + 3 + n + (n - 1)), .lit 9223372036854775808] (.fin (enc (vr (ne + 3 + n) (n - 1) ++ [.var (ne + 3 + n + n)])) st0))
      (.fin (enc (vr (ne + 3 + n) n)) st0))))
    (.hav 24 cur n (.fin (enc (vr (ne + 2) n)) st0))))

theorem regT_ok (hA : WAsk A n q) (hB : BAsk A n q) (hn : n ≠ 0) {cur : List SI} {ne : Nat} {env : List Int} {c m : List Int} (lc : cur.length = n) (hne : ne = env.length) (hcb : ∀ x ∈ cur, Bd ne x) (hc : cur.map (·.val env) = c) (hm : (vr n n).map (·.val env) = m)
    (wc : Wds c) (wm : Wds m) (l2 : 2 * n ≤ ne)
    (hk : ∀ (e : List Int) (os : List SI), (os.map (·.val (env ++ e))).length = n → Wds (os.map (·.val (env ++ e))) → (vw c % 2 = 0 → Half c (os.map (·.val (env ++ e)))) → (vw c % 2 = 1 → vw (os.map (·.val (env ++ e))) = (vw c + vw m) / 2) → A.fin (enc os) st0 (env ++ e)) :
    (regT n cur ne).holds A env := by
  have lcl : c.length = n := by rw [← hc]; simpa using lc
  have lm : m.length = n := by rw [← hm]; simp [vr]
  have cne : c ≠ [] := fun h => by rw [h] at lcl; simp at lcl; exact hn lcl.symm
  have hd : (cur.headD (.lit 0)).val env = c.headD 0 := by
    rw [← hc]
    cases cur <;> rfl
  intro v hv
  have hv : v = Int.tmod ((cur.headD (.lit 0)).val env) 2 := hv
  rw [hd] at hv
  have wh : Wd (c.headD 0) := by
    cases c with
    | nil => exact absurd rfl cne
    | cons x l => exact wc x (List.mem_cons_self ..)
  have hv : v = vw c % 2 := by rw [hv, odd_low cne, Int.tmod_eq_emod_of_nonneg wh.1]
  intro t ht
  have ht : t = b01 ((env ++ [v]).getD ne 0 == 1) := ht
  rw [at_end hne] at ht
  have vt : (env ++ [v] ++ [t]).getD (ne + 1) 0 = t := at_end (by simp [hne])
  have e2 : env ++ [v] ++ [t] = env ++ [v, t] := by simp
  have kc : cur.map (·.val (env ++ [v] ++ [t])) = c := by rw [e2, vals_more (fun x hx => by rw [← hne]; exact hcb x hx), hc]
  have km : (vr n n).map (·.val (env ++ [v] ++ [t])) = m := by rw [e2, vals_more (vr_bd (by omega)), hm]
  have lE : (env ++ [v] ++ [t]).length = ne + 2 := by simp [hne]
  have app : ∀ e, env ++ [v] ++ [t] ++ e = env ++ ([v, t] ++ e) := by simp
  generalize env ++ [v] ++ [t] = E at *
  refine ⟨fun h1 => ?_, fun h0 => ?_⟩
  · rw [vt, ht, b01_one, beq_iff_eq, hv] at h1
    refine ⟨by rw [vals_app kc km]; exact hA.pre _ _ (by decide) (Wds.append wc wm), fun ys _ hp => ?_⟩
    rw [vals_app kc km] at hp
    have hp := hA.plus _ _ hp
    rw [take_app lcl, drop_app lcl] at hp
    obtain ⟨o, k, rfl, lo, bk, wo, eo⟩ := hp
    have ko : (vr (ne + 2) n).map (·.val (E ++ (o ++ [k]))) = o := by rw [← List.append_assoc, vals_more (vr_bd (by simp; omega)), vals_new lE.symm (by omega)]
    refine ⟨by rw [ko]; exact hB.pre _ _ (by decide) wo, fun hs _ hp => ?_⟩
    rw [ko] at hp
    obtain ⟨lh, wh', eh⟩ := hB.half _ _ hp
    have lh : hs.length = n := by omega
    have kk : (E ++ (o ++ [k]) ++ hs).getD (ne + 2 + n) 0 = k := by
      rw [at_old (by simp; omega), ← List.append_assoc]
      exact at_end (by simp; omega)
    have kh : (vr (ne + 3 + n) n).map (·.val (E ++ (o ++ [k]) ++ hs)) = hs := vals_new (by simp; omega) lh.symm
    have lE2 : (E ++ (o ++ [k]) ++ hs).length = ne + 3 + n + n := by simp; omega
    have app2 : ∀ e, E ++ (o ++ [k]) ++ hs ++ e = env ++ ([v, t] ++ (o ++ [k]) ++ hs ++ e) := by intro e; simp only [List.append_assoc]; rw [app]
    have bo := vw_bounds wo
    rw [lo, lcl] at bo
    rw [lcl] at eo
    refine ⟨fun h2 => ?_, fun h2 => ?_⟩
    · rw [kk] at h2
      intro s hs2
      -- the top word
      have split : hs = hs.take (n - 1) ++ [hs.getD (n - 1) 0] := by
        have := List.take_append_drop (n - 1) hs
        rw [List.drop_eq_getElem_cons (by omega), List.drop_of_length_le (by omega)] at this
        rw [List.getD_eq_getElem?_getD, List.getElem?_eq_getElem (by omega)]
        exact this.symm
      have hs2 : s = IntKind.u64.wrap ((E ++ (o ++ [k]) ++ hs).getD (ne + 3 + n + (n - 1)) 0 + 9223372036854775808) := hs2
      have kt : (E ++ (o ++ [k]) ++ hs).getD (ne + 3 + n + (n - 1)) 0 = hs.getD (n - 1) 0 := by
        rw [List.getD_eq_getElem?_getD, List.getElem?_append_right (by simp; omega), List.getD_eq_getElem?_getD]
        congr 2
        simp; omega
      rw [kt] at hs2
      have ltk : (hs.take (n - 1)).length = n - 1 := by simp; omega
      have hsum : 2 * vw hs ≤ vw o := by rw [eh]; omega
      have htop : hs.getD (n - 1) 0 < 9223372036854775808 := by
        refine top_half (h := hs.take (n - 1)) (by rw [← split]; exact wh') ?_
        rw [← split, ltk, show n - 1 + 1 = n by omega]
        omega
      have wt := wh'.get (n - 1)
      have hs3 : s = hs.getD (n - 1) 0 + 9223372036854775808 := by
        rw [hs2, IntKind.wrap_u64]
        simp only [Wd] at wt
        omega
      have kt2 : (vr (ne + 3 + n) (n - 1)).map (·.val (E ++ (o ++ [k]) ++ hs ++ [s])) = hs.take (n - 1) := by
        rw [vals_more (vr_bd (by omega)), vr_vals (by omega), List.drop_left' (by simp; omega)]
      have ks : (SI.var (ne + 3 + n + n)).val (E ++ (o ++ [k]) ++ hs ++ [s]) = s := val_end lE2.symm
      have hall : (vr (ne + 3 + n) (n - 1) ++ [SI.var (ne + 3 + n + n)]).map (·.val (E ++ (o ++ [k]) ++ hs ++ [s])) = hs.take (n - 1) ++ [s] := by
        rw [List.map_append, kt2, List.map_cons, List.map_nil, ks]
      have hvs : vw (hs.take (n - 1) ++ [s]) = vw hs + BW ^ (n - 1) * 9223372036854775808 := by
        have e1 : vw hs = vw (hs.take (n - 1) ++ [hs.getD (n - 1) 0]) := by rw [← split]
        rw [e1, vw_snoc, vw_snoc, ltk, hs3, Int.mul_add]
        omega
      have hpw : BW ^ n = BW ^ (n - 1) * BW := by
        rw [← Int.pow_succ]
        congr 1
        omega
      show A.fin _ _ _
      rw [app2] at hall ⊢
      refine hk _ _ (by rw [hall]; simp; omega) ?_ (fun he => absurd he (by omega)) fun _ => ?_
      · rw [hall]
        refine Wds.append (wh'.take _) (wds_cons ⟨?_, ?_⟩ wds_nil)
        · rw [hs3]; have := wt.1; omega
        · rw [hs3]; omega
      · rw [hall, hvs, ← eo, h2, eh, hpw]
        generalize BW ^ (n - 1) = P at *
        simp only [BW]
        omega
    · rw [kk] at h2
      show A.fin _ _ _
      have e0 : E ++ (o ++ [k]) ++ hs = env ++ ([v, t] ++ (o ++ [k]) ++ hs) := by
        have := app2 []
        simpa using this
      rw [e0] at kh ⊢
      refine hk _ _ (by rw [kh]; exact lh) (by rw [kh]; exact wh') (fun he => absurd he (by omega)) fun _ => ?_
      rw [kh, ← eo, h2, Int.mul_zero, Int.add_zero]
      exact eh
  · rw [vt, ht, b01_zero, beq_eq_false_iff_ne, hv] at h0
    refine ⟨by rw [kc]; exact hB.pre _ _ (by decide) wc, fun hs _ hp => ?_⟩
    rw [kc] at hp
    have hh := hB.half _ _ hp
    have lh : hs.length = n := by rw [hh.1]; exact lcl
    have kh : (vr (ne + 2) n).map (·.val (E ++ hs)) = hs := vals_new lE.symm lh.symm
    show A.fin _ _ _
    rw [app] at kh ⊢
    exact hk _ _ (by rw [kh]; exact lh) (by rw [kh]; exact hh.2.1) (fun _ => by rw [kh]; exact hh) fun h1 => absurd h1 (by omega)

/-! ### the law on bytes -/
theorem odd_dvd {q x : Int} (hq : q % 2 = 1) (h : q ∣ x * 2) : q ∣ x := by
  obtain ⟨t, ht⟩ := h
  have : t % 2 = 0 := by
    have h1 : (q * t) % 2 = 0 := by omega
    rw [Int.mul_emod, hq] at h1
    omega
  exact ⟨t / 2, by
    have : q * t = q * (2 * (t / 2)) := by congr 1; omega
    rw [this, Int.mul_left_comm] at ht
    omega⟩
theorem odd_dvd_pow {q : Int} (hq : q % 2 = 1) : ∀ (k : Nat) {x : Int}, q ∣ x * 2 ^ k → q ∣ x
  | 0, x, h => by simpa using h
  | k + 1, x, h => by
    rw [Int.pow_succ, ← Int.mul_assoc] at h
    exact odd_dvd_pow hq k (odd_dvd hq h)
theorem bw_two (n : Nat) : BW ^ n = 2 ^ (64 * n) := by rw [Int.pow_mul]; rfl
/-- Two numbers below the prime that answer to one number. -/
theorem mont_one {z r a : List Int} (hq1 : vw q % 2 = 1) (hz : vw q ∣ vw z * BW ^ n - vw a) (hr : vw q ∣ vw r * BW ^ n - vw a) (wz : Wds z) (wr : Wds r) (lz : z.length = r.length) (h1 : vw z < vw q) (h2 : vw r < vw q) : z = r := by
  have h := Int.dvd_sub hz hr
  have e : vw z * BW ^ n - vw a - (vw r * BW ^ n - vw a) = (vw z - vw r) * BW ^ n := by rw [Int.sub_mul]; omega
  rw [e, bw_two] at h
  have hd := odd_dvd_pow hq1 _ h
  have b1 := vw_bounds wz
  have b2 := vw_bounds wr
  have : vw z - vw r = 0 := by
    obtain ⟨t, ht⟩ := hd
    rcases Int.lt_trichotomy t 0 with h | h | h
    · have : vw q * t ≤ vw q * (-1) := Int.mul_le_mul_of_nonneg_left (by omega) (by omega)
      omega
    · rw [ht, h]; simp
    · have : vw q * 1 ≤ vw q * t := Int.mul_le_mul_of_nonneg_left (by omega) (by omega)
      omega
  exact vw_inj lz wz wr (by omega)

def lawBytesT (n : Nat) (q : List Int) : Tree :=
  chkT q (vr 0 n) n (.hav 25 (vr 0 n) (8 * n) (.hav 28 (vr 0 n ++ ls q) n (.hav 26 (vr (n + 1 + 8 * n) n) (8 * n) (.hav 27 (vr (n + 1) (8 * n) ++ vr (2 * n + 1 + 8 * n) (8 * n)) 1 (.fin (enc [.var (2 * n + 1 + 16 * n)]) st0)))))
theorem by8_wd (z : Int) (s : Nat) : Wd (by8 z s) := by
  have := (fits_iff _ _).1 (fits_wrap .u8 (binEv .shr .u64 z (s : Int)))
  simp [kMin, kMax] at this
  exact ⟨this.1, by have := this.2; unfold by8; omega⟩
theorem beB_wds (z : List Int) : Wds (beB z) := by
  intro x hx
  obtain ⟨p, _, rfl⟩ := List.mem_map.1 hx
  exact by8_wd _ _
theorem beB_len (z : List Int) : (beB z).length = 8 * z.length := by simp [beB]
theorem lawBytesT_ok (hA : WAsk A n q) (hB : BAsk A n q) (hR : ∀ xs ys, A.post 28 xs ys → RegI (xs.drop n) (xs.take n) (64 * n) ys) (hq : WQ n q) (hq1 : vw q % 2 = 1) {env : List Int} (hl : env.length = n) (hw : Wds env)
    (hfin : ∀ (e : List Int) (o : SI), o.val (env ++ e) = 1 → A.fin (enc [o]) st0 (env ++ e)) : (lawBytesT n q).holds A env := by
  have h1 := one_vr hl
  refine chkT_ok hA hq vr_length hl.symm (by rw [h1]; exact hw) (fun e => hfin e (.lit 1) rfl) fun ha v => ?_
  rw [h1] at ha
  have k1 : (vr 0 n).map (·.val (env ++ [v])) = env := by rw [vals_more (vr_bd (by omega)), h1]
  have l2 : (env ++ [v]).length = n + 1 := by simp [hl]
  have e2 : ∀ e, env ++ [v] ++ e = env ++ ([v] ++ e) := by simp
  generalize hE : env ++ [v] = E at *
  refine ⟨by rw [k1]; exact hB.pre _ _ (by decide) hw, fun bs _ hp => ?_⟩
  rw [k1] at hp
  obtain ⟨z, hz, rfl⟩ := hB.bytes _ _ hp
  have lz := hz.1
  have lbz : (beB z).length = 8 * n := by rw [beB_len, lz]
  have k2 : (vr 0 n).map (·.val (E ++ beB z)) = env := by rw [vals_more (vr_bd (by omega)), k1]
  have k3 := vals_app k2 (ls_vals (q := q) (env := E ++ beB z))
  have l3 : (E ++ beB z).length = n + 1 + 8 * n := by simp; omega
  have kb : (vr (n + 1) (8 * n)).map (·.val (E ++ beB z)) = beB z := vals_new l2.symm lbz.symm
  refine ⟨by rw [k3]; exact hB.pre _ _ (by decide) (Wds.append hw hq.wd), fun r _ hp => ?_⟩
  rw [k3] at hp
  have hr := hR _ _ hp
  rw [take_app hl, drop_app hl] at hr
  obtain ⟨lr, wr, hr⟩ := hr
  obtain ⟨r1, r2⟩ := hr hq1 ha
  rw [← bw_two] at r2
  have hzr := mont_one hq1 hz.2.2.2 r2 hz.2.1 wr (by omega) hz.2.2.1 r1
  subst hzr
  have kz : (vr (n + 1 + 8 * n) n).map (·.val (E ++ beB z ++ z)) = z := vals_new l3.symm lz.symm
  have l4 : (E ++ beB z ++ z).length = 2 * n + 1 + 8 * n := by simp; omega
  refine ⟨by rw [kz]; exact hB.pre _ _ (by decide) wr, fun cs _ hp => ?_⟩
  rw [kz] at hp
  have hc := hB.ofW _ _ hp
  subst hc
  have kb2 : (vr (n + 1) (8 * n)).map (·.val (E ++ beB z ++ z ++ beB z)) = beB z := by rw [vals_more (vr_bd (by omega)), vals_more (vr_bd (by omega)), kb]
  have kb3 : (vr (2 * n + 1 + 8 * n) (8 * n)).map (·.val (E ++ beB z ++ z ++ beB z)) = beB z := vals_new l4.symm lbz.symm
  refine ⟨by rw [vals_app kb2 kb3]; exact hB.pre _ _ (by decide) (Wds.append (beB_wds z) (beB_wds z)), fun ts _ hp => ?_⟩
  rw [vals_app kb2 kb3] at hp
  have ht := hB.sameB _ _ hp
  rw [take_app lbz, drop_app lbz, decide_eq_true rfl] at ht
  subst ht
  have := hfin ([v] ++ (beB z ++ z ++ beB z ++ [b01 true])) (.var (2 * n + 1 + 16 * n)) (by
    rw [← e2, show E ++ (beB z ++ z ++ beB z ++ [b01 true]) = E ++ beB z ++ z ++ beB z ++ [b01 true] by simp]
    exact val_end (by simp; omega))
  rw [← e2, show E ++ (beB z ++ z ++ beB z ++ [b01 true]) = E ++ beB z ++ z ++ beB z ++ [b01 true] by simp] at this
  exact this
end
end Eng
