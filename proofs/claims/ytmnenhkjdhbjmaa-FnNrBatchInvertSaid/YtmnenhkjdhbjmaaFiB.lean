/-
  BatchInvert, walked by hand, its calls by their contracts: the inverse of each element, 0 for 0. No conditions.
-/
import Derived.Test.YtmnenhkjdhbjmaaFiX
import Derived.Lib.Hide
namespace Go.Proofs.Ytmnenhkjdhbjmaa
open Go Eng Go.RowKit
set_option maxRecDepth 100000
/-- The products of what is not 0, so far. -/
def Pre (X : Nat → List Int) : Nat → List Int → Prop
  | 0, s => s = one
  | k + 1, s => ∃ p, Pre X k p ∧ (vw (X k) = 0 → s = p) ∧ (vw (X k) ≠ 0 → MulM 4 prime p (X k) s)
theorem pr_q : NT.Pr (vw prime).toNat := by
  have : (vw prime).toNat = 21888242871839275222246405745257275088548364400416034343698204186575808495617 := by decide +kernel
  rw [this]
  exact NT.pr_nr
theorem q_mul {a b : Int} (h : vw prime ∣ a * b) : vw prime ∣ a ∨ vw prime ∣ b := by
  have hq : ((vw prime).toNat : Int) = vw prime := Int.toNat_of_nonneg (by decide)
  rw [← hq] at h ⊢
  have h := Int.ofNat_dvd_left.1 h
  rw [Int.natAbs_mul] at h
  rcases NT.pr_mul pr_q h with h | h
  · exact Or.inl (Int.ofNat_dvd_left.2 h)
  · exact Or.inr (Int.ofNat_dvd_left.2 h)
theorem small_zero {x : Int} (h0 : 0 ≤ x) (h : x < vw prime) (hd : vw prime ∣ x) : x = 0 := by
  have := Int.emod_eq_zero_of_dvd hd
  rwa [Int.emod_eq_of_lt h0 h] at this
theorem q_r {x : Int} (h : vw prime ∣ x * BW ^ 4) : vw prime ∣ x := by
  rw [bw_two] at h
  exact odd_dvd_pow q_odd _ h
theorem one_nz : vw one ≠ 0 := by decide
theorem pre_ok {X : Nat → List Int} {len : Nat} (hX : ∀ i, i < len → (X i).length = 4 ∧ Wds (X i) ∧ vw (X i) < vw prime) : ∀ (k : Nat) (s : List Int), k ≤ len → Pre X k s → s.length = 4 ∧ Wds s ∧ vw s < vw prime ∧ vw s ≠ 0
  | 0, s, _, h => by
    have h : s = one := h
    subst h
    exact ⟨rfl, one_wd, one_lt, one_nz⟩
  | k + 1, s, hk, h => by
    obtain ⟨p, hp, h0, h1⟩ := h
    obtain ⟨lp, wp, bp, np⟩ := pre_ok hX k p (by omega) hp
    by_cases hz : vw (X k) = 0
    · rw [h0 hz]; exact ⟨lp, wp, bp, np⟩
    · obtain ⟨ls', ws, bs, ds⟩ := h1 hz
      refine ⟨ls', ws, bs, fun hs => ?_⟩
      rw [hs, Int.zero_mul] at ds
      have ds : vw prime ∣ vw p * vw (X k) := by
        have := Int.dvd_neg.2 ds
        rwa [show -(0 - vw p * vw (X k)) = vw p * vw (X k) by omega] at this
      obtain ⟨_, wx, bx⟩ := hX k (by omega)
      rcases q_mul ds with h | h
      · exact np (small_zero (vw_bounds wp).1 bp h)
      · exact hz (small_zero (vw_bounds wx).1 bx h)
theorem two_steps {p x p' s r s' R q : Int} (h1 : q ∣ p' * R - p * x) (h2 : q ∣ p' * s - R * R) (h3 : q ∣ r * R - p * s) (h4 : q ∣ s' * R - s * x) : q ∣ (x * r - R * R) * R ∧ q ∣ (p * s' - R * R) * R := by
  obtain ⟨a, ha⟩ := h1
  obtain ⟨b, hb⟩ := h2
  obtain ⟨c, hc⟩ := h3
  obtain ⟨d, hd⟩ := h4
  constructor
  · refine ⟨x * c - s * a + R * b, ?_⟩
    have : q * (x * c - s * a + R * b) = x * (q * c) - s * (q * a) + R * (q * b) := by grind
    rw [this, ← ha, ← hb, ← hc]
    grind
  · refine ⟨p * d - s * a + R * b, ?_⟩
    have : q * (p * d - s * a + R * b) = p * (q * d) - s * (q * a) + R * (q * b) := by grind
    rw [this, ← ha, ← hb, ← hd]
    grind
theorem inv_zero {x : List Int} (h : vw x = 0) : InvP 4 prime x (List.replicate 4 0) := ⟨by simp, wds_zeros _, by rw [vw_zeros]; decide, fun _ => vw_zeros _, fun hn => absurd h hn⟩
theorem inv_one {x r r' : List Int} (wx : Wds x) (bx : vw x < vw prime) (h : InvP 4 prime x r) (h' : InvP 4 prime x r') : r = r' := by
  obtain ⟨l1, w1, b1, z1, d1⟩ := h
  obtain ⟨l2, w2, b2, z2, d2⟩ := h'
  refine vw_inj (l1.trans l2.symm) w1 w2 ?_
  by_cases hz : vw x = 0
  · rw [z1 hz, z2 hz]
  · have hd := Int.dvd_sub (d1 hz) (d2 hz)
    rw [show vw x * vw r - BW ^ 4 * BW ^ 4 - (vw x * vw r' - BW ^ 4 * BW ^ 4) = vw x * (vw r - vw r') by rw [Int.mul_sub]; omega] at hd
    have p1 := (vw_bounds w1).1
    have p2 := (vw_bounds w2).1
    rcases q_mul hd with h | h
    · exact absurd (small_zero (vw_bounds wx).1 bx h) hz
    · have := Int.emod_eq_emod_iff_emod_sub_eq_zero.2 (Int.emod_eq_zero_of_dvd h)
      rwa [Int.emod_eq_of_lt p1 b1, Int.emod_eq_of_lt p2 b2] at this
/-! ### the walk -/
def Zk (X : Nat → List Int) (k j : Nat) : Bool := decide (j < k ∧ vw (X j) = 0)
theorem zk_same {X : Nat → List Int} {k : Nat} (h : vw (X k) ≠ 0) : Zk X (k + 1) = Zk X k := by
  funext j
  unfold Zk
  rw [decide_eq_decide]
  constructor
  · rintro ⟨h1, h2⟩
    refine ⟨?_, h2⟩
    rcases Nat.lt_succ_iff_lt_or_eq.1 h1 with h1 | rfl
    · exact h1
    · exact absurd h2 h
  · rintro ⟨h1, h2⟩
    exact ⟨by omega, h2⟩
theorem zk_more {X : Nat → List Int} {k : Nat} (h : vw (X k) = 0) : (fun j => if j = k then true else Zk X k j) = Zk X (k + 1) := by
  funext j
  unfold Zk
  by_cases hj : j = k
  · subst hj
    rw [if_pos rfl, decide_eq_true ⟨Nat.lt_succ_self _, h⟩]
  · rw [if_neg hj, decide_eq_decide]
    constructor
    · rintro ⟨h1, h2⟩; exact ⟨by omega, h2⟩
    · rintro ⟨h1, h2⟩; exact ⟨by omega, h2⟩
def BatchR (len : Nat) (X : Nat → List Int) (w w' : World) (e : Ending) : Prop := ∃ (g : Nat) (R : Nat → List Int), e = .returned (.slice (some ⟨g, 0, none⟩) len len) ∧ w.heap.size ≤ g ∧ (∀ i, i < len → InvP 4 prime (X i) (R i)) ∧ (∀ i, i < len → Cells w' g (i * 4) 4 (R i))
def L1 (len bA : Nat) (X : Nat → List Int) (w : World) (k : Nat) (wr : World) : Prop := ∃ s R, Mid len bA w (Zk X k) s R wr ∧ Pre X k s ∧ (∀ j, j < k → vw (X j) ≠ 0 → Pre X j (R j)) ∧ (∀ j, j < len → ¬ (j < k ∧ vw (X j) ≠ 0) → R j = List.replicate 4 0)
def L2 (len bA : Nat) (X : Nat → List Int) (w : World) (k : Nat) (wr : World) : Prop := ∃ s R, Mid len bA w (Zk X len) s R wr ∧ (∃ p, Pre X k p ∧ vw prime ∣ vw p * vw s - BW ^ 4 * BW ^ 4) ∧ (∀ j, j < k → vw (X j) ≠ 0 → Pre X j (R j)) ∧ (∀ j, j < len → vw (X j) = 0 → R j = List.replicate 4 0) ∧
  (∀ j, k ≤ j → j < len → vw (X j) ≠ 0 → InvP 4 prime (X j) (R j))
theorem oneV_call (w : World) : Calls Try.prog 23 #[] w fun e w' => e = .returned (.agg #[.int .u64 12436184717236109307, .int .u64 3962172157175319849, .int .u64 7381016538464732718, .int .u64 1011752739694698287]) ∧ Below w.heap.size w w' := oneE_call w
theorem zero_yes {b o : Nat} {xs : List Int} (lx : xs.length = 4) (wx : Wds xs) (h0 : vw xs = 0) {w : World} (h : Cells w b o 4 xs) : Calls Try.prog 26 #[.pointer (some ⟨b, o, none⟩)] w fun e w' => e = .returned (.bool true) ∧ Below w.heap.size w w' :=
  (zero_call lx wx h).mono fun e w' ⟨he, hb⟩ => ⟨by rw [he, decide_eq_true h0], hb⟩
theorem zero_no {b o : Nat} {xs : List Int} (lx : xs.length = 4) (wx : Wds xs) (h0 : vw xs ≠ 0) {w : World} (h : Cells w b o 4 xs) : Calls Try.prog 26 #[.pointer (some ⟨b, o, none⟩)] w fun e w' => e = .returned (.bool false) ∧ Below w.heap.size w w' :=
  (zero_call lx wx h).mono fun e w' ⟨he, hb⟩ => ⟨by rw [he, decide_eq_false h0], hb⟩
theorem range_of {w : World} {b o : Nat} {x0 x1 x2 x3 : Int} (h : Cells w b o 4 [x0, x1, x2, x3]) : w.rangeAt b o [.int .u64 x0, .int .u64 x1, .int .u64 x2, .int .u64 x3] := fun j v hj => by
  have hj' : j < 4 := by have := (List.getElem?_eq_some_iff.1 hj).1; simpa using this
  rw [h j hj']
  match j, hj' with
  | 0, _ | 1, _ | 2, _ | 3, _ => exact hj
theorem there_of {len bA : Nat} {w wr : World} {Z : Nat → Bool} {s : List Int} {R : Nat → List Int} (h : Mid len bA w Z s R wr) {k : Nat} (hk : k < len) : wr.there w.heap.size (k * 4) 4 := fun j hj => by
  have hb : k * 4 + j < len * 4 := by
    have : (k + 1) * 4 ≤ len * 4 := Nat.mul_le_mul_right _ hk
    omega
  exact ⟨by rw [h.rows k hk j hj]; rfl, h.rf _ hb⟩
theorem zk_zero (X : Nat → List Int) (j : Nat) : Zk X 0 j = false := decide_eq_false (fun h => absurd h.1 (by omega))
theorem mid_start {X : Nat → List Int} {w w1 : World} {len : Nat}
    (hb : Below ((w.alloc (.cells (madeCells #[.int .u64 0, .int .u64 0, .int .u64 0, .int .u64 0] (len * 4)) 40)).alloc (.cells (madeCells #[.bool false] len) 4)).heap.size ((w.alloc (.cells (madeCells #[.int .u64 0, .int .u64 0, .int .u64 0, .int .u64 0] (len * 4)) 40)).alloc (.cells (madeCells #[.bool false] len) 4)) w1) :
    Mid len w1.heap.size w (Zk X 0) one (fun _ => List.replicate 4 0) (w1.alloc (.cells #[.int .u64 12436184717236109307, .int .u64 3962172157175319849, .int .u64 7381016538464732718, .int .u64 1011752739694698287] 40)) := by
  have hs1 := hb.size
  have e1 := size_alloc w (.cells (madeCells #[.int .u64 0, .int .u64 0, .int .u64 0, .int .u64 0] (len * 4)) 40)
  have hE := fun j (hj : j < len) => made_els (w := w) hj
  have fE : ∀ o, (w.alloc (.cells (madeCells #[.int .u64 0, .int .u64 0, .int .u64 0, .int .u64 0] (len * 4)) 40)).frozen? ⟨w.heap.size, o, none⟩ = false := fun o => by simp
  have bE := (Below.refl w.heap.size w).alloc (Nat.le_refl _) (.cells (madeCells #[.int .u64 0, .int .u64 0, .int .u64 0, .int .u64 0] (len * 4)) 40)
  generalize w.alloc (.cells (madeCells #[.int .u64 0, .int .u64 0, .int .u64 0, .int .u64 0] (len * 4)) 40) = wE at *
  have e2 := size_alloc wE (.cells (madeCells #[.bool false] len) 4)
  have hB := fun j (hj : j < len) => made_bools (w := wE) hj
  have fB : ∀ o, (wE.alloc (.cells (madeCells #[.bool false] len) 4)).frozen? ⟨wE.heap.size, o, none⟩ = false := fun o => by simp
  have bB := (Below.refl wE.heap.size wE).alloc (Nat.le_refl _) (.cells (madeCells #[.bool false] len) 4)
  generalize wE.alloc (.cells (madeCells #[.bool false] len) 4) = wB at *
  have e3 := size_alloc w1 (.cells #[.int .u64 12436184717236109307, .int .u64 3962172157175319849, .int .u64 7381016538464732718, .int .u64 1011752739694698287] 40)
  have hO : Cells (w1.alloc (.cells #[.int .u64 12436184717236109307, .int .u64 3962172157175319849, .int .u64 7381016538464732718, .int .u64 1011752739694698287] 40)) w1.heap.size 0 4 one := fun j hj => by
    rw [Nat.zero_add, World.cell?_alloc_new]
    match j, hj with
    | 0, _ | 1, _ | 2, _ | 3, _ => rfl
  have fO : ∀ o, (w1.alloc (.cells #[.int .u64 12436184717236109307, .int .u64 3962172157175319849, .int .u64 7381016538464732718, .int .u64 1011752739694698287] 40)).frozen? ⟨w1.heap.size, o, none⟩ = false := fun o => by simp
  have bO := (Below.refl w1.heap.size w1).alloc (Nat.le_refl _) (.cells #[.int .u64 12436184717236109307, .int .u64 3962172157175319849, .int .u64 7381016538464732718, .int .u64 1011752739694698287] 40)
  generalize w1.alloc (.cells #[.int .u64 12436184717236109307, .int .u64 3962172157175319849, .int .u64 7381016538464732718, .int .u64 1011752739694698287] 40) = wO at *
  have hbB : Below wB.heap.size wB wO := hb.trans (bO.mono (by omega))
  refine ⟨(bE.trans (bB.mono (by omega))).trans (hbB.mono (by omega)), fun j hj => ?_, fun j hj => ⟨rfl, wds_zeros _⟩, fun o ho => ?_, fun j hj => ?_, fun j hj => ?_, hO, fun j hj => fO _, ⟨rfl, one_wd, one_lt⟩, by omega⟩
  · exact cells_below hbB (by omega) (cells_below bB (by omega) (hE j hj))
  · rw [hbB.frozen (show w.heap.size < wB.heap.size by omega), bB.frozen (show w.heap.size < wE.heap.size by omega)]
    exact fE o
  · rw [hbB.cell (show w.heap.size + 1 < wB.heap.size by omega), zk_zero, ← e1]
    exact hB j hj
  · rw [hbB.frozen (show w.heap.size + 1 < wB.heap.size by omega), ← e1]
    exact fB j
theorem pre_one {X : Nat → List Int} : ∀ (k : Nat) (s s' : List Int), Pre X k s → Pre X k s' → s = s'
  | 0, s, s', h, h' => Eq.trans (show s = one from h) (Eq.symm (show s' = one from h'))
  | k + 1, s, s', h, h' => by
    obtain ⟨p, hp, h0, h1⟩ := h
    obtain ⟨p', hp', h0', h1'⟩ := h'
    have e := pre_one k p p' hp hp'
    subst e
    by_cases hz : vw (X k) = 0
    · rw [h0 hz, h0' hz]
    · exact mul_same q_odd (h1 hz) (h1' hz)
theorem Mid.drew {len bA : Nat} {w wr : World} {Z : Nat → Bool} {s : List Int} {R : Nat → List Int} (h : Mid len bA w Z s R wr) : Mid len bA w Z s R wr.drew :=
  ⟨h.below.drew, h.rows, h.rl, h.rf, h.zs, h.zf, h.acc, h.af, h.sl, h.hA⟩
set_option maxHeartbeats 400000 in
theorem batch_call {o : Option Addr} {b off len cap : Nat} {X : Nat → List Int} {w : World} (hL : Lies w o b off len X) (hX : ∀ i, i < len → vw (X i) < vw prime) (hlen : len ≤ 2147483647) :
    Calls Try.prog 21 #[.slice o len cap] w fun e w' => BatchR len X w w' e ∧ Below w.heap.size w w' := by
  have hm1 := run_make_els hlen
  have hm2 := run_make_bools hlen
  go_enter Try.func21, Try.ntmps21
  go_upto_region 4 with fail
  · have hl0 : len = 0 := by
      have h0 : ((len : Int) == 0) = true := by assumption
      simpa using h0
    clear hm1 hm2
    go_ret
    subst hl0
    exact ⟨⟨w.heap.size, fun _ => [], rfl, Nat.le_refl _, fun i hi => absurd hi (by omega), fun i hi => absurd hi (by omega)⟩, (Below.refl _ _).alloc (Nat.le_refl _) _⟩
  · have hp : 0 < len := by
      have h0 : ((len : Int) == 0) = false := by assumption
      simp at h0
      omega
    clear hm1
    go_wp2_with (go_at_call 23; refine (oneV_call _).mono ?_; rintro e w1 ⟨rfl, hb1⟩)
    clear hm2
    have hms := mid_start (X := X) hb1
    obtain rfl := hL.ad hp
    have hbl := hL.lt hp
    clear hb1
    go_loopw [6, 21] (fun _ i wr => ∃ k : Nat, k ≤ len ∧ i = .int .i64 k ∧ L1 len w1.heap.size X w k wr) (fun _ i _ => len - (intOf i).toNat)
    case atStart =>
      exact ⟨0, Nat.zero_le _, rfl, one, fun _ => List.replicate 4 0, hms, rfl, fun j hj => absurd hj (by omega), fun j _ _ => rfl⟩
    case round =>
      obtain ⟨k, hk, rfl, s, R, hM, hP, hR, hR0⟩ := hrel
      clear hms
      go_upto_region 9 with fail
      · have hk' : k < len := by assumption
        have hXk := hL.el k hk'
        have hXq := hX k hk'
        have hcX := cells_below hM.below hbl (hL.cells k hk')
        by_cases hz : vw (X k) = 0
        · go_wp2_with (go_at_call 26; refine (zero_yes hXk.1 hXk.2 hz hcX).mono ?_; rintro e w2 ⟨rfl, hb2⟩; have hM2 := hM.more hb2; have hc2 := hM2.zs k hk'; have hf2 := hM2.zf k hk')
          go_roundw
          case rel =>
            refine ⟨k + 1, by omega, by go_num, s, R, ?_, ⟨s, hP, fun _ => rfl, fun h => absurd hz h⟩, fun j hj hn => ?_, fun j hj hn => hR0 j hj (fun h => hn ⟨by omega, h.2⟩)⟩
            · have := hM2.setZ hk'
              rw [zk_more hz] at this
              exact this
            · rcases Nat.lt_succ_iff_lt_or_eq.1 hj with h | rfl
              · exact hR j h hn
              · exact absurd hz hn
          case measure => simp [intOf]; omega
        · obtain ⟨s0, s1, s2, s3, rfl⟩ := lenX hM.sl.1
          go_upto_region 11 with (go_at_call 26; refine (zero_no hXk.1 hXk.2 hz hcX).mono ?_; rintro e w2 ⟨rfl, hb2⟩)
          have hM2 := hM.more hb2
          have hrg := range_of hM2.acc
          have hth := there_of hM2 hk'
          go_upto_region 12 with (first
            | (refine wpList_load_mid rfl 40 (.tmp 5) rfl w1.heap.size 0 rfl [.int .u64 s0, .int .u64 s1, .int .u64 s2, .int .u64 s3] _ hrg Try.underlying40 rfl (by kernel_rfl) ?_)
            | (refine wpList_store_mid rfl 40 (.tmp 34) (.tmp 33) rfl w.heap.size (k * 4) #[.int .u64 s0, .int .u64 s1, .int .u64 s2, .int .u64 s3] rfl rfl hth (by kernel_rfl) (by simp [Value.oneCell']) ?_))
          have hM3 : Mid len w1.heap.size w (Zk X k) [s0, s1, s2, s3] (put R k [s0, s1, s2, s3]) (w2.setCells w.heap.size (k * 4) [.int .u64 s0, .int .u64 s1, .int .u64 s2, .int .u64 s3]) := hM2.setR hk' (r := [s0, s1, s2, s3]) ⟨rfl, hM.sl.2.1⟩
          generalize w2.setCells w.heap.size (k * 4) [.int .u64 s0, .int .u64 s1, .int .u64 s2, .int .u64 s3] = w4 at *
          clear hrg hth hM2 hb2
          go_wp2_with (go_at_call 25; refine (mulZ_call (zs := [s0, s1, s2, s3]) (ys := X k) rfl hXk.1 hM.sl.2.1 hXk.2 hXq hM3.acc (cells_below hM3.below hbl (hL.cells k hk')) hM3.af (by have := hM.hA; omega)).mono ?_; rintro e w3 ⟨r, hr, rfl, hcr, hTr⟩)
          go_roundw
          case rel =>
            refine ⟨k + 1, by omega, by go_num, r, put R k [s0, s1, s2, s3], ?_, ⟨_, hP, fun h => absurd h hz, fun _ => hr⟩, fun j hj hn => ?_, fun j hj hn => ?_⟩
            · rw [zk_same hz]
              exact hM3.touchA hTr hcr ⟨hr.1, hr.2.1, hr.2.2.1⟩
            · rcases Nat.lt_succ_iff_lt_or_eq.1 hj with h | rfl
              · rw [put_ne _ _ (by omega)]
                exact hR j h hn
              · rw [put_same]
                exact hP
            · rw [put_ne _ _ (fun h => hn (by subst h; exact ⟨by omega, hz⟩))]
              exact hR0 j hj (fun h => hn ⟨by omega, h.2⟩)
          case measure => simp [intOf]; omega
      · have hkl : k = len := by omega
        subst hkl
        have hel := fun i (hi : i < k) => (⟨(hL.el i hi).1, (hL.el i hi).2, hX i hi⟩ : (X i).length = 4 ∧ Wds (X i) ∧ vw (X i) < vw prime)
        have hnz : Hid (vw s ≠ 0) := (pre_ok hel k s (Nat.le_refl _) hP).2.2.2
        have hel' := Lib.hid hel
        clear hel
        go_wp2_with (go_at_call 18; refine (invZ_call hM.sl.1 hM.sl.2.1 hM.sl.2.2 hM.acc hM.af).mono ?_; rintro e w2 ⟨r, hr, rfl, hcr, hTr⟩)
        have hM2 := hM.touchA hTr hcr ⟨hr.1, hr.2.1, hr.2.2.1⟩
        have hR0' := fun j (hj : j < k) (hz : vw (X j) = 0) => hR0 j hj (fun h => h.2 hz)
        have hst : L2 k w1.heap.size X w k w2 := ⟨r, R, hM2, ⟨s, hP, hr.2.2.2.2 hnz⟩, hR, hR0', fun j h1 h2 => absurd h2 (by omega)⟩
        clear hR0' hR0 hR hnz hM2 hTr hcr hr hP hM
        go_loopw [7] (fun i wr => ∃ x : Int, -1 ≤ x ∧ x < k ∧ i = .int .i64 x ∧ L2 k w1.heap.size X w (x + 1).toNat wr) (fun i _ => (intOf i + 1).toNat)
        case atStart =>
          refine ⟨(k : Int) - 1, by omega, by omega, rfl, ?_⟩
          rw [show ((k : Int) - 1 + 1).toNat = k by omega]
          exact hst
        case round =>
          obtain ⟨x, hx1, hx2, rfl, s', R', hM', ⟨p', hp', hd⟩, hR', hZ', hI'⟩ := hrel
          clear hst
          by_cases hx0 : 0 ≤ x
          · obtain ⟨j, rfl⟩ := Int.eq_ofNat_of_zero_le hx0
            rw [show ((j : Int) + 1).toNat = j + 1 by omega] at hp' hR' hI'
            have hj : j < k := by omega
            have hXj := hel'.out j hj
            have hcX := cells_below hM'.below hbl (hL.cells j hj)
            have hcz := hM'.zs j hj
            by_cases hz : vw (X j) = 0
            · have hzt : Zk X k j = true := decide_eq_true ⟨hj, hz⟩
              rw [hzt] at hcz
              clear hzt
              go_wp2
              go_roundw
              case rel =>
                refine ⟨(j : Int) - 1, by omega, by omega, rfl, ?_⟩
                rw [show ((j : Int) - 1 + 1).toNat = j by omega]
                obtain ⟨p, hp1, hp2, _⟩ := hp'
                refine ⟨s', R', hM', ⟨p, hp1, by rw [← hp2 hz]; exact hd⟩, fun i hi hn => hR' i (by omega) hn, hZ', fun i h1 h2 hn => hI' i ?_ h2 hn⟩
                rcases Nat.lt_or_ge j i with h | h
                · exact h
                · exact absurd (show i = j by omega) (fun e => hn (by rw [e]; exact hz))
              case measure => simp [intOf]
            · have hzt : Zk X k j = false := decide_eq_false (fun h => hz h.2)
              rw [hzt] at hcz
              clear hzt
              go_upto_region 19 with fail
              obtain ⟨p, hp1, _, hp2⟩ := hp'
              have hpm := hp2 hz
              have hRj := hR' j (by omega) hz
              have hRl := hM'.rl j hj
              have hRc := hM'.rows j hj
              have hcR : ∀ i, i < 4 → wr.frozen? ⟨w.heap.size, j * 4 + i, none⟩ = false := fun i hi => hM'.rf _ (by
                have : (j + 1) * 4 ≤ k * 4 := Nat.mul_le_mul_right _ hj
                omega)
              have hbA := hM'.hA
              have hlt := hM'.lt
              have hac := hM'.acc
              have haf := hM'.af
              clear hp2
              go_region_with (go_at_call 25; refine (mulZ_call (zs := R' j) (ys := s') hRl.1 hM'.sl.1 hRl.2 hM'.sl.2.1 hM'.sl.2.2 ?_ ?_ ?_ (by omega)).mono ?_; exact hRc; exact hac; exact hcR; rintro e w3 ⟨r3, hr3, rfl, hcr3, hTr3⟩)
              have hM3 := hM'.drew.touchR hj hTr3 hcr3 ⟨hr3.1, hr3.2.1⟩
              have hcX3 := cells_below hM3.below hbl (hL.cells j hj)
              have hac3 := hM3.acc
              have haf3 := hM3.af
              clear hac haf hcR hRc hcX hcz hTr3 hcr3
              go_wp2_with (go_at_call 25; refine (mulZ_call (zs := s') (ys := X j) hM'.sl.1 hXj.1 hM'.sl.2.1 hXj.2.1 hXj.2.2 ?_ ?_ ?_ (by omega)).mono ?_; exact hac3; exact hcX3; exact haf3; rintro e w4 ⟨r4, hr4, rfl, hcr4, hTr4⟩)
              go_roundw
              case rel =>
                refine ⟨(j : Int) - 1, by omega, by omega, rfl, ?_⟩
                rw [show ((j : Int) - 1 + 1).toNat = j by omega]
                have ep := pre_one j _ _ hRj hp1
                rw [ep] at hr3
                obtain ⟨t1, t2⟩ := two_steps hpm.2.2.2 hd hr3.2.2.2 hr4.2.2.2
                refine ⟨r4, put R' j r3, hM3.touchA hTr4 hcr4 ⟨hr4.1, hr4.2.1, hr4.2.2.1⟩, ⟨p, hp1, q_r t2⟩, fun i hi hn => ?_, fun i hi hn => ?_, fun i h1 h2 hn => ?_⟩
                · rw [put_ne _ _ (by omega)]; exact hR' i (by omega) hn
                · rw [put_ne _ _ (fun e => hz (by rw [← e]; exact hn))]; exact hZ' i hi hn
                · by_cases hij : i = j
                  · subst hij
                    rw [put_same]
                    exact ⟨hr3.1, hr3.2.1, hr3.2.2.1, fun h => absurd h hz, fun _ => q_r t1⟩
                  · rw [put_ne _ _ hij]; exact hI' i (by omega) h2 hn
              case measure => simp [intOf]
          · go_wp2
            go_ret
            have hx : (x + 1).toNat = 0 := by omega
            rw [hx] at hI'
            exact ⟨⟨w.heap.size, R', rfl, Nat.le_refl _, fun i hi => by
              by_cases hz : vw (X i) = 0
              · rw [hZ' i hi hz]; exact inv_zero hz
              · exact hI' i (Nat.zero_le _) hi hz, hM'.rows⟩, hM'.below⟩
end Go.Proofs.Ytmnenhkjdhbjmaa
