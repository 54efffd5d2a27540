/-
  Numbers by words: Montgomery's reduction of one number, halves, bytes: as trees of facts, for any number of words.
-/
import Derived.Test.YtakddcclpocejaaWX
namespace Eng
open Go

section
variable {A : Ask} {n : Nat} {q : List Int}

/-- Less the prime where it isn't below it. -/
def Red (q zs r : List Int) : Prop := r.length = zs.length ∧ Wds r ∧ vw r = if vw zs < vw q then vw zs else vw zs - vw q
theorem redT_ok (hA : WAsk A n q) (hq : WQ n q) {zs : List SI} {ne : Nat} {env : List Int} {k : List SI → Nat → Tree} (lz : zs.length = n) (hne : ne = env.length) (hz : ∀ x ∈ zs, Bd ne x)
    (wz : Wds (zs.map (·.val env)))
    (hk : ∀ (e : List Int) (os : List SI) (ne' : Nat), ROk (Red q (zs.map (·.val env))) env e os ne' n → (k os ne').holds A (env ++ e)) : (redT q zs ne k).holds A env := by
  refine ⟨hA.pre _ _ (by decide) wz, fun t _ ht => ?_⟩
  have ht := hA.small _ _ ht
  subst ht
  have vt : ∀ v : Int, (env ++ [v]).getD ne 0 = v := fun v => at_end hne
  have ho3 : ∀ v : List Int, zs.map (·.val (env ++ v)) = zs.map (·.val env) := fun v => vals_more fun z h => by rw [← hne]; exact hz z h
  have bz := vw_bounds wz
  have bq := vw_bounds hq.wd
  refine ⟨fun hb => ?_, fun hb => ?_⟩
  · rw [vt, b01_one, decide_eq_true_eq] at hb
    refine hk _ zs (ne + 1) ⟨by simp [hne], fun z h => (hz z h).more (by omega), lz, by rw [ho3]; exact wz, ?_⟩
    rw [ho3]
    exact ⟨rfl, wz, by rw [if_pos hb]⟩
  · rw [vt, b01_zero, decide_eq_false_iff_not] at hb
    refine subCh_ok zs (ls q) (.lit 0) (ne + 1) [] _ (by simp [ls, lz, hq.len]) (by simp [hne]) (fun z h => (hz z h).more (by omega)) ls_bd trivial (fun z h => by cases h) (by rw [ho3]; exact wz) (by rw [ls_vals]; exact hq.wd) (.inl rfl)
      fun e2 os2 c2 ne2 g => ?_
    obtain ⟨g1, g2, g3, g4, d2, g5, g6, g7, g8⟩ := g
    simp only [List.map_nil, List.nil_append] at g5
    rw [← g5] at g6 g7 g8
    rw [ho3, ls_vals] at g8
    simp only [val_lit, Int.add_zero] at g8
    have lo2 : os2.length = n := by simpa [lz] using g7
    have bo2 := vw_bounds g6
    rw [List.length_map, lo2] at bo2
    rw [lz] at g8
    rw [List.append_assoc] at g1 g4 g6 g8 bo2 ⊢
    refine hk _ os2 ne2 ⟨g1, g3, lo2, g6, ?_⟩
    refine ⟨by simp [lo2, lz], g6, ?_⟩
    rw [if_neg hb]
    rcases g4 with g | g <;> rw [g] at g8
    · rw [Int.mul_zero] at g8; omega
    · rw [Int.mul_one] at g8
      generalize BW ^ n = W at *
      omega

/-- One round: the number and a multiple of the prime, less one word. -/
def fmR (q : List Int) (qi : Int) (zs : List SI) (ne : Nat) (k : List SI → Nat → Tree) : Tree :=
  .dfn (.bin .mul .u64) [zs.headD (.lit 0), .lit qi] (.hav 21 [.var ne, .lit (q.headD 0), zs.headD (.lit 0)] 1 (maddCh (fun os c ne' => k (os ++ [c]) ne') (.var ne) (ls q.tail) zs.tail (.var (ne + 1)) (ne + 2) []))
/-- What is known of the prime's lowest word. -/
def QInv (q : List Int) (qi : Int) : Prop := Wd qi ∧ (q.headD 0 * qi + 1) % BW = 0
def Shr (q zs r : List Int) : Prop := r.length = zs.length ∧ Wds r ∧ ∃ m, Wd m ∧ BW * vw r = vw zs + m * vw q

theorem low_zero {q0 qi z m : Int} (h : (q0 * qi + 1) % BW = 0) (hm : m = IntKind.u64.wrap (z * qi)) : (m * q0 + z) % BW = 0 := by
  have h1 : m = z * qi - BW * ((z * qi) / BW) := by
    rw [hm, IntKind.wrap_u64]
    simp only [BW]
    omega
  have h2 : m * q0 + z = z * (q0 * qi + 1) - BW * ((z * qi) / BW * q0) := by
    rw [h1, Int.sub_mul, Int.mul_add, Int.mul_one, Int.mul_assoc, Int.mul_assoc, Int.mul_comm qi q0]
    omega
  obtain ⟨t, ht⟩ := Int.dvd_of_emod_eq_zero h
  rw [h2, ht]
  apply Int.emod_eq_zero_of_dvd
  rw [Int.mul_left_comm, ← Int.mul_sub]
  exact Int.dvd_mul_right _ _

theorem fmR_ok (hA : MAsk A) (hq : WQ n q) {qi : Int} (hqi : QInv q qi) (hn : n ≠ 0) {zs : List SI} {ne : Nat} {env : List Int} {k : List SI → Nat → Tree} (lz : zs.length = n) (hne : ne = env.length) (hz : ∀ x ∈ zs, Bd ne x)
    (wz : Wds (zs.map (·.val env)))
    (hk : ∀ (e : List Int) (os : List SI) (ne' : Nat), ROk (Shr q (zs.map (·.val env))) env e os ne' n → (k os ne').holds A (env ++ e)) : (fmR q qi zs ne k).holds A env := by
  have lq := hq.len
  have wq := hq.wd
  obtain ⟨wqi, hinv⟩ := hqi
  match q, zs, lq, lz with
  | [], _, lq, _ => exact absurd lq.symm hn
  | _ :: _, [], _, lz => exact absurd lz.symm hn
  | q0 :: qs, z :: zt, lq, lz =>
    have hinv : (q0 * qi + 1) % BW = 0 := hinv
    obtain ⟨wq0, wqs⟩ := Wds.tail wq
    obtain ⟨wz0, wzt⟩ := Wds.tail (by simpa using wz)
    have bz := hz z (List.mem_cons_self ..)
    rw [hne] at bz
    intro m hm
    have hm : m = IntKind.u64.wrap (z.val env * qi) := hm
    have wm : Wd m := by rw [hm]; exact wd_wrap _
    have vm : (SI.var ne).val (env ++ [m]) = m := val_end hne
    have vz : z.val (env ++ [m]) = z.val env := val_more bz
    refine ⟨hA.pre _ _ (by decide) (by decide) ?_, fun ys _ h => ?_⟩
    · show Wds [(SI.var ne).val (env ++ [m]), q0, z.val (env ++ [m])]
      rw [vm, vz]
      exact wds_cons wm (wds_cons wq0 (wds_cons wz0 wds_nil))
    obtain ⟨hi, lo, rfl, whi, wlo, e⟩ := hA.m0 _ _ h
    have e : BW * hi + lo = (SI.var ne).val (env ++ [m]) * q0 + z.val (env ++ [m]) := e
    rw [vm, vz] at e
    have hlo : lo = 0 := by
      have h0 := low_zero hinv hm
      rw [← e] at h0
      simp only [Wd, BW] at *
      omega
    rw [hlo, Int.add_zero] at e
    have ne2 : ne + 2 = (env ++ [m] ++ [hi]).length := by simp [hne]
    have e2 : env ++ [m] ++ [hi] = env ++ [m, hi] := by simp
    have mz : zt.map (·.val (env ++ [m] ++ [hi])) = zt.map (·.val env) := by rw [e2]; exact vals_more fun x hx => by rw [← hne]; exact hz x (List.mem_cons_of_mem _ hx)
    have vm2 : (SI.var ne).val (env ++ [m] ++ [hi]) = m := by rw [val_more (x := .var ne) (by show ne < _; simp [hne]), vm]
    have vh : (SI.var (ne + 1)).val (env ++ [m] ++ [hi]) = hi := val_end (by simp [hne])
    refine maddCh_ok hA (ls qs) zt (.var (ne + 1)) (ne + 2) [] _ (by simp [ls] at lq lz ⊢; omega) ne2 (show ne < ne + 2 by omega) ls_bd (fun x hx => (hz x (List.mem_cons_of_mem _ hx)).more (by omega)) (show ne + 1 < ne + 2 by omega) (fun z hz => by cases hz)
      (by rw [vm2]; exact wm) (by rw [ls_vals]; exact wqs) (by rw [mz]; exact wzt) (by rw [vh]; exact whi) fun e' os c' ne' g => ?_
    rw [ls_vals, mz, vm2, vh] at g
    obtain ⟨g1, g2, g3, g4, d, g5, g6, g7, g8⟩ := g
    simp only [List.map_nil, List.nil_append] at g5
    have e3 : env ++ [m] ++ [hi] ++ e' = env ++ ([m] ++ [hi] ++ e') := by simp
    have ll : (ls qs).length + 1 = n := by simp [ls] at lq ⊢; omega
    have lod : os.length = d.length := map_len g5
    have hv : (os ++ [c']).map (·.val (env ++ [m] ++ [hi] ++ e')) = d ++ [c'.val (env ++ [m] ++ [hi] ++ e')] := by rw [List.map_append, g5]; rfl
    rw [e3] at g1 g4 g8 hv ⊢
    refine hk _ (os ++ [c']) ne' ⟨g1, fun x hx => ?_, by simp [lod, g7, ll], ?_, ?_⟩
    · rcases List.mem_append.1 hx with h | h
      · exact g3 x h
      · simp at h; subst h; exact g2
    · rw [hv]; exact Wds.append g6 (wds_cons g4 wds_nil)
    · rw [hv]
      refine ⟨by rw [List.length_append, List.length_map, lz, g7]; exact ll, Wds.append g6 (wds_cons g4 wds_nil), m, wm, ?_⟩
      rw [vw_snoc, g7, g8]
      simp only [List.map_cons, vw]
      rw [Int.mul_add, Int.mul_add, Int.mul_add, e, Int.mul_left_comm]
      simp only [BW]
      omega

/-! ### many rounds -/
def fmN (q : List Int) (qi : Int) (k : List SI → Nat → Tree) : Nat → List SI → Nat → Tree
  | 0, zs, ne => k zs ne
  | r + 1, zs, ne => fmR q qi zs ne fun os ne' => fmN q qi k r os ne'
def ShrN (q : List Int) (r : Nat) (zs w : List Int) : Prop := w.length = zs.length ∧ Wds w ∧ ∃ M, 0 ≤ M ∧ M < BW ^ r ∧ BW ^ r * vw w = vw zs + M * vw q
theorem ROk.mono {R R' : List Int → Prop} {env e : List Int} {os : List SI} {ne' n : Nat} (h : ROk R env e os ne' n) (hr : ∀ l, R l → R' l) : ROk R' env e os ne' n := ⟨h.ne, h.ob, h.len, h.wd, hr _ h.val⟩
theorem bw_pos (n : Nat) : 0 < BW ^ n := Int.pow_pos (by decide)
theorem shr_step {q zs w v : List Int} {r : Nat} (h : Shr q zs w) (k : ShrN q r w v) : ShrN q (r + 1) zs v := by
  obtain ⟨h1, h2, m, hm, he⟩ := h
  obtain ⟨k1, k2, M, hM0, hM1, ke⟩ := k
  refine ⟨by omega, k2, BW * M + m, ?_, ?_, ?_⟩
  · have := Int.mul_nonneg (show (0 : Int) ≤ BW by decide) hM0
    have := hm.1
    omega
  · rw [Int.pow_succ, Int.mul_comm _ BW]
    have := mul_pos_le (P := BW) (by decide) hM1
    have := hm.2
    simp only [BW] at *
    omega
  · rw [Int.pow_succ, Int.mul_comm _ BW, Int.mul_assoc, ke, Int.mul_add, he, Int.add_mul, Int.mul_assoc]
    omega
theorem fmN_ok (hA : MAsk A) (hq : WQ n q) {qi : Int} (hqi : QInv q qi) (hn : n ≠ 0) {k : List SI → Nat → Tree} : ∀ (r : Nat) (zs : List SI) (ne : Nat) (env : List Int), zs.length = n → ne = env.length → (∀ x ∈ zs, Bd ne x) → Wds (zs.map (·.val env)) →
    (∀ (e : List Int) (os : List SI) (ne' : Nat), ROk (ShrN q r (zs.map (·.val env))) env e os ne' n → (k os ne').holds A (env ++ e)) → (fmN q qi k r zs ne).holds A env
  | 0, zs, ne, env, lz, hne, hz, wz, hk => by
    have := hk [] zs ne ⟨by simpa using hne, hz, lz, by simpa using wz, by
      refine ⟨by simp, by simpa using wz, 0, by decide, by decide, by simp⟩⟩
    simp only [List.append_nil] at this
    exact this
  | r + 1, zs, ne, env, lz, hne, hz, wz, hk => by
    refine fmR_ok hA hq hqi hn lz hne hz wz fun e os ne' h => ?_
    refine fmN_ok hA hq hqi hn r os ne' (env ++ e) h.len h.ne h.ob h.wd fun e2 os2 ne2 g => ?_
    have := hk (e ++ e2) os2 ne2 ⟨by rw [g.ne]; simp, g.ob, g.len, by rw [← List.append_assoc]; exact g.wd, by
      rw [← List.append_assoc]
      exact shr_step h.val g.val⟩
    rw [← List.append_assoc] at this
    exact this

/-- Out of Montgomery's form. -/
def Mont (n : Nat) (q zs r : List Int) : Prop := r.length = n ∧ Wds r ∧ vw r < vw q ∧ vw q ∣ vw r * BW ^ n - vw zs
theorem mont_of {zs w r : List Int} (hq0 : 0 < vw q) (lz : zs.length = n) (wz : Wds zs) (h : ShrN q n zs w) (k : Red q w r) : Mont n q zs r := by
  obtain ⟨h1, h2, M, hM0, hM1, he⟩ := h
  obtain ⟨k1, k2, ke⟩ := k
  have bz := vw_bounds wz
  rw [lz] at bz
  have hW := bw_pos n
  -- the sum is at most the prime
  have hle : vw w ≤ vw q := by
    have hMq : M * vw q ≤ (BW ^ n - 1) * vw q := Int.mul_le_mul_of_nonneg_right (by omega) (by omega)
    have : BW ^ n * vw w < BW ^ n * (vw q + 1) := by
      rw [he, Int.mul_add, Int.mul_one]
      rw [Int.sub_mul, Int.one_mul] at hMq
      omega
    have := Int.lt_of_mul_lt_mul_left this (by omega)
    omega
  refine ⟨by omega, k2, ?_, ?_⟩
  · rw [ke]; split <;> omega
  · have hd : vw q ∣ BW ^ n * vw w - vw zs := ⟨M, by rw [he, Int.mul_comm (vw q)]; omega⟩
    rw [ke]
    split
    · rw [Int.mul_comm]; exact hd
    · rw [Int.sub_mul, Int.mul_comm (vw w)]
      have : BW ^ n * vw w - vw q * BW ^ n - vw zs = (BW ^ n * vw w - vw zs) - vw q * BW ^ n := by omega
      rw [this]
      exact Int.dvd_sub hd (Int.dvd_mul_right _ _)
def fromT (n : Nat) (q : List Int) (qi : Int) : Tree := fmN q qi (fun os ne => redT q os ne fun rs _ => .fin (enc rs) st0) n (vr 0 n) n
theorem fromT_ok (hW : WAsk A n q) (hA : MAsk A) (hq : WQ n q) (hq0 : 0 < vw q) {qi : Int} (hqi : QInv q qi) (hn : n ≠ 0) {env : List Int} (hl : env.length = n) (hw : Wds env)
    (hk : ∀ (e : List Int) (os : List SI), Mont n q env (os.map (·.val (env ++ e))) → A.fin (enc os) st0 (env ++ e)) : (fromT n q qi).holds A env := by
  have h1 := one_vr hl
  refine fmN_ok hA hq hqi hn n (vr 0 n) n env vr_length hl.symm (vr_bd (by omega)) (by rw [h1]; exact hw) fun e os ne' h => ?_
  refine redT_ok hW hq h.len h.ne h.ob h.wd fun e2 rs ne2 g => ?_
  have hv := h.val
  rw [h1] at hv
  have gv := g.val
  rw [List.append_assoc] at gv ⊢
  exact hk _ rs (mont_of hq0 hl hw hv gv)

/-! ### halves -/
def halfCh : List SI → Nat → List SI → Tree
  | [a], ne, outs => .dfn (.bin .shr .u64) [a, .lit 1] (.fin (enc (outs ++ [.var ne])) st0)
  | a :: b :: r, ne, outs => .dfn (.bin .shr .u64) [a, .lit 1] (.dfn (.bin .shl .u64) [b, .lit 63] (.dfn (.bin .add .u64) [.var ne, .var (ne + 1)] (halfCh (b :: r) (ne + 3) (outs ++ [.var (ne + 2)]))))
  | [], _, _ => .bad 52
theorem shr1 {a : Int} (h : Wd a) : binEv .shr .u64 a 1 = a / 2 := by
  obtain ⟨a, rfl⟩ := Int.eq_ofNat_of_zero_le h.1
  have := shr_nat a 1 (by decide)
  simpa using this
theorem shl63 {b : Int} : binEv .shl .u64 b 63 = 9223372036854775808 * (b % 2) := by
  show IntKind.u64.wrap (b * 2 ^ (min (63 : Int).toNat 64)) = _
  rw [show (2 : Int) ^ (min (63 : Int).toNat 64) = 9223372036854775808 from rfl, IntKind.wrap_u64]
  omega
theorem halfCh_ok : ∀ (zs : List SI) (ne : Nat) (outs : List SI) (env : List Int), zs ≠ [] → ne = env.length → (∀ x ∈ zs, Bd ne x) → (∀ x ∈ outs, Bd ne x) → Wds (zs.map (·.val env)) →
    (∀ (e : List Int) (os : List SI) (d : List Int), os.map (·.val (env ++ e)) = outs.map (·.val env) ++ d → d.length = zs.length → Wds d → vw d = vw (zs.map (·.val env)) / 2 → A.fin (enc os) st0 (env ++ e)) → (halfCh zs ne outs).holds A env
  | [], _, _, _, h, _, _, _, _, _ => absurd rfl h
  | [a], ne, outs, env, _, hne, hz, ho, wz, hk => by
    obtain ⟨wa, _⟩ := Wds.tail (by simpa using wz)
    intro v hv
    have hv : v = binEv .shr .u64 (a.val env) 1 := hv
    rw [shr1 wa] at hv
    refine hk [v] _ [v] ?_ rfl (wds_cons (by rw [hv]; simp only [Wd] at *; omega) wds_nil) ?_
    · rw [List.map_append, vals_more fun x hx => by rw [← hne]; exact ho x hx, List.map_cons, List.map_nil, val_end hne]
    · simp [vw, hv]
  | a :: b :: r, ne, outs, env, _, hne, hz, ho, wz, hk => by
    obtain ⟨wa, wz'⟩ := Wds.tail (by simpa using wz)
    obtain ⟨wb, _⟩ := Wds.tail wz'
    have ba := hz a (List.mem_cons_self ..)
    have bb := hz b (List.mem_cons_of_mem _ (List.mem_cons_self ..))
    rw [hne] at ba bb
    intro v hv
    have hv : v = binEv .shr .u64 (a.val env) 1 := hv
    rw [shr1 wa] at hv
    intro s hs
    have hs : s = binEv .shl .u64 (b.val (env ++ [v])) 63 := hs
    rw [val_more bb, shl63] at hs
    intro t ht
    have ht : t = IntKind.u64.wrap ((SI.var ne).val (env ++ [v] ++ [s]) + (SI.var (ne + 1)).val (env ++ [v] ++ [s])) := ht
    rw [val_more (x := .var ne) (by show ne < _; simp [hne]), val_end hne, val_end (by simp [hne]), IntKind.wrap_u64] at ht
    have e3 : env ++ [v] ++ [s] ++ [t] = env ++ [v, s, t] := by simp
    have mz : (b :: r).map (·.val (env ++ [v] ++ [s] ++ [t])) = (b :: r).map (·.val env) := by rw [e3]; exact vals_more fun x hx => by rw [← hne]; exact hz x (List.mem_cons_of_mem _ hx)
    have mo : outs.map (·.val (env ++ [v] ++ [s] ++ [t])) = outs.map (·.val env) := by rw [e3]; exact vals_more fun x hx => by rw [← hne]; exact ho x hx
    have vt : (SI.var (ne + 2)).val (env ++ [v] ++ [s] ++ [t]) = t := val_end (by simp [hne])
    have hT : t = a.val env / 2 + 9223372036854775808 * (b.val env % 2) := by
      rw [ht, hv, hs]
      simp only [Wd] at *
      omega
    refine halfCh_ok (b :: r) (ne + 3) (outs ++ [.var (ne + 2)]) (env ++ [v] ++ [s] ++ [t]) (by simp) (by simp [hne]) (fun x hx => (hz x (List.mem_cons_of_mem _ hx)).more (by omega)) ?_ (by rw [mz]; exact wz') fun e os d h1 h2 h3 h4 => ?_
    · intro x hx
      rcases List.mem_append.1 hx with h | h
      · exact (ho x h).more (by omega)
      · simp at h; subst h; show ne + 2 < ne + 3; omega
    · rw [mz] at h4
      have := hk ([v, s, t] ++ e) os (t :: d) ?_ (by simp [h2]) (wds_cons (by rw [hT]; simp only [Wd] at *; omega) h3) ?_
      · rw [← List.append_assoc, ← e3] at this; exact this
      · rw [← List.append_assoc, ← e3, h1, List.map_append, mo, List.map_cons, List.map_nil, vt, List.append_assoc]; rfl
      · simp only [vw, List.map_cons] at h4 ⊢
        rw [h4, hT]
        simp only [Wd] at *
        generalize vw (r.map (·.val env)) = T at *
        omega
def Half (zs r : List Int) : Prop := r.length = zs.length ∧ Wds r ∧ vw r = vw zs / 2
theorem halfT_ok (hn : n ≠ 0) {env : List Int} (hl : env.length = n) (hw : Wds env)
    (hk : ∀ (e : List Int) (os : List SI), Half env (os.map (·.val (env ++ e))) → A.fin (enc os) st0 (env ++ e)) : (halfCh (vr 0 n) n []).holds A env := by
  have h1 := one_vr hl
  refine halfCh_ok (vr 0 n) n [] env ?_ hl.symm (vr_bd (by omega)) (fun x hx => by cases hx) (by rw [h1]; exact hw) fun e os d g1 g2 g3 g4 => hk e os ?_
  · intro h
    have := congrArg List.length h
    simp [vr] at this
    exact hn this
  · rw [h1] at g4
    rw [g1]
    exact ⟨by simp [g2, vr_length, hl], by simpa using g3, by simpa using g4⟩
end
end Eng
