/-
  Numbers by words: the field's sums and differences, the reference's, the laws on them, as trees of facts, for any number of words.
-/
import Derived.Test.YtakddcclpocejaaWM
namespace Eng
open Go

/-- What the contracts of words say. -/
structure WAsk (A : Ask) (n : Nat) (q : List Int) : Prop where
  pre : ∀ id xs, id < 20 → Wds xs → A.pre id xs
  less : ∀ xs ys, A.post 0 xs ys → ys = [b01 (decide (vw (xs.take n) < vw (xs.drop n)))]
  same : ∀ xs ys, A.post 1 xs ys → ys = [b01 (decide (xs.take n = xs.drop n))]
  plus : ∀ xs ys, A.post 4 xs ys → Plus (xs.take n) (xs.drop n) ys
  lessen : ∀ xs ys, A.post 5 xs ys → Lessen (xs.take n) (xs.drop n) ys
  sub : ∀ xs ys, A.post 6 xs ys → DifMod (xs.take n) (xs.drop n) q ys
  small : ∀ xs ys, A.post 7 xs ys → ys = [b01 (decide (vw xs < vw q))]
  double : ∀ xs ys, A.post 8 xs ys → SumMod xs xs q ys
  by3 : ∀ xs ys, A.post 9 xs ys → ∃ d, SumMod xs xs q d ∧ SumMod d xs q ys
  fly : ∀ xs ys, A.post 10 xs ys → SumMod (xs.take n) (xs.drop n) q (ys.take n) ∧ DifMod (xs.take n) (xs.drop n) q (ys.drop n)
  addW : ∀ xs ys, A.post 11 xs ys → SumMod (xs.take n) ((xs.drop n).take n) (xs.drop (2 * n)) ys
  subW : ∀ xs ys, A.post 12 xs ys → DifMod (xs.take n) ((xs.drop n).take n) (xs.drop (2 * n)) ys
  times : ∀ xs ys, A.post 14 xs ys → ∃ z1 z2, SumMod (List.replicate n 0) (xs.take n) (xs.drop n) z1 ∧ SumMod z1 (xs.take n) (xs.drop n) z2 ∧ SumMod z2 (xs.take n) (xs.drop n) ys
/-- The prime. -/
structure WQ (n : Nat) (q : List Int) : Prop where
  wd : Wds q
  len : q.length = n
  low : 2 * vw q ≤ BW ^ n

theorem val_lit {n : Int} {env : List Int} : (SI.lit n).val env = n := rfl
section
variable {A : Ask} {n : Nat} {q : List Int}

def redT (q : List Int) (zs : List SI) (ne : Nat) (k : List SI → Nat → Tree) : Tree :=
  .hav 7 zs 1 (.br ne (k zs (ne + 1)) (subCh (fun os _ ne' => k os ne') zs (ls q) (.lit 0) (ne + 1) []))
def addT (q : List Int) (xs ys : List SI) (ne : Nat) (k : List SI → Nat → Tree) : Tree :=
  addCh (fun os _ ne' => redT q os ne' k) xs ys (.lit 0) ne []
def subT (q : List Int) (xs ys : List SI) (ne : Nat) (k : List SI → Nat → Tree) : Tree :=
  subCh (fun os b ne' => .dfn (.cmp .neq) [b, .lit 0] (.br ne' (addCh (fun os' _ ne'' => k os' ne'') os (ls q) (.lit 0) (ne' + 1) []) (k os (ne' + 1)))) xs ys (.lit 0) ne []

/-- What a field's operation has come to. -/
structure ROk (R : List Int → Prop) (env e : List Int) (os : List SI) (ne' : Nat) (n : Nat) : Prop where
  ne : ne' = (env ++ e).length
  ob : ∀ z ∈ os, Bd ne' z
  len : os.length = n
  wd : Wds (os.map (·.val (env ++ e)))
  val : R (os.map (·.val (env ++ e)))

theorem map_len {env : List Int} {os : List SI} {d : List Int} (h : os.map (·.val env) = d) : os.length = d.length := by rw [← h, List.length_map]

theorem addT_ok (hA : WAsk A n q) (hq : WQ n q) {xs ys : List SI} {ne : Nat} {env : List Int} {k : List SI → Nat → Tree} (lx : xs.length = n) (ly : ys.length = n) (hne : ne = env.length) (hx : ∀ x ∈ xs, Bd ne x) (hy : ∀ y ∈ ys, Bd ne y)
    (wx : Wds (xs.map (·.val env))) (wy : Wds (ys.map (·.val env)))
    (hk : ∀ (e : List Int) (os : List SI) (ne' : Nat), ROk (SumMod (xs.map (·.val env)) (ys.map (·.val env)) q) env e os ne' n → (k os ne').holds A (env ++ e)) : (addT q xs ys ne k).holds A env := by
  refine addCh_ok xs ys (.lit 0) ne [] env (by omega) hne hx hy trivial (fun z hz => by cases hz) wx wy (.inl rfl) fun e os c' ne' h => ?_
  obtain ⟨h1, h2, h3, h4, d, h5, h6, h7, h8⟩ := h
  simp only [List.map_nil, List.nil_append] at h5
  rw [← h5] at h6 h7 h8
  simp only [Int.one_mul, val_lit, Int.add_zero] at h8
  have lo : os.length = n := by simpa [lx] using h7
  generalize hX : xs.map (·.val env) = X at *
  generalize hY : ys.map (·.val env) = Y at *
  have lX : X.length = n := by rw [← hX]; simpa using lx
  have bX := vw_bounds wx
  have bo := vw_bounds h6
  have bq := vw_bounds hq.wd
  rw [List.length_map, lo] at bo
  have hlow := hq.low
  rw [lx] at h8
  -- no word more
  have c0 : vw X < vw q → vw Y < vw q → c'.val (env ++ e) = 0 := by
    intro h1 h2
    rcases h4 with h | h
    · exact h
    · rw [h, Int.mul_one] at h8; omega
  refine ⟨hA.pre _ _ (by decide) h6, fun t _ ht => ?_⟩
  have ht := hA.small _ _ ht
  subst ht
  have vt : ∀ v : Int, (env ++ e ++ [v]).getD ne' 0 = v := fun v => at_end h1
  have ho3 : ∀ v : List Int, os.map (·.val (env ++ e ++ v)) = os.map (·.val (env ++ e)) := fun v => vals_more fun z hz => by rw [← h1]; exact h3 z hz
  refine ⟨fun hb => ?_, fun hb => ?_⟩
  · rw [vt, b01_one, decide_eq_true_eq] at hb
    rw [List.append_assoc]
    refine hk _ os (ne' + 1) ⟨by simp [h1]; omega, fun z hz => (h3 z hz).more (by omega), lo, ?_, ?_⟩
    · rw [← List.append_assoc, ho3]; exact h6
    · rw [← List.append_assoc, ho3]
      refine ⟨by rw [List.length_map, lo, lX], h6, fun g1 g2 => ?_⟩
      have := c0 g1 g2
      rw [this, Int.mul_zero] at h8
      rw [if_pos (by omega)]
      omega
  · rw [vt, b01_zero, decide_eq_false_iff_not] at hb
    refine subCh_ok os (ls q) (.lit 0) (ne' + 1) [] _ (by simp [ls, lo, hq.len]) (by simp [h1]; omega) (fun z hz => (h3 z hz).more (by omega)) ls_bd trivial (fun z hz => by cases hz) (by rw [ho3]; exact h6) (by rw [ls_vals]; exact hq.wd) (.inl rfl)
      fun e2 os2 c2 ne2 g => ?_
    obtain ⟨g1, g2, g3, g4, d2, g5, g6, g7, g8⟩ := g
    simp only [List.map_nil, List.nil_append] at g5
    rw [← g5] at g6 g7 g8
    rw [ho3, ls_vals] at g8
    simp only [val_lit, Int.add_zero] at g8
    have lo2 : os2.length = n := by simpa [lo] using g7
    have bo2 := vw_bounds g6
    rw [List.length_map, lo2] at bo2
    rw [lo] at g8
    have e3 : env ++ e ++ [b01 (decide (vw (os.map (·.val (env ++ e))) < vw q))] ++ e2 = env ++ (e ++ [b01 (decide (vw (os.map (·.val (env ++ e))) < vw q))] ++ e2) := by simp
    rw [e3] at g1 g4 g6 g8 bo2 ⊢
    refine hk _ os2 ne2 ⟨g1, g3, lo2, g6, ?_⟩
    refine ⟨by rw [List.length_map, lo2, lX], g6, fun f1 f2 => ?_⟩
    have := c0 f1 f2
    rw [this, Int.mul_zero] at h8
    rw [if_neg (by omega)]
    rcases g4 with g | g <;> rw [g] at g8
    · rw [Int.mul_zero] at g8; omega
    · rw [Int.mul_one] at g8
      generalize BW ^ n = W at *
      omega

theorem subT_ok (hq : WQ n q) {xs ys : List SI} {ne : Nat} {env : List Int} {k : List SI → Nat → Tree} (lx : xs.length = n) (ly : ys.length = n) (hne : ne = env.length) (hx : ∀ x ∈ xs, Bd ne x) (hy : ∀ y ∈ ys, Bd ne y)
    (wx : Wds (xs.map (·.val env))) (wy : Wds (ys.map (·.val env)))
    (hk : ∀ (e : List Int) (os : List SI) (ne' : Nat), ROk (DifMod (xs.map (·.val env)) (ys.map (·.val env)) q) env e os ne' n → (k os ne').holds A (env ++ e)) : (subT q xs ys ne k).holds A env := by
  refine subCh_ok xs ys (.lit 0) ne [] env (by omega) hne hx hy trivial (fun z hz => by cases hz) wx wy (.inl rfl) fun e os c' ne' h => ?_
  obtain ⟨h1, h2, h3, h4, d, h5, h6, h7, h8⟩ := h
  simp only [List.map_nil, List.nil_append] at h5
  rw [← h5] at h6 h7 h8
  simp only [val_lit, Int.add_zero] at h8
  have lo : os.length = n := by simpa [lx] using h7
  have lX : (xs.map (·.val env)).length = n := by simpa using lx
  rw [lx] at h8
  intro t ht
  have ht : t = b01 (c'.val (env ++ e) != 0) := ht
  have vt : ∀ v : Int, (env ++ e ++ [v]).getD ne' 0 = v := fun v => at_end h1
  have ho3 : ∀ v : List Int, os.map (·.val (env ++ e ++ v)) = os.map (·.val (env ++ e)) := fun v => vals_more fun z hz => by rw [← h1]; exact h3 z hz
  refine ⟨fun hb => ?_, fun hb => ?_⟩
  · rw [vt, ht, b01_one, bne_iff_ne] at hb
    have hc : c'.val (env ++ e) = 1 := by rcases h4 with h | h <;> first | exact absurd h hb | exact h
    refine addCh_ok os (ls q) (.lit 0) (ne' + 1) [] _ (by simp [ls, lo, hq.len]) (by simp [h1]; omega) (fun z hz => (h3 z hz).more (by omega)) ls_bd trivial (fun z hz => by cases hz) (by rw [ho3]; exact h6) (by rw [ls_vals]; exact hq.wd) (.inl rfl)
      fun e2 os2 c2 ne2 g => ?_
    obtain ⟨g1, g2, g3, g4, d2, g5, g6, g7, g8⟩ := g
    simp only [List.map_nil, List.nil_append] at g5
    rw [← g5] at g6 g7 g8
    rw [ho3, ls_vals] at g8
    simp only [val_lit, Int.add_zero, Int.one_mul] at g8
    have lo2 : os2.length = n := by simpa [lo] using g7
    have e3 : env ++ e ++ [t] ++ e2 = env ++ (e ++ [t] ++ e2) := by simp
    rw [e3] at g1 g4 g6 g8 ⊢
    refine hk _ os2 ne2 ⟨g1, g3, lo2, g6, ?_⟩
    refine dif_more (o := os.map (·.val (env ++ e))) (c := 1) (c' := c2.val (env ++ (e ++ [t] ++ e2))) wx wy hq.wd h6 g6 (by rw [List.length_map, lo, lX]) (by rw [List.length_map, lo2, List.length_map, lo]) rfl g4 ?_ ?_
    · rw [hc] at h8; rw [lX]; omega
    · rw [List.length_map]; exact g8
  · rw [vt, ht, b01_zero, bne_eq_false_iff_eq] at hb
    rw [List.append_assoc]
    refine hk _ os (ne' + 1) ⟨by simp [h1]; omega, fun z hz => (h3 z hz).more (by omega), lo, ?_, ?_⟩
    · rw [← List.append_assoc, ho3]; exact h6
    · rw [← List.append_assoc, ho3]
      refine dif_same (c := 0) h6 (by rw [List.length_map, lo, lX]) rfl ?_
      rw [hb] at h8; rw [lX]; omega

/-! ### the field's functions -/
def fld (f : (List SI → Nat → Tree) → Tree) : Tree := f fun os _ => .fin (enc os) st0
def subF (n : Nat) (q : List Int) : Tree := fld fun k => subT q (vr 0 n) (vr n n) (2 * n) k
def doubleF (n : Nat) (q : List Int) : Tree := fld fun k => addT q (vr 0 n) (vr 0 n) n k
def by3F (n : Nat) (q : List Int) : Tree := fld fun k => addT q (vr 0 n) (vr 0 n) n fun os ne => addT q os (vr 0 n) ne k
def flyF (n : Nat) (q : List Int) : Tree := addT q (vr 0 n) (vr n n) (2 * n) fun os ne => subT q (vr 0 n) (vr n n) ne fun ds _ => .fin (enc (os ++ ds)) st0

theorem two_vr {env : List Int} (hl : env.length = 2 * n) : (vr 0 n).map (·.val env) = env.take n ∧ (vr n n).map (·.val env) = env.drop n := by
  rw [vr_vals (by omega), vr_vals (by omega)]
  exact ⟨by simp, List.take_of_length_le (by simp; omega)⟩
theorem one_vr {env : List Int} (hl : env.length = n) : (vr 0 n).map (·.val env) = env := by
  rw [vr_vals (by omega)]
  simp [hl, List.take_of_length_le]

theorem subF_ok (hq : WQ n q) {env : List Int} (hl : env.length = 2 * n) (hw : Wds env)
    (hk : ∀ (e : List Int) (os : List SI), DifMod (env.take n) (env.drop n) q (os.map (·.val (env ++ e))) → A.fin (enc os) st0 (env ++ e)) : (subF n q).holds A env := by
  obtain ⟨h1, h2⟩ := two_vr hl
  refine subT_ok hq vr_length vr_length hl.symm (vr_bd (by omega)) (vr_bd (by omega)) (wds_vr hw (by omega)) (wds_vr hw (by omega)) fun e os ne' h => ?_
  exact hk e os (by rw [← h1, ← h2]; exact h.val)
theorem doubleF_ok (hA : WAsk A n q) (hq : WQ n q) {env : List Int} (hl : env.length = n) (hw : Wds env)
    (hk : ∀ (e : List Int) (os : List SI), SumMod env env q (os.map (·.val (env ++ e))) → A.fin (enc os) st0 (env ++ e)) : (doubleF n q).holds A env := by
  refine addT_ok hA hq vr_length vr_length hl.symm (vr_bd (by omega)) (vr_bd (by omega)) (wds_vr hw (by omega)) (wds_vr hw (by omega)) fun e os ne' h => ?_
  have := h.val
  rw [one_vr hl] at this
  exact hk e os this
theorem by3F_ok (hA : WAsk A n q) (hq : WQ n q) {env : List Int} (hl : env.length = n) (hw : Wds env)
    (hk : ∀ (e : List Int) (os : List SI), (∃ d, SumMod env env q d ∧ SumMod d env q (os.map (·.val (env ++ e)))) → A.fin (enc os) st0 (env ++ e)) : (by3F n q).holds A env := by
  refine addT_ok hA hq vr_length vr_length hl.symm (vr_bd (by omega)) (vr_bd (by omega)) (wds_vr hw (by omega)) (wds_vr hw (by omega)) fun e os ne' h => ?_
  have hv : (vr 0 n).map (·.val (env ++ e)) = env := by rw [vals_more (vr_bd (by omega)), one_vr hl]
  have h' := h.val
  rw [one_vr hl] at h'
  have hle : env.length ≤ ne' := by rw [h.ne]; simp
  refine addT_ok hA hq h.len vr_length h.ne h.ob (vr_bd (by omega)) h.wd (by rw [hv]; exact hw) fun e2 os2 ne2 g => ?_
  have g' := g.val
  rw [hv] at g'
  rw [List.append_assoc] at g' ⊢
  exact hk _ os2 ⟨_, h', g'⟩
theorem flyF_ok (hA : WAsk A n q) (hq : WQ n q) {env : List Int} (hl : env.length = 2 * n) (hw : Wds env)
    (hk : ∀ (e : List Int) (os ds : List SI), os.length = n → SumMod (env.take n) (env.drop n) q (os.map (·.val (env ++ e))) → DifMod (env.take n) (env.drop n) q (ds.map (·.val (env ++ e))) → A.fin (enc (os ++ ds)) st0 (env ++ e)) : (flyF n q).holds A env := by
  obtain ⟨h1, h2⟩ := two_vr hl
  refine addT_ok hA hq vr_length vr_length hl.symm (vr_bd (by omega)) (vr_bd (by omega)) (wds_vr hw (by omega)) (wds_vr hw (by omega)) fun e os ne' h => ?_
  have hle : env.length ≤ ne' := by rw [h.ne]; simp
  have hv1 : (vr 0 n).map (·.val (env ++ e)) = env.take n := by rw [vals_more (vr_bd (by omega)), h1]
  have hv2 : (vr n n).map (·.val (env ++ e)) = env.drop n := by rw [vals_more (vr_bd (by omega)), h2]
  refine subT_ok hq vr_length vr_length h.ne (vr_bd (by omega)) (vr_bd (by omega)) (by rw [hv1]; exact hw.take n) (by rw [hv2]; exact hw.drop n) fun e2 ds ne2 g => ?_
  have h' := h.val
  have g' := g.val
  rw [h1, h2] at h'
  rw [hv1, hv2] at g'
  rw [List.append_assoc] at g' ⊢
  refine hk _ os ds h.len ?_ g'
  rw [← List.append_assoc, vals_more fun z hz => by rw [← h.ne]; exact h.ob z hz]
  exact h'

/-! ### the reference's functions -/
def addWT (n : Nat) : Tree :=
  .hav 4 (vr 0 n ++ vr n n) (n + 1) (.br (4 * n) (.hav 5 (vr (3 * n) n ++ vr (2 * n) n) (n + 1) (.fin (enc (vr (4 * n + 1) n)) st0))
    (.hav 0 (vr (3 * n) n ++ vr (2 * n) n) 1 (.br (4 * n + 1) (.fin (enc (vr (3 * n) n)) st0) (.hav 5 (vr (3 * n) n ++ vr (2 * n) n) (n + 1) (.fin (enc (vr (4 * n + 2) n)) st0)))))
def subWT (n : Nat) : Tree :=
  .hav 5 (vr 0 n ++ vr n n) (n + 1) (.br (4 * n) (.hav 4 (vr (3 * n) n ++ vr (2 * n) n) (n + 1) (.fin (enc (vr (4 * n + 1) n)) st0)) (.fin (enc (vr (3 * n) n)) st0))

theorem three_vr {env : List Int} (hl : env.length = 3 * n) : (vr 0 n).map (·.val env) = env.take n ∧ (vr n n).map (·.val env) = (env.drop n).take n ∧ (vr (2 * n) n).map (·.val env) = env.drop (2 * n) := by
  rw [vr_vals (by omega), vr_vals (by omega), vr_vals (by omega)]
  exact ⟨by simp, rfl, List.take_of_length_le (by simp; omega)⟩
theorem vals_app {env : List Int} {xs ys : List SI} {a b : List Int} (h : xs.map (·.val env) = a) (k : ys.map (·.val env) = b) : (xs ++ ys).map (·.val env) = a ++ b := by rw [List.map_append, h, k]
theorem take_app {a b : List Int} (h : a.length = n) : (a ++ b).take n = a := List.take_left' h
theorem drop_app {a b : List Int} (h : a.length = n) : (a ++ b).drop n = b := List.drop_left' h

theorem addWT_ok (hA : WAsk A n q) {env : List Int} (hl : env.length = 3 * n) (hw : Wds env)
    (hk : ∀ (e : List Int) (os : List SI), SumMod (env.take n) ((env.drop n).take n) (env.drop (2 * n)) (os.map (·.val (env ++ e))) → A.fin (enc os) st0 (env ++ e)) : (addWT n).holds A env := by
  obtain ⟨h1, h2, h3⟩ := three_vr hl
  have la : (env.take n).length = n := by simp; omega
  have lb : ((env.drop n).take n).length = n := by simp; omega
  have lm : (env.drop (2 * n)).length = n := by simp; omega
  have wa := hw.take n
  have wb := (hw.drop n).take n
  have wm := hw.drop (2 * n)
  generalize env.take n = a at *
  generalize (env.drop n).take n = b at *
  generalize env.drop (2 * n) = m at *
  refine ⟨?_, fun ys _ hp => ?_⟩
  · rw [vals_app h1 h2]; exact hA.pre _ _ (by decide) (Wds.append wa wb)
  rw [vals_app h1 h2] at hp
  have hp := hA.plus _ _ hp
  rw [take_app la, drop_app la] at hp
  obtain ⟨o, c, rfl, lo, bc, wo, hv⟩ := hp
  have vo : (vr (3 * n) n).map (·.val (env ++ (o ++ [c]))) = o := by rw [← List.append_assoc, vals_more (vr_bd (by simp [hl, lo, la])), vals_new hl.symm (by omega)]
  have vm : (vr (2 * n) n).map (·.val (env ++ (o ++ [c]))) = m := by rw [vals_more (vr_bd (by omega)), h3]
  have vc : (env ++ (o ++ [c])).getD (4 * n) 0 = c := by rw [← List.append_assoc]; exact at_end (by simp; omega)
  have lE : (env ++ (o ++ [c])).length = 4 * n + 1 := by simp; omega
  -- less the modulus
  have less : ∀ (e : List Int), (c = 1 ∨ vw m ≤ vw o) → (.hav 5 (vr (3 * n) n ++ vr (2 * n) n) (n + 1) (.fin (enc (vr (4 * n + 1 + e.length) n)) st0) : Tree).holds A (env ++ (o ++ [c]) ++ e) := by
    intro e hge
    have vo' : (vr (3 * n) n).map (·.val (env ++ (o ++ [c]) ++ e)) = o := by rw [vals_more (vr_bd (by omega)), vo]
    have vm' : (vr (2 * n) n).map (·.val (env ++ (o ++ [c]) ++ e)) = m := by rw [vals_more (vr_bd (by omega)), vm]
    refine ⟨by rw [vals_app vo' vm']; exact hA.pre _ _ (by decide) (Wds.append wo wm), fun ys _ hp => ?_⟩
    rw [vals_app vo' vm'] at hp
    have hp := hA.lessen _ _ hp
    rw [take_app (by omega), drop_app (by omega)] at hp
    obtain ⟨d, k, rfl, ld, bk, wd, hv'⟩ := hp
    have := hk (o ++ [c] ++ e ++ (d ++ [k])) (vr (4 * n + 1 + e.length) n) ?_
    · show A.fin _ _ _
      simpa using this
    · have vd : (vr (4 * n + 1 + e.length) n).map (·.val (env ++ (o ++ [c] ++ e ++ (d ++ [k])))) = d := by
        rw [show env ++ (o ++ [c] ++ e ++ (d ++ [k])) = env ++ (o ++ [c]) ++ e ++ d ++ [k] by simp, vals_more (vr_bd (by simp; omega)), vals_new (by simp; omega) (by omega)]
      rw [vd]
      exact sum_less wa wb wm (by omega) (by omega) wo wd (by omega) (by omega) bc bk hv (by rw [← hv']) hge
  refine ⟨fun hb => ?_, fun hb => ?_⟩
  · rw [vc] at hb
    have := less [] (.inl hb)
    simpa using this
  · rw [vc] at hb
    refine ⟨by rw [vals_app vo vm]; exact hA.pre _ _ (by decide) (Wds.append wo wm), fun ys _ hp => ?_⟩
    rw [vals_app vo vm] at hp
    have hp := hA.less _ _ hp
    rw [take_app (by omega), drop_app (by omega)] at hp
    subst hp
    have vt : ∀ v : Int, (env ++ (o ++ [c]) ++ [v]).getD (4 * n + 1) 0 = v := fun v => at_end lE.symm
    refine ⟨fun hb2 => ?_, fun hb2 => ?_⟩
    · rw [vt, b01_one, decide_eq_true_eq] at hb2
      have := hk (o ++ [c] ++ [b01 (decide (vw o < vw m))]) (vr (3 * n) n) ?_
      · show A.fin _ _ _
        simpa using this
      · rw [← List.append_assoc, vals_more (vr_bd (by omega)), vo]
        exact sum_same wo (by omega) hb hv hb2
    · rw [vt, b01_zero, decide_eq_false_iff_not] at hb2
      exact less [_] (.inr (by omega))
theorem subWT_ok (hA : WAsk A n q) {env : List Int} (hl : env.length = 3 * n) (hw : Wds env)
    (hk : ∀ (e : List Int) (os : List SI), DifMod (env.take n) ((env.drop n).take n) (env.drop (2 * n)) (os.map (·.val (env ++ e))) → A.fin (enc os) st0 (env ++ e)) : (subWT n).holds A env := by
  obtain ⟨h1, h2, h3⟩ := three_vr hl
  have la : (env.take n).length = n := by simp; omega
  have lb : ((env.drop n).take n).length = n := by simp; omega
  have lm : (env.drop (2 * n)).length = n := by simp; omega
  have wa := hw.take n
  have wb := (hw.drop n).take n
  have wm := hw.drop (2 * n)
  generalize env.take n = a at *
  generalize (env.drop n).take n = b at *
  generalize env.drop (2 * n) = m at *
  refine ⟨?_, fun ys _ hp => ?_⟩
  · rw [vals_app h1 h2]; exact hA.pre _ _ (by decide) (Wds.append wa wb)
  rw [vals_app h1 h2] at hp
  have hp := hA.lessen _ _ hp
  rw [take_app la, drop_app la] at hp
  obtain ⟨o, c, rfl, lo, bc, wo, hv⟩ := hp
  have vo : (vr (3 * n) n).map (·.val (env ++ (o ++ [c]))) = o := by rw [← List.append_assoc, vals_more (vr_bd (by simp [hl, lo, la])), vals_new hl.symm (by omega)]
  have vm : (vr (2 * n) n).map (·.val (env ++ (o ++ [c]))) = m := by rw [vals_more (vr_bd (by omega)), h3]
  have vc : (env ++ (o ++ [c])).getD (4 * n) 0 = c := by rw [← List.append_assoc]; exact at_end (by simp; omega)
  have lE : (env ++ (o ++ [c])).length = 4 * n + 1 := by simp; omega
  refine ⟨fun hb => ?_, fun hb => ?_⟩
  · rw [vc] at hb
    refine ⟨by rw [vals_app vo vm]; exact hA.pre _ _ (by decide) (Wds.append wo wm), fun ys _ hp => ?_⟩
    rw [vals_app vo vm] at hp
    have hp := hA.plus _ _ hp
    rw [take_app (by omega), drop_app (by omega)] at hp
    obtain ⟨d, k, rfl, ld, bk, wd, hv'⟩ := hp
    have := hk (o ++ [c] ++ (d ++ [k])) (vr (4 * n + 1) n) ?_
    · show A.fin _ _ _
      simpa using this
    · have vd : (vr (4 * n + 1) n).map (·.val (env ++ (o ++ [c] ++ (d ++ [k])))) = d := by
        rw [show env ++ (o ++ [c] ++ (d ++ [k])) = env ++ (o ++ [c]) ++ d ++ [k] by simp, vals_more (vr_bd (by simp; omega)), vals_new (by simp; omega) (by omega)]
      rw [vd]
      exact dif_more wa wb wm wo wd (by omega) (by omega) hb bk hv hv'
  · rw [vc] at hb
    refine hk (o ++ [c]) (vr (3 * n) n) ?_
    rw [vo]
    exact dif_same wo (by omega) hb hv

def zeros (n : Nat) : List SI := List.replicate n (.lit 0)
def timesT (n : Nat) : Tree :=
  .hav 11 (zeros n ++ vr 0 n ++ vr n n) n (.hav 11 (vr (2 * n) n ++ vr 0 n ++ vr n n) n (.hav 11 (vr (3 * n) n ++ vr 0 n ++ vr n n) n (.fin (enc (vr (4 * n) n)) st0)))
end
end Eng
