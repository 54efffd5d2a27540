/-
  Numbers by words: the laws on sums and differences, as trees of facts, for any number of words.
-/
import Derived.Test.YtakddcclpocejaaWN
namespace Eng
open Go

section
variable {A : Ask} {n : Nat} {q : List Int}

theorem timesT_ok (hA : WAsk A n q) {env : List Int} (hl : env.length = 2 * n) (hw : Wds env)
    (hk : ∀ (e : List Int) (os : List SI), (∃ z1 z2, SumMod (List.replicate n 0) (env.take n) (env.drop n) z1 ∧ SumMod z1 (env.take n) (env.drop n) z2 ∧ SumMod z2 (env.take n) (env.drop n) (os.map (·.val (env ++ e)))) → A.fin (enc os) st0 (env ++ e)) :
    (timesT n).holds A env := by
  obtain ⟨h1, h2⟩ := two_vr hl
  have la : (env.take n).length = n := by simp; omega
  have lm : (env.drop n).length = n := by simp; omega
  have wa := hw.take n
  have wm := hw.drop n
  generalize env.take n = a at *
  generalize env.drop n = m at *
  have wz : Wds (List.replicate n (0 : Int)) := fun x hx => by rw [(List.mem_replicate.1 hx).2]; exact ⟨by decide, by decide⟩
  have hz : ∀ e : List Int, (zeros n).map (·.val e) = List.replicate n 0 := fun e => by simp [zeros, SI.val]
  have three : ∀ {x y z : List Int}, x.length = n → y.length = n → z.length = n → (x ++ y ++ z).take n = x ∧ ((x ++ y ++ z).drop n).take n = y ∧ (x ++ y ++ z).drop (2 * n) = z := by
    intro x y z hx hy hz
    refine ⟨by rw [List.append_assoc, take_app hx], by rw [List.append_assoc, drop_app hx, take_app hy], drop_app (by simp [hx, hy]; omega)⟩
  refine ⟨by rw [vals_app (vals_app (hz env) h1) h2]; exact hA.pre _ _ (by decide) (Wds.append (Wds.append wz wa) wm), fun z1 _ hp => ?_⟩
  rw [vals_app (vals_app (hz env) h1) h2] at hp
  have hp1 := hA.addW _ _ hp
  obtain ⟨t1, t2, t3⟩ := three (x := List.replicate n (0 : Int)) (y := a) (z := m) (by simp) la lm
  rw [t1, t2, t3] at hp1
  have l1 := hp1.1
  have w1 := hp1.2.1
  rw [List.length_replicate] at l1
  have v1 : (vr (2 * n) n).map (·.val (env ++ z1)) = z1 := vals_new hl.symm l1.symm
  have va : (vr 0 n).map (·.val (env ++ z1)) = a := by rw [vals_more (vr_bd (by omega)), h1]
  have vm : (vr n n).map (·.val (env ++ z1)) = m := by rw [vals_more (vr_bd (by omega)), h2]
  refine ⟨by rw [vals_app (vals_app v1 va) vm]; exact hA.pre _ _ (by decide) (Wds.append (Wds.append w1 wa) wm), fun z2 _ hp => ?_⟩
  rw [vals_app (vals_app v1 va) vm] at hp
  have hp2 := hA.addW _ _ hp
  obtain ⟨t1, t2, t3⟩ := three (x := z1) (y := a) (z := m) l1 la lm
  rw [t1, t2, t3] at hp2
  have l2 := hp2.1
  have w2 := hp2.2.1
  rw [l1] at l2
  have lE : (env ++ z1).length = 3 * n := by simp; omega
  have v2 : (vr (3 * n) n).map (·.val (env ++ z1 ++ z2)) = z2 := vals_new lE.symm l2.symm
  have va : (vr 0 n).map (·.val (env ++ z1 ++ z2)) = a := by rw [vals_more (vr_bd (by omega)), va]
  have vm : (vr n n).map (·.val (env ++ z1 ++ z2)) = m := by rw [vals_more (vr_bd (by omega)), vm]
  refine ⟨by rw [vals_app (vals_app v2 va) vm]; exact hA.pre _ _ (by decide) (Wds.append (Wds.append w2 wa) wm), fun z3 _ hp => ?_⟩
  rw [vals_app (vals_app v2 va) vm] at hp
  have hp3 := hA.addW _ _ hp
  obtain ⟨t1, t2, t3⟩ := three (x := z2) (y := a) (z := m) l2 la lm
  rw [t1, t2, t3] at hp3
  have l3 := hp3.1
  rw [l2] at l3
  have e3 : env ++ z1 ++ z2 ++ z3 = env ++ (z1 ++ z2 ++ z3) := by simp
  have v3 : (vr (4 * n) n).map (·.val (env ++ z1 ++ z2 ++ z3)) = z3 := vals_new (by simp; omega) l3.symm
  rw [e3] at v3
  have := hk (z1 ++ z2 ++ z3) (vr (4 * n) n) ⟨z1, z2, hp1, hp2, by rw [v3]; exact hp3⟩
  rw [← e3] at this
  exact this

/-! ### laws -/
/-- Is it below the prime? Else the law says nothing. -/
def chkT (q : List Int) (xs : List SI) (ne : Nat) (t : Tree) : Tree := .hav 0 (xs ++ ls q) 1 (.br ne t (.fin (enc [.lit 1]) st0))
def sameE (xs ys : List SI) (ne : Nat) : Tree := .hav 1 (xs ++ ys) 1 (.fin (enc [.var ne]) st0)
theorem chkT_ok (hA : WAsk A n q) (hq : WQ n q) {xs : List SI} {ne : Nat} {t : Tree} {env : List Int} (lx : xs.length = n) (hne : ne = env.length) (hw : Wds (xs.map (·.val env)))
    (hfin : ∀ e : List Int, A.fin (enc [.lit 1]) st0 (env ++ e)) (ht : vw (xs.map (·.val env)) < vw q → ∀ v, t.holds A (env ++ [v])) : (chkT q xs ne t).holds A env := by
  have hv : (xs ++ ls q).map (·.val env) = xs.map (·.val env) ++ q := by rw [List.map_append, ls_vals]
  refine ⟨by rw [hv]; exact hA.pre _ _ (by decide) (Wds.append hw hq.wd), fun ys _ hp => ?_⟩
  rw [hv] at hp
  have hp := hA.less _ _ hp
  rw [take_app (by simpa using lx), drop_app (by simpa using lx)] at hp
  subst hp
  have vt : ∀ v : Int, (env ++ [v]).getD ne 0 = v := fun v => at_end hne
  refine ⟨fun h => ?_, fun _ => hfin _⟩
  rw [vt, b01_one, decide_eq_true_eq] at h
  exact ht h _
theorem sameE_ok (hA : WAsk A n q) {xs ys : List SI} {ne : Nat} {env : List Int} {a : List Int} (hx : xs.map (·.val env) = a) (hy : ys.map (·.val env) = a) (la : a.length = n) (hne : ne = env.length) (hw : Wds a)
    (hfin : ∀ (e : List Int) (o : SI), o.val (env ++ e) = 1 → A.fin (enc [o]) st0 (env ++ e)) : (sameE xs ys ne).holds A env := by
  refine ⟨by rw [vals_app hx hy]; exact hA.pre _ _ (by decide) (Wds.append hw hw), fun ys _ hp => ?_⟩
  rw [vals_app hx hy] at hp
  have hp := hA.same _ _ hp
  rw [take_app la, drop_app la, decide_eq_true rfl] at hp
  subst hp
  exact hfin _ (.var ne) (val_end hne)

def lawSubT (n : Nat) (q : List Int) : Tree :=
  chkT q (vr 0 n) (2 * n) (chkT q (vr n n) (2 * n + 1) (.hav 6 (vr 0 n ++ vr n n) n (.hav 12 (vr 0 n ++ vr n n ++ ls q) n (sameE (vr (2 * n + 2) n) (vr (3 * n + 2) n) (4 * n + 2)))))
def lawDoubleT (n : Nat) (q : List Int) : Tree :=
  chkT q (vr 0 n) n (.hav 8 (vr 0 n) n (.hav 11 (vr 0 n ++ vr 0 n ++ ls q) n (sameE (vr (n + 1) n) (vr (2 * n + 1) n) (3 * n + 1))))
def lawBy3T (n : Nat) (q : List Int) : Tree :=
  chkT q (vr 0 n) n (.hav 9 (vr 0 n) n (.hav 14 (vr 0 n ++ ls q) n (sameE (vr (n + 1) n) (vr (2 * n + 1) n) (3 * n + 1))))
def lawFlyT (n : Nat) (q : List Int) : Tree :=
  chkT q (vr 0 n) (2 * n) (chkT q (vr n n) (2 * n + 1) (.hav 10 (vr 0 n ++ vr n n) (2 * n) (.hav 11 (vr 0 n ++ vr n n ++ ls q) n
    (.hav 1 (vr (2 * n + 2) n ++ vr (4 * n + 2) n) 1 (.br (5 * n + 2) (.hav 12 (vr 0 n ++ vr n n ++ ls q) n (sameE (vr (3 * n + 2) n) (vr (5 * n + 3) n) (6 * n + 3))) (.fin (enc [.lit 0]) st0))))))

theorem three_app {x y z : List Int} (hx : x.length = n) (hy : y.length = n) : (x ++ y ++ z).take n = x ∧ ((x ++ y ++ z).drop n).take n = y ∧ (x ++ y ++ z).drop (2 * n) = z :=
  ⟨by rw [List.append_assoc, take_app hx], by rw [List.append_assoc, drop_app hx, take_app hy], drop_app (by simp [hx, hy]; omega)⟩

theorem lawSubT_ok (hA : WAsk A n q) (hq : WQ n q) {env : List Int} (hl : env.length = 2 * n) (hw : Wds env)
    (hfin : ∀ (e : List Int) (o : SI), o.val (env ++ e) = 1 → A.fin (enc [o]) st0 (env ++ e)) : (lawSubT n q).holds A env := by
  obtain ⟨h1, h2⟩ := two_vr hl
  have la : (env.take n).length = n := by simp; omega
  have lb : (env.drop n).length = n := by simp; omega
  have wa := hw.take n
  have wb := hw.drop n
  generalize env.take n = a at *
  generalize env.drop n = b at *
  refine chkT_ok hA hq vr_length hl.symm (by rw [h1]; exact wa) (fun e => hfin e (.lit 1) rfl) fun ha v => ?_
  rw [h1] at ha
  have k1 : (vr 0 n).map (·.val (env ++ [v])) = a := by rw [vals_more (vr_bd (by omega)), h1]
  have k2 : (vr n n).map (·.val (env ++ [v])) = b := by rw [vals_more (vr_bd (by omega)), h2]
  refine chkT_ok hA hq vr_length (by simp [hl]) (by rw [k2]; exact wb) (fun e => by rw [List.append_assoc]; exact hfin _ (.lit 1) rfl) fun hb v' => ?_
  rw [k2] at hb
  have l1 : (env ++ [v]).length = 2 * n + 1 := by simp [hl]
  have k1 : (vr 0 n).map (·.val (env ++ [v] ++ [v'])) = a := by rw [vals_more (vr_bd (by omega)), k1]
  have k2 : (vr n n).map (·.val (env ++ [v] ++ [v'])) = b := by rw [vals_more (vr_bd (by omega)), k2]
  have l2 : (env ++ [v] ++ [v']).length = 2 * n + 2 := by simp [hl]
  have e2 : ∀ e, env ++ [v] ++ [v'] ++ e = env ++ ([v] ++ [v'] ++ e) := by simp
  generalize hE : env ++ [v] ++ [v'] = E at *
  refine ⟨by rw [vals_app k1 k2]; exact hA.pre _ _ (by decide) (Wds.append wa wb), fun xs _ hp => ?_⟩
  rw [vals_app k1 k2] at hp
  have hx := hA.sub _ _ hp
  rw [take_app la, drop_app la] at hx
  have lx : xs.length = n := by rw [hx.1, la]
  have kx : (vr (2 * n + 2) n).map (·.val (E ++ xs)) = xs := vals_new l2.symm lx.symm
  have k1 : (vr 0 n).map (·.val (E ++ xs)) = a := by rw [vals_more (vr_bd (by omega)), k1]
  have k2 : (vr n n).map (·.val (E ++ xs)) = b := by rw [vals_more (vr_bd (by omega)), k2]
  have l3 : (E ++ xs).length = 3 * n + 2 := by simp; omega
  have k3 := vals_app (vals_app k1 k2) (ls_vals (q := q) (env := E ++ xs))
  refine ⟨by rw [k3]; exact hA.pre _ _ (by decide) (Wds.append (Wds.append wa wb) hq.wd), fun ys _ hp => ?_⟩
  rw [k3] at hp
  have hy := hA.subW _ _ hp
  obtain ⟨t1, t2, t3⟩ := three_app (x := a) (y := b) (z := q) la lb
  rw [t1, t2, t3] at hy
  have hxy := dif_one hx hy ha hb
  subst hxy
  refine sameE_ok hA (a := xs) ?_ (vals_new l3.symm lx.symm) lx (by simp; omega) hx.2.1 fun e o ho => ?_
  · rw [vals_more (vr_bd (by omega)), kx]
  · rw [List.append_assoc, List.append_assoc, e2] at ho ⊢
    exact hfin _ o ho

theorem lawDoubleT_ok (hA : WAsk A n q) (hq : WQ n q) {env : List Int} (hl : env.length = n) (hw : Wds env)
    (hfin : ∀ (e : List Int) (o : SI), o.val (env ++ e) = 1 → A.fin (enc [o]) st0 (env ++ e)) : (lawDoubleT n q).holds A env := by
  have h1 := one_vr hl
  refine chkT_ok hA hq vr_length hl.symm (by rw [h1]; exact hw) (fun e => hfin e (.lit 1) rfl) fun ha v => ?_
  rw [h1] at ha
  have k1 : (vr 0 n).map (·.val (env ++ [v])) = env := by rw [vals_more (vr_bd (by omega)), h1]
  have l2 : (env ++ [v]).length = n + 1 := by simp [hl]
  have e2 : ∀ e, env ++ [v] ++ e = env ++ ([v] ++ e) := by simp
  generalize hE : env ++ [v] = E at *
  refine ⟨by rw [k1]; exact hA.pre _ _ (by decide) hw, fun xs _ hp => ?_⟩
  rw [k1] at hp
  have hx := hA.double _ _ hp
  have lx : xs.length = n := by rw [hx.1, hl]
  have kx : (vr (n + 1) n).map (·.val (E ++ xs)) = xs := vals_new l2.symm lx.symm
  have k1 : (vr 0 n).map (·.val (E ++ xs)) = env := by rw [vals_more (vr_bd (by omega)), k1]
  have l3 : (E ++ xs).length = 2 * n + 1 := by simp; omega
  have k3 := vals_app (vals_app k1 k1) (ls_vals (q := q) (env := E ++ xs))
  refine ⟨by rw [k3]; exact hA.pre _ _ (by decide) (Wds.append (Wds.append hw hw) hq.wd), fun ys _ hp => ?_⟩
  rw [k3] at hp
  have hy := hA.addW _ _ hp
  obtain ⟨t1, t2, t3⟩ := three_app (x := env) (y := env) (z := q) hl hl
  rw [t1, t2, t3] at hy
  have hxy := sum_one hx hy ha ha
  subst hxy
  refine sameE_ok hA (a := xs) ?_ (vals_new l3.symm lx.symm) lx (by simp; omega) hx.2.1 fun e o ho => ?_
  · rw [vals_more (vr_bd (by omega)), kx]
  · rw [List.append_assoc, List.append_assoc, e2] at ho ⊢
    exact hfin _ o ho

theorem sum_lt {a b m x : List Int} (h : SumMod a b m x) (wa : Wds a) (wb : Wds b) (ha : vw a < vw m) (hb : vw b < vw m) : vw x < vw m := by
  have := h.2.2 ha hb
  have b1 := vw_bounds wa
  have b2 := vw_bounds wb
  split at this <;> omega

theorem vw_zero : ∀ n : Nat, vw (List.replicate n (0 : Int)) = 0
  | 0 => rfl
  | n + 1 => by rw [List.replicate_succ, vw, vw_zero n]; rfl

theorem lawBy3T_ok (hA : WAsk A n q) (hq : WQ n q) {env : List Int} (hl : env.length = n) (hw : Wds env)
    (hfin : ∀ (e : List Int) (o : SI), o.val (env ++ e) = 1 → A.fin (enc [o]) st0 (env ++ e)) : (lawBy3T n q).holds A env := by
  have h1 := one_vr hl
  refine chkT_ok hA hq vr_length hl.symm (by rw [h1]; exact hw) (fun e => hfin e (.lit 1) rfl) fun ha v => ?_
  rw [h1] at ha
  have k1 : (vr 0 n).map (·.val (env ++ [v])) = env := by rw [vals_more (vr_bd (by omega)), h1]
  have l2 : (env ++ [v]).length = n + 1 := by simp [hl]
  have e2 : ∀ e, env ++ [v] ++ e = env ++ ([v] ++ e) := by simp
  generalize hE : env ++ [v] = E at *
  refine ⟨by rw [k1]; exact hA.pre _ _ (by decide) hw, fun xs _ hp => ?_⟩
  rw [k1] at hp
  obtain ⟨d, hd, hx⟩ := hA.by3 _ _ hp
  have ld : d.length = n := by rw [hd.1, hl]
  have lx : xs.length = n := by rw [hx.1, ld]
  have kx : (vr (n + 1) n).map (·.val (E ++ xs)) = xs := vals_new l2.symm lx.symm
  have k1 : (vr 0 n).map (·.val (E ++ xs)) = env := by rw [vals_more (vr_bd (by omega)), k1]
  have l3 : (E ++ xs).length = 2 * n + 1 := by simp; omega
  have k3 := vals_app k1 (ls_vals (q := q) (env := E ++ xs))
  refine ⟨by rw [k3]; exact hA.pre _ _ (by decide) (Wds.append hw hq.wd), fun ys _ hp => ?_⟩
  rw [k3] at hp
  obtain ⟨z1, z2, g1, g2, g3⟩ := hA.times _ _ hp
  rw [take_app hl, drop_app hl] at g1 g2 g3
  have b0 := vw_bounds hw
  have z0 := vw_zero n
  have wz : Wds (List.replicate n (0 : Int)) := fun x hx => by rw [(List.mem_replicate.1 hx).2]; exact ⟨by decide, by decide⟩
  have v1 := g1.2.2 (by omega) ha
  rw [z0] at v1
  have hz1 : z1 = env := vw_inj (by rw [g1.1]; simp [hl]) g1.2.1 hw (by rw [v1]; split <;> omega)
  subst hz1
  have hz2 := sum_one g2 hd ha ha
  subst hz2
  have hxy := sum_one hx g3 (sum_lt hd hw hw ha ha) ha
  subst hxy
  refine sameE_ok hA (a := xs) ?_ (vals_new l3.symm lx.symm) lx (by simp; omega) hx.2.1 fun e o ho => ?_
  · rw [vals_more (vr_bd (by omega)), kx]
  · rw [List.append_assoc, List.append_assoc, e2] at ho ⊢
    exact hfin _ o ho

theorem lawFlyT_ok (hA : WAsk A n q) (hq : WQ n q) {env : List Int} (hl : env.length = 2 * n) (hw : Wds env)
    (hfin : ∀ (e : List Int) (o : SI), o.val (env ++ e) = 1 → A.fin (enc [o]) st0 (env ++ e)) : (lawFlyT n q).holds A env := by
  obtain ⟨h1, h2⟩ := two_vr hl
  have la : (env.take n).length = n := by simp; omega
  have lb : (env.drop n).length = n := by simp; omega
  have wa := hw.take n
  have wb := hw.drop n
  generalize env.take n = a at *
  generalize env.drop n = b at *
  refine chkT_ok hA hq vr_length hl.symm (by rw [h1]; exact wa) (fun e => hfin e (.lit 1) rfl) fun ha v => ?_
  rw [h1] at ha
  have k1 : (vr 0 n).map (·.val (env ++ [v])) = a := by rw [vals_more (vr_bd (by omega)), h1]
  have k2 : (vr n n).map (·.val (env ++ [v])) = b := by rw [vals_more (vr_bd (by omega)), h2]
  refine chkT_ok hA hq vr_length (by simp [hl]) (by rw [k2]; exact wb) (fun e => by rw [List.append_assoc]; exact hfin _ (.lit 1) rfl) fun hb v' => ?_
  rw [k2] at hb
  have l1 : (env ++ [v]).length = 2 * n + 1 := by simp [hl]
  have k1 : (vr 0 n).map (·.val (env ++ [v] ++ [v'])) = a := by rw [vals_more (vr_bd (by omega)), k1]
  have k2 : (vr n n).map (·.val (env ++ [v] ++ [v'])) = b := by rw [vals_more (vr_bd (by omega)), k2]
  have l2 : (env ++ [v] ++ [v']).length = 2 * n + 2 := by simp [hl]
  have e2 : ∀ e, env ++ [v] ++ [v'] ++ e = env ++ ([v] ++ [v'] ++ e) := by simp
  generalize hE : env ++ [v] ++ [v'] = E at *
  refine ⟨by rw [vals_app k1 k2]; exact hA.pre _ _ (by decide) (Wds.append wa wb), fun os los hp => ?_⟩
  rw [vals_app k1 k2] at hp
  obtain ⟨hs, hd⟩ := hA.fly _ _ hp
  rw [take_app la, drop_app la] at hs hd
  -- the two parts
  have split : os = os.take n ++ os.drop n := (List.take_append_drop n os).symm
  have ls : (os.take n).length = n := by rw [hs.1, la]
  have ld : (os.drop n).length = n := by rw [hd.1, la]
  generalize os.take n = s at *
  generalize os.drop n = d at *
  subst split
  have ks : (vr (2 * n + 2) n).map (·.val (E ++ (s ++ d))) = s := by rw [← List.append_assoc, vals_more (vr_bd (by simp; omega)), vals_new l2.symm ls.symm]
  have kd : (vr (3 * n + 2) n).map (·.val (E ++ (s ++ d))) = d := by rw [← List.append_assoc, vals_new (by simp; omega) ld.symm]
  have k1 : (vr 0 n).map (·.val (E ++ (s ++ d))) = a := by rw [vals_more (vr_bd (by omega)), k1]
  have k2 : (vr n n).map (·.val (E ++ (s ++ d))) = b := by rw [vals_more (vr_bd (by omega)), k2]
  have l3 : (E ++ (s ++ d)).length = 4 * n + 2 := by simp; omega
  have e3 : ∀ e, E ++ (s ++ d) ++ e = env ++ ([v] ++ [v'] ++ (s ++ d ++ e)) := by intro e; rw [← e2]; simp
  generalize hE3 : E ++ (s ++ d) = E3 at *
  obtain ⟨t1, t2, t3⟩ := three_app (x := a) (y := b) (z := q) la lb
  have k3 := vals_app (vals_app k1 k2) (ls_vals (q := q) (env := E3))
  refine ⟨by rw [k3]; exact hA.pre _ _ (by decide) (Wds.append (Wds.append wa wb) hq.wd), fun ys _ hp => ?_⟩
  rw [k3] at hp
  have hy := hA.addW _ _ hp
  rw [t1, t2, t3] at hy
  have hxy := sum_one hs hy ha hb
  subst hxy
  have ks' : (vr (2 * n + 2) n).map (·.val (E3 ++ s)) = s := by rw [vals_more (vr_bd (by omega)), ks]
  have ky : (vr (4 * n + 2) n).map (·.val (E3 ++ s)) = s := vals_new l3.symm ls.symm
  refine ⟨by rw [vals_app ks' ky]; exact hA.pre _ _ (by decide) (Wds.append hs.2.1 hs.2.1), fun r _ hp => ?_⟩
  rw [vals_app ks' ky] at hp
  have hp := hA.same _ _ hp
  rw [take_app ls, drop_app ls, decide_eq_true rfl] at hp
  subst hp
  have l5 : (E3 ++ s).length = 5 * n + 2 := by simp; omega
  have vt : (E3 ++ s ++ [b01 true]).getD (5 * n + 2) 0 = 1 := at_end l5.symm
  have k1 : (vr 0 n).map (·.val (E3 ++ s ++ [b01 true])) = a := by rw [vals_more (vr_bd (by omega)), vals_more (vr_bd (by omega)), k1]
  have k2 : (vr n n).map (·.val (E3 ++ s ++ [b01 true])) = b := by rw [vals_more (vr_bd (by omega)), vals_more (vr_bd (by omega)), k2]
  have kd' : (vr (3 * n + 2) n).map (·.val (E3 ++ s ++ [b01 true])) = d := by rw [vals_more (vr_bd (by omega)), vals_more (vr_bd (by omega)), kd]
  have e5 : ∀ e, E3 ++ s ++ [b01 true] ++ e = E3 ++ (s ++ [b01 true] ++ e) := by simp
  have l6 : (E3 ++ s ++ [b01 true]).length = 5 * n + 3 := by simp; omega
  generalize hE5 : E3 ++ s ++ [b01 true] = E5 at *
  have k3 := vals_app (vals_app k1 k2) (ls_vals (q := q) (env := E5))
  refine ⟨fun _ => ⟨by rw [k3]; exact hA.pre _ _ (by decide) (Wds.append (Wds.append wa wb) hq.wd), fun ys _ hp => ?_⟩, fun h => by rw [vt] at h; exact absurd h (by decide)⟩
  rw [k3] at hp
  have hy := hA.subW _ _ hp
  rw [t1, t2, t3] at hy
  have hxy := dif_one hd hy ha hb
  subst hxy
  refine sameE_ok hA (a := d) ?_ (vals_new l6.symm ld.symm) ld (by simp; omega) hd.2.1 fun e o ho => ?_
  · rw [vals_more (vr_bd (by omega)), kd']
  · rw [List.append_assoc, e5, e3] at ho ⊢
    exact hfin _ o ho
end
end Eng
