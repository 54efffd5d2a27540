/-
  Numbers by words: the laws on Montgomery's products of two, as trees of facts, for any number of words: an order turned, one as a factor, a square.
-/
import Derived.Test.YtakddcclpocejaaWC
import Derived.Test.YtakddcclpocejaaWE
import Derived.Test.YtakddcclpocejaaWV
namespace Eng
open Go

section
variable {A : Ask} {n : Nat} {q : List Int}

theorem vw_one (t : Int) : vw [t] = t := by simp [vw]
/-- Two products of the same number are the same words. -/
theorem mul_eq {X Y X' Y' r s : List Int} (hq1 : vw q % 2 = 1) (hr : MulM n q X Y r) (hs : MulM n q X' Y' s) (he : vw q ∣ vw X * vw Y - vw X' * vw Y') : r = s := by
  obtain ⟨lr, wr, br, dr⟩ := hr
  obtain ⟨ls, ws, bs, ds⟩ := hs
  refine mont_one (n := n) (a := [vw X' * vw Y']) hq1 ?_ (by rw [vw_one]; exact ds) wr ws (lr.trans ls.symm) br bs
  rw [vw_one]
  have := Int.dvd_add dr he
  have e : vw r * BW ^ n - vw X * vw Y + (vw X * vw Y - vw X' * vw Y') = vw r * BW ^ n - vw X' * vw Y' := by omega
  rw [e] at this; exact this
theorem mul_turn {X Y r s : List Int} (hq1 : vw q % 2 = 1) (hr : MulM n q X Y r) (hs : MulM n q Y X s) : r = s :=
  mul_eq hq1 hr hs (by rw [Int.mul_comm (vw Y), Int.sub_self]; exact Int.dvd_zero _)
theorem mul_same {X Y r s : List Int} (hq1 : vw q % 2 = 1) (hr : MulM n q X Y r) (hs : MulM n q X Y s) : r = s :=
  mul_eq hq1 hr hs (by rw [Int.sub_self]; exact Int.dvd_zero _)
/-- One as a factor. -/
theorem mul_one {X one r : List Int} (hq1 : vw q % 2 = 1) (ho : vw q ∣ vw one - BW ^ n) (lX : X.length = n) (wX : Wds X) (bX : vw X < vw q) (hr : MulM n q X one r) : r = X := by
  obtain ⟨lr, wr, br, dr⟩ := hr
  refine mont_one (n := n) (a := [vw X * vw one]) hq1 (by rw [vw_one]; exact dr) ?_ wr wX (lr.trans lX.symm) br bX
  rw [vw_one, ← Int.mul_sub]
  have := Int.dvd_neg.2 ho
  have e : -(vw one - BW ^ n) = BW ^ n - vw one := by omega
  rw [e] at this
  exact Int.dvd_mul_of_dvd_right this

/-- What is asked of the products. -/
structure XAsk (A : Ask) (n : Nat) (q : List Int) : Prop where
  pre30 : ∀ xs, Wds xs → vw (xs.drop (2 * n)) < vw q → A.pre 30 xs
  mulE : ∀ xs ys, A.post 30 xs ys → MulM n q ((xs.drop n).take n) (xs.drop (2 * n)) ys
  pre31 : ∀ xs, Wds xs → vw (xs.drop n) < vw q → A.pre 31 xs
  mul : ∀ xs ys, A.post 31 xs ys → MulM n q (xs.take n) (xs.drop n) ys
  pre32 : ∀ xs, Wds xs → vw (xs.drop n) < vw q → A.pre 32 xs
  sqE : ∀ xs ys, A.post 32 xs ys → MulM n q (xs.drop n) (xs.drop n) ys
  pre33 : ∀ xs, Wds xs → vw xs < vw q → A.pre 33 xs
  sq : ∀ xs ys, A.post 33 xs ys → MulM n q xs xs ys

theorem mul_step (hX : XAsk A n q) {xs ys : List SI} {t : Tree} {env a b : List Int} (hx : xs.map (·.val env) = a) (hy : ys.map (·.val env) = b) (la : a.length = n) (wa : Wds a) (wb : Wds b) (hb : vw b < vw q)
    (k : ∀ r, MulM n q a b r → t.holds A (env ++ r)) : (Tree.hav 31 (xs ++ ys) n t).holds A env := by
  refine ⟨?_, fun r _ h => ?_⟩
  · rw [vals_app hx hy]
    exact hX.pre31 _ (wa.append wb) (by rw [drop_app la]; exact hb)
  · rw [vals_app hx hy] at h
    have h := hX.mul _ _ h
    rw [take_app la, drop_app la] at h
    exact k r h
theorem sq_step (hX : XAsk A n q) {xs : List SI} {t : Tree} {env a : List Int} (hx : xs.map (·.val env) = a) (wa : Wds a) (hb : vw a < vw q)
    (k : ∀ r, MulM n q a a r → t.holds A (env ++ r)) : (Tree.hav 33 xs n t).holds A env := by
  refine ⟨by rw [hx]; exact hX.pre33 _ wa hb, fun r _ h => ?_⟩
  rw [hx] at h
  exact k r (hX.sq _ _ h)
theorem eqs_step {xs ys : List SI} {t : Tree} {env a b : List Int} (hx : xs.map (·.val env) = a) (hy : ys.map (·.val env) = b) (la : a.length = n) (k : t.holds A (env ++ [b01 (decide (a = b))])) : (Tree.dfn (.eqs n) (xs ++ ys) t).holds A env := by
  intro x hx'
  have hx' : x = b01 ((((xs ++ ys).map (·.val env)).take n) == (((xs ++ ys).map (·.val env)).drop n)) := hx'
  rw [vals_app hx hy, take_app la, drop_app la, beq_dec] at hx'
  subst hx'
  exact k
theorem vals_mid {env r e : List Int} {i m : Nat} (hi : i = env.length) (hm : m = r.length) : (vr i m).map (·.val (env ++ r ++ e)) = r := by
  rw [vals_more (vr_bd (by simp; omega)), vals_new hi hm]

def mulW (n : Nat) : Tree := .hav 30 (List.replicate n (.lit 0) ++ (vr 0 n ++ vr n n)) n (.fin (enc (vr (2 * n) n)) st0)
theorem mulW_ok (hX : XAsk A n q) {env : List Int} (hl : env.length = 2 * n) (hw : Wds env) (hb : vw (env.drop n) < vw q)
    (hk : ∀ (e : List Int) (os : List SI), MulM n q (env.take n) (env.drop n) (os.map (·.val (env ++ e))) → A.fin (enc os) st0 (env ++ e)) : (mulW n).holds A env := by
  obtain ⟨h1, h2⟩ := two_vr hl
  have hz : (List.replicate n (SI.lit 0)).map (·.val env) = List.replicate n 0 := by simp [SI.val]
  have e2 : env.take n ++ env.drop n = env := List.take_append_drop ..
  have lz : (List.replicate n (0 : Int)).length = n := by simp
  have d2 : (List.replicate n (0 : Int) ++ env).drop (2 * n) = env.drop n := by
    rw [Nat.two_mul, ← List.drop_drop, drop_app lz]
  refine ⟨?_, fun r lr h => ?_⟩
  · rw [vals_app hz (vals_app h1 h2), e2]
    refine hX.pre30 _ ?_ (by rw [d2]; exact hb)
    refine Wds.append (fun x hx => ?_) hw
    rw [List.eq_of_mem_replicate hx]
    exact ⟨by decide, by decide⟩
  · rw [vals_app hz (vals_app h1 h2), e2] at h
    have h := hX.mulE _ _ h
    rw [drop_app lz, d2] at h
    exact hk r _ (by rw [vals_new hl.symm lr.symm]; exact h)
def sqW (n : Nat) : Tree := .hav 32 (List.replicate n (.lit 0) ++ vr 0 n) n (.fin (enc (vr n n)) st0)
theorem sqW_ok (hX : XAsk A n q) {env : List Int} (hl : env.length = n) (hw : Wds env) (hb : vw env < vw q)
    (hk : ∀ (e : List Int) (os : List SI), MulM n q env env (os.map (·.val (env ++ e))) → A.fin (enc os) st0 (env ++ e)) : (sqW n).holds A env := by
  have h1 := one_vr hl
  have hz : (List.replicate n (SI.lit 0)).map (·.val env) = List.replicate n 0 := by simp [SI.val]
  have lz : (List.replicate n (0 : Int)).length = n := by simp
  refine ⟨?_, fun r lr h => ?_⟩
  · rw [vals_app hz h1]
    refine hX.pre32 _ ?_ (by rw [drop_app lz]; exact hb)
    refine Wds.append (fun x hx => ?_) hw
    rw [List.eq_of_mem_replicate hx]
    exact ⟨by decide, by decide⟩
  · rw [vals_app hz h1] at h
    have h := hX.sqE _ _ h
    rw [drop_app lz] at h
    exact hk r _ (by rw [vals_new hl.symm lr.symm]; exact h)

def lawTurnT (n : Nat) (q one : List Int) : Tree :=
  chkT q (vr 0 n) (2 * n) (chkT q (vr n n) (2 * n + 1) (.hav 31 (vr 0 n ++ vr n n) n (.hav 31 (vr n n ++ vr 0 n) n (.dfn (.eqs n) (vr (2 * n + 2) n ++ vr (3 * n + 2) n)
    (.br (4 * n + 2) (.hav 31 (vr 0 n ++ ls one) n (.dfn (.eqs n) (vr (4 * n + 3) n ++ vr 0 n) (.fin (enc [.var (5 * n + 3)]) st0))) (.fin (enc [.lit 0]) st0))))))
theorem lawTurnT_ok (hA : WAsk A n q) (hX : XAsk A n q) (hq : WQ n q) (hq1 : vw q % 2 = 1) {one : List Int} (wo : Wds one) (bo : vw one < vw q) (ho : vw q ∣ vw one - BW ^ n) {env : List Int} (hl : env.length = 2 * n) (hw : Wds env)
    (hfin : ∀ (e : List Int) (o : SI), o.val (env ++ e) = 1 → A.fin (enc [o]) st0 (env ++ e)) : (lawTurnT n q one).holds A env := by
  obtain ⟨h1, h2⟩ := two_vr hl
  have la : (env.take n).length = n := by simp; omega
  have lb : (env.drop n).length = n := by simp; omega
  have wa := hw.take n
  have wb := hw.drop n
  generalize env.take n = a at *
  generalize env.drop n = b at *
  refine chkT_ok hA hq vr_length hl.symm (by rw [h1]; exact wa) (fun e => hfin e (.lit 1) rfl) fun ha v => ?_
  rw [h1] at ha
  have k2 : (vr n n).map (·.val (env ++ [v])) = b := by rw [vals_more (vr_bd (by omega)), h2]
  refine chkT_ok hA hq vr_length (by simp [hl]) (by rw [k2]; exact wb) (fun e => by rw [List.append_assoc]; exact hfin _ (.lit 1) rfl) fun hb v' => ?_
  rw [k2] at hb
  have up : ∀ e, (vr 0 n).map (·.val (env ++ e)) = a ∧ (vr n n).map (·.val (env ++ e)) = b := fun e => ⟨by rw [vals_more (vr_bd (by omega)), h1], by rw [vals_more (vr_bd (by omega)), h2]⟩
  rw [List.append_assoc env]
  generalize hE : [v] ++ [v'] = E
  have lE : E.length = 2 := by rw [← hE]; rfl
  refine mul_step hX (up _).1 (up _).2 la wa wb hb fun r hr => ?_
  rw [List.append_assoc]
  refine mul_step hX (up _).2 (up _).1 lb wb wa ha fun s hs => ?_
  have ers := mul_turn hq1 hr hs
  subst ers
  have lr := hr.1
  have e1 : (vr (2 * n + 2) n).map (·.val (env ++ (E ++ r) ++ r)) = r := by
    rw [← List.append_assoc env]; exact vals_mid (by simp; omega) lr.symm
  have e2 : (vr (3 * n + 2) n).map (·.val (env ++ (E ++ r) ++ r)) = r := vals_new (by simp; omega) lr.symm
  refine eqs_step e1 e2 lr ?_
  rw [decide_eq_true rfl]
  refine ⟨fun _ => ?_, fun h => ?_⟩
  · rw [List.append_assoc env, List.append_assoc env]
    refine mul_step hX (up _).1 ls_vals la wa wo bo fun s hs => ?_
    have es := mul_one hq1 ho la wa ha hs
    subst es
    have e3 : (vr (4 * n + 3) n).map (·.val (env ++ ((E ++ r) ++ r ++ [b01 true]) ++ s)) = s := vals_new (by simp; omega) la.symm
    rw [List.append_assoc env] at e3 ⊢
    refine eqs_step e3 (up _).1 la ?_
    rw [decide_eq_true rfl, List.append_assoc env]
    refine hfin _ _ ?_
    rw [← List.append_assoc env, val_end (by simp; omega)]
    rfl
  · rw [at_end (by simp; omega)] at h
    cases h

def lawSqT (n : Nat) (q one : List Int) : Tree :=
  chkT q (vr 0 n) n (.hav 33 (vr 0 n) n (.hav 31 (vr 0 n ++ vr 0 n) n (.dfn (.eqs n) (vr (n + 1) n ++ vr (2 * n + 1) n)
    (.br (3 * n + 1) (.hav 33 (ls one) n (.dfn (.eqs n) (vr (3 * n + 2) n ++ ls one) (.br (4 * n + 2) (.dfn (.eqs n) (ls one ++ List.replicate n (.lit 0)) (.dfn (.cmp .neq) [.var (4 * n + 3), .lit 1] (.fin (enc [.var (4 * n + 4)]) st0)))
      (.fin (enc [.lit 0]) st0)))) (.fin (enc [.lit 0]) st0)))))
theorem lawSqT_ok (hA : WAsk A n q) (hX : XAsk A n q) (hq : WQ n q) (hq1 : vw q % 2 = 1) {one : List Int} (lo : one.length = n) (wo : Wds one) (bo : vw one < vw q) (ho : vw q ∣ vw one - BW ^ n) (hz : one ≠ List.replicate n 0) {env : List Int} (hl : env.length = n) (hw : Wds env)
    (hfin : ∀ (e : List Int) (o : SI), o.val (env ++ e) = 1 → A.fin (enc [o]) st0 (env ++ e)) : (lawSqT n q one).holds A env := by
  have h1 := one_vr hl
  refine chkT_ok hA hq vr_length hl.symm (by rw [h1]; exact hw) (fun e => hfin e (.lit 1) rfl) fun ha v => ?_
  rw [h1] at ha
  have up : ∀ e, (vr 0 n).map (·.val (env ++ e)) = env := fun e => by rw [vals_more (vr_bd (by omega)), h1]
  refine sq_step hX (up _) hw ha fun r hr => ?_
  rw [List.append_assoc]
  refine mul_step hX (up _) (up _) hl hw hw ha fun s hs => ?_
  have ers := mul_same hq1 hr hs
  subst ers
  have lr := hr.1
  have e1 : (vr (n + 1) n).map (·.val (env ++ ([v] ++ r) ++ r)) = r := by
    rw [← List.append_assoc env]; exact vals_mid (by simp; omega) lr.symm
  have e2 : (vr (2 * n + 1) n).map (·.val (env ++ ([v] ++ r) ++ r)) = r := vals_new (by simp; omega) lr.symm
  refine eqs_step e1 e2 lr ?_
  rw [decide_eq_true rfl]
  refine ⟨fun _ => ?_, fun h => ?_⟩
  · rw [List.append_assoc env, List.append_assoc env]
    refine sq_step hX ls_vals wo bo fun s hs => ?_
    have es := mul_one hq1 ho lo wo bo hs
    subst es
    have e3 : (vr (3 * n + 2) n).map (·.val (env ++ (([v] ++ r) ++ r ++ [b01 true]) ++ s)) = s := vals_new (by simp; omega) lo.symm
    rw [List.append_assoc env] at e3 ⊢
    refine eqs_step e3 ls_vals lo ?_
    rw [decide_eq_true rfl]
    refine ⟨fun _ => ?_, fun h => ?_⟩
    · have hzz : ∀ E : List Int, (List.replicate n (SI.lit 0)).map (·.val E) = List.replicate n 0 := fun E => by simp [SI.val]
      refine eqs_step ls_vals (hzz _) lo ?_
      rw [decide_eq_false hz]
      intro x hx
      generalize hG : env ++ (([v] ++ r) ++ r ++ [b01 true] ++ s) ++ [b01 true] = G at *
      have lG : G.length = 4 * n + 3 := by rw [← hG]; simp; omega
      have hv : (SI.var (4 * n + 3)).val (G ++ [b01 false]) = b01 false := val_end lG.symm
      have hx : x = b01 (cmpEv .neq ((SI.var (4 * n + 3)).val (G ++ [b01 false])) 1) := hx
      rw [hv] at hx
      have hx : x = 1 := hx
      have hF := hfin (([v] ++ r) ++ r ++ [b01 true] ++ s ++ [b01 true] ++ [b01 false] ++ [x]) (.var (4 * n + 4))
      have eG : env ++ (([v] ++ r) ++ r ++ [b01 true] ++ s ++ [b01 true] ++ [b01 false] ++ [x]) = G ++ [b01 false] ++ [x] := by rw [← hG]; simp
      rw [eG] at hF
      refine hF ?_
      rw [val_end (by simp; omega), hx]
    · rw [at_end (by simp; omega)] at h
      cases h
  · rw [at_end (by simp; omega)] at h
    cases h
end
end Eng
