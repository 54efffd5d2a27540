/-
  Numbers by words: Montgomery's product, as a tree of facts, for any number of words.
-/
import Derived.Test.YtakddcclpocejaaWY
namespace Eng
open Go

section
variable {A : Ask} {n : Nat} {q : List Int}

structure PAsk (A : Ask) : Prop where
  pre : ∀ xs, Wds xs → A.pre 20 xs
  mul : ∀ xs ys, A.post 20 xs ys → Mul64 xs ys

/-- Products of one word with many. -/
def muCh (k : List SI → List SI → Nat → Tree) (v : SI) : List SI → Nat → List SI → List SI → Tree
  | y :: ys, ne, us, ls => .hav 20 [v, y] 2 (muCh k v ys (ne + 2) (us ++ [.var ne]) (ls ++ [.var (ne + 1)]))
  | [], ne, us, ls => k us ls ne
/-- Products of one word with many, and many added. -/
def maCh (fl : Bool) (k : List SI → List SI → SI → Nat → Tree) (v : SI) : List SI → List SI → SI → Nat → List SI → List SI → Tree
  | y :: ys, x :: xs, c, ne, outs, us => .hav 20 [v, y] 2 (.dfn .addS (bif fl then [.var (ne + 1), x, c] else [x, .var (ne + 1), c]) (.dfn .addC (bif fl then [.var (ne + 1), x, c] else [x, .var (ne + 1), c])
      (maCh fl k v ys xs (.var (ne + 3)) (ne + 4) (outs ++ [.var (ne + 2)]) (us ++ [.var ne]))))
  | _, _, c, ne, outs, us => k outs us c ne

theorem two_end {env : List Int} {a b : Int} {ne : Nat} (h : ne = env.length) : (SI.var ne).val (env ++ [a, b]) = a ∧ (SI.var (ne + 1)).val (env ++ [a, b]) = b := by
  have e : env ++ [a, b] = env ++ [a] ++ [b] := by simp
  rw [e]
  exact ⟨by rw [val_more (x := .var ne) (by show ne < _; simp [h])]; exact val_end h, val_end (by simp [h])⟩
theorem bd_snoc {m i : Nat} {os : List SI} (h : ∀ z ∈ os, Bd m z) {m' : Nat} (hm : m ≤ m') (hi : i < m') : ∀ z ∈ os ++ [SI.var i], Bd m' z := by
  intro z hz
  rcases List.mem_append.1 hz with hz | hz
  · exact (h z hz).more hm
  · simp at hz; subst hz; exact hi

structure MuOk (env : List Int) (us ls : List SI) (v : Int) (Y : List Int) (n : Nat) (e : List Int) (us' ls' : List SI) (ne' : Nat) : Prop where
  ne : ne' = (env ++ e).length
  ub : ∀ z ∈ us', Bd ne' z
  lb : ∀ z ∈ ls', Bd ne' z
  val : ∃ U L : List Int, us'.map (·.val (env ++ e)) = us.map (·.val env) ++ U ∧ ls'.map (·.val (env ++ e)) = ls.map (·.val env) ++ L ∧ Wds U ∧ Wds L ∧ U.length = n ∧ L.length = n ∧ BW * vw U + vw L = v * vw Y
theorem muCh_ok (hA : PAsk A) {k : List SI → List SI → Nat → Tree} {v : SI} : ∀ (ys : List SI) (ne : Nat) (us ls : List SI) (env : List Int), ne = env.length → Bd ne v → (∀ y ∈ ys, Bd ne y) → (∀ z ∈ us, Bd ne z) → (∀ z ∈ ls, Bd ne z) →
    Wd (v.val env) → Wds (ys.map (·.val env)) →
    (∀ (e : List Int) (us' ls' : List SI) (ne' : Nat), MuOk env us ls (v.val env) (ys.map (·.val env)) ys.length e us' ls' ne' → (k us' ls' ne').holds A (env ++ e)) → (muCh k v ys ne us ls).holds A env
  | [], ne, us, ls, env, hne, _, _, hu, hl, _, _, hk => by
    have := hk [] us ls ne ⟨by simpa using hne, hu, hl, [], [], by simp, by simp, wds_nil, wds_nil, rfl, rfl, by simp [vw]⟩
    simp only [List.append_nil] at this
    exact this
  | y :: ys, ne, us, ls, env, hne, hv, hy, hu, hl, wv, wy, hk => by
    obtain ⟨wy0, wy⟩ := Wds.tail (by simpa using wy)
    refine ⟨hA.pre _ (wds_cons wv (wds_cons wy0 wds_nil)), fun zs _ h => ?_⟩
    obtain ⟨u, l, rfl, wu, wl, e⟩ := hA.mul _ _ h
    have e : BW * u + l = v.val env * y.val env := e
    obtain ⟨vu, vl⟩ := two_end (a := u) (b := l) hne
    have mv : v.val (env ++ [u, l]) = v.val env := val_more (by rw [← hne]; exact hv)
    have my : ys.map (·.val (env ++ [u, l])) = ys.map (·.val env) := vals_more fun z hz => by rw [← hne]; exact hy z (List.mem_cons_of_mem _ hz)
    have mu : us.map (·.val (env ++ [u, l])) = us.map (·.val env) := vals_more fun z hz => by rw [← hne]; exact hu z hz
    have ml : ls.map (·.val (env ++ [u, l])) = ls.map (·.val env) := vals_more fun z hz => by rw [← hne]; exact hl z hz
    refine muCh_ok hA ys (ne + 2) _ _ (env ++ [u, l]) (by simp [hne]) (hv.more (by omega)) (fun z hz => (hy z (List.mem_cons_of_mem _ hz)).more (by omega)) (bd_snoc hu (by omega) (by omega)) (bd_snoc hl (by omega) (by omega))
      (by rw [mv]; exact wv) (by rw [my]; exact wy) fun e' us' ls' ne' g => ?_
    obtain ⟨g1, g2, g3, U, L, g4, g5, g6, g7, g8, g9, g10⟩ := g
    have ee : env ++ ([u, l] ++ e') = env ++ [u, l] ++ e' := by rw [List.append_assoc]
    have := hk ([u, l] ++ e') us' ls' ne' ⟨by rw [ee]; exact g1, g2, g3, u :: U, l :: L, ?_, ?_, wds_cons wu g6, wds_cons wl g7, by simp [g8], by simp [g9], ?_⟩
    · rw [ee] at this; exact this
    · rw [ee, g4, List.map_append, mu, List.map_cons, List.map_nil, vu, List.append_assoc]; rfl
    · rw [ee, g5, List.map_append, ml, List.map_cons, List.map_nil, vl, List.append_assoc]; rfl
    · rw [mv, my] at g10
      simp only [vw, List.map_cons]
      rw [Int.mul_add, Int.mul_add, ← e, Int.mul_left_comm (v.val env), ← g10]
      simp only [BW]
      omega

structure MaOk (env : List Int) (outs us : List SI) (v c : Int) (Y X : List Int) (n : Nat) (e : List Int) (os us' : List SI) (c' : SI) (ne' : Nat) : Prop where
  ne : ne' = (env ++ e).length
  ob : ∀ z ∈ os, Bd ne' z
  ub : ∀ z ∈ us', Bd ne' z
  cb : Bd ne' c'
  bit : c'.val (env ++ e) = 0 ∨ c'.val (env ++ e) = 1
  val : ∃ D U : List Int, os.map (·.val (env ++ e)) = outs.map (·.val env) ++ D ∧ us'.map (·.val (env ++ e)) = us.map (·.val env) ++ U ∧ Wds D ∧ Wds U ∧ D.length = n ∧ U.length = n ∧
    vw D + BW ^ n * c'.val (env ++ e) + BW * vw U = vw X + v * vw Y + c
theorem maCh_ok (hA : PAsk A) {fl : Bool} {k : List SI → List SI → SI → Nat → Tree} {v : SI} : ∀ (ys xs : List SI) (c : SI) (ne : Nat) (outs us : List SI) (env : List Int), ys.length = xs.length → ne = env.length → Bd ne v → (∀ y ∈ ys, Bd ne y) → (∀ x ∈ xs, Bd ne x) → Bd ne c → (∀ z ∈ outs, Bd ne z) → (∀ z ∈ us, Bd ne z) →
    Wd (v.val env) → Wds (ys.map (·.val env)) → Wds (xs.map (·.val env)) → (c.val env = 0 ∨ c.val env = 1) →
    (∀ (e : List Int) (os us' : List SI) (c' : SI) (ne' : Nat), MaOk env outs us (v.val env) (c.val env) (ys.map (·.val env)) (xs.map (·.val env)) ys.length e os us' c' ne' → (k os us' c' ne').holds A (env ++ e)) → (maCh fl k v ys xs c ne outs us).holds A env
  | [], [], c, ne, outs, us, env, _, hne, _, _, _, hc, ho, hu, _, _, _, bc, hk => by
    have := hk [] outs us c ne ⟨by simpa using hne, ho, hu, hc, by simpa using bc, [], [], by simp, by simp, wds_nil, wds_nil, rfl, rfl, by simp [vw]⟩
    simp only [List.append_nil] at this
    exact this
  | y :: ys, x :: xs, c, ne, outs, us, env, hl, hne, hv, hy, hx, hc, ho, hu, wv, wy, wx, bc, hk => by
    obtain ⟨wy0, wy⟩ := Wds.tail (by simpa using wy)
    obtain ⟨wx0, wx⟩ := Wds.tail (by simpa using wx)
    have bx := hx x (List.mem_cons_self ..)
    rw [hne] at bx hc
    refine ⟨hA.pre _ (wds_cons wv (wds_cons wy0 wds_nil)), fun zs _ h => ?_⟩
    obtain ⟨u, l, rfl, wu, wl, e⟩ := hA.mul _ _ h
    have e : BW * u + l = v.val env * y.val env := e
    obtain ⟨vu, vl⟩ := two_end (a := u) (b := l) hne
    have mx0 : x.val (env ++ [u, l]) = x.val env := val_more bx
    have mc : c.val (env ++ [u, l]) = c.val env := val_more hc
    intro s hs
    intro b hb
    have hs : s = (((x.val env).toNat + l.toNat + (c.val env).toNat) % 18446744073709551616 : Nat) := by
      cases fl
      · have hs : s = (((x.val (env ++ [u, l])).toNat + ((SI.var (ne + 1)).val (env ++ [u, l])).toNat + (c.val (env ++ [u, l])).toNat) % 18446744073709551616 : Nat) := hs
        rw [mx0, vl, mc] at hs; exact hs
      · have hs : s = ((((SI.var (ne + 1)).val (env ++ [u, l])).toNat + (x.val (env ++ [u, l])).toNat + (c.val (env ++ [u, l])).toNat) % 18446744073709551616 : Nat) := hs
        rw [mx0, vl, mc, Nat.add_comm l.toNat] at hs; exact hs
    have e3 : env ++ [u, l] ++ [s] = env ++ [u, l, s] := by simp
    have e4 : env ++ [u, l] ++ [s] ++ [b] = env ++ [u, l, s, b] := by simp
    have vl3 : (SI.var (ne + 1)).val (env ++ [u, l] ++ [s]) = l := by rw [val_more (x := .var (ne + 1)) (by show ne + 1 < _; simp [hne]), vl]
    have mx3 : x.val (env ++ [u, l] ++ [s]) = x.val env := by rw [e3]; exact val_more bx
    have mc3 : c.val (env ++ [u, l] ++ [s]) = c.val env := by rw [e3]; exact val_more hc
    have hb : b = b01 (decide (18446744073709551616 ≤ (x.val env).toNat + l.toNat + (c.val env).toNat)) := by
      cases fl
      · have hb : b = b01 (decide (18446744073709551616 ≤ (x.val (env ++ [u, l] ++ [s])).toNat + ((SI.var (ne + 1)).val (env ++ [u, l] ++ [s])).toNat + (c.val (env ++ [u, l] ++ [s])).toNat)) := hb
        rw [mx3, vl3, mc3] at hb; exact hb
      · have hb : b = b01 (decide (18446744073709551616 ≤ ((SI.var (ne + 1)).val (env ++ [u, l] ++ [s])).toNat + (x.val (env ++ [u, l] ++ [s])).toNat + (c.val (env ++ [u, l] ++ [s])).toNat)) := hb
        rw [mx3, vl3, mc3, Nat.add_comm l.toNat] at hb; exact hb
    obtain ⟨ws, bb, es⟩ := add_step wx0 wl bc hs hb
    have mv : v.val (env ++ [u, l] ++ [s] ++ [b]) = v.val env := by rw [e4]; exact val_more (by rw [← hne]; exact hv)
    have my : ys.map (·.val (env ++ [u, l] ++ [s] ++ [b])) = ys.map (·.val env) := by rw [e4]; exact vals_more fun z hz => by rw [← hne]; exact hy z (List.mem_cons_of_mem _ hz)
    have mx : xs.map (·.val (env ++ [u, l] ++ [s] ++ [b])) = xs.map (·.val env) := by rw [e4]; exact vals_more fun z hz => by rw [← hne]; exact hx z (List.mem_cons_of_mem _ hz)
    have mo : outs.map (·.val (env ++ [u, l] ++ [s] ++ [b])) = outs.map (·.val env) := by rw [e4]; exact vals_more fun z hz => by rw [← hne]; exact ho z hz
    have mu : us.map (·.val (env ++ [u, l] ++ [s] ++ [b])) = us.map (·.val env) := by rw [e4]; exact vals_more fun z hz => by rw [← hne]; exact hu z hz
    have vb : (SI.var (ne + 3)).val (env ++ [u, l] ++ [s] ++ [b]) = b := val_end (by simp [hne])
    have vs : (SI.var (ne + 2)).val (env ++ [u, l] ++ [s] ++ [b]) = s := by rw [val_more (x := .var (ne + 2)) (by show ne + 2 < _; simp [hne])]; exact val_end (by simp [hne])
    have vu4 : (SI.var ne).val (env ++ [u, l] ++ [s] ++ [b]) = u := by rw [val_more (x := .var ne) (by show ne < _; simp [hne]), val_more (x := .var ne) (by show ne < _; simp [hne]), vu]
    refine maCh_ok hA ys xs (.var (ne + 3)) (ne + 4) _ _ (env ++ [u, l] ++ [s] ++ [b]) (by simpa using hl) (by simp [hne]) (hv.more (by omega)) (fun z hz => (hy z (List.mem_cons_of_mem _ hz)).more (by omega)) (fun z hz => (hx z (List.mem_cons_of_mem _ hz)).more (by omega))
      (show ne + 3 < ne + 4 by omega) (bd_snoc ho (by omega) (by omega)) (bd_snoc hu (by omega) (by omega)) (by rw [mv]; exact wv) (by rw [my]; exact wy) (by rw [mx]; exact wx) (by rw [vb]; exact bb) fun e' os us' c' ne' g => ?_
    obtain ⟨g1, g2, g3, g4, g5, D, U, g6, g7, g8, g9, g10, g11, g12⟩ := g
    have ee : env ++ ([u, l, s, b] ++ e') = env ++ [u, l] ++ [s] ++ [b] ++ e' := by simp
    have := hk ([u, l, s, b] ++ e') os us' c' ne' ⟨by rw [ee]; exact g1, g2, g3, g4, by rw [ee]; exact g5, s :: D, u :: U, ?_, ?_, wds_cons ws g8, wds_cons wu g9, by simp [g10], by simp [g11], ?_⟩
    · rw [ee] at this; exact this
    · rw [ee, g6, List.map_append, mo, List.map_cons, List.map_nil, vs, List.append_assoc]; rfl
    · rw [ee, g7, List.map_append, mu, List.map_cons, List.map_nil, vu4, List.append_assoc]; rfl
    · rw [mv, my, mx, vb] at g12
      rw [ee]
      simp only [vw, List.map_cons, List.length_cons, Int.pow_succ]
      rw [Int.mul_comm (BW ^ ys.length) BW, Int.mul_assoc, Int.mul_add (v.val env), ← e, Int.mul_left_comm (v.val env)]
      generalize BW ^ ys.length * c'.val (env ++ [u, l] ++ [s] ++ [b] ++ e') = T at *
      generalize v.val env * vw (ys.map (·.val env)) = V at *
      simp only [BW] at *
      omega
  | [], _ :: _, _, _, _, _, _, h, _, _, _, _, _, _, _, _, _, _, _, _ => by simp at h
  | _ :: _, [], _, _, _, _, _, h, _, _, _, _, _, _, _, _, _, _, _, _ => by simp at h
end
end Eng
