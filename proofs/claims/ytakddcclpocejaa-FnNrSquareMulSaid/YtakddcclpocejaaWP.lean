/-
  Numbers by words: comparisons, the reference's sum and difference, as trees of facts over the first words of the list.
-/
import Derived.Test.YtakddcclpocejaaWO
namespace Eng
open Go

section
variable {A : Ask} {n : Nat} {q : List Int}
theorem rev_bd {i n m : Nat} (h : i + n ≤ m) : ∀ x ∈ (vr i n).reverse, Bd m x := fun x hx => vr_bd h x (List.mem_reverse.1 hx)
theorem rev_vals {xs : List SI} {env : List Int} : (xs.reverse.map (·.val env)).reverse = xs.map (·.val env) := by rw [← List.map_reverse, List.reverse_reverse]

theorem lessF_ok {env : List Int} (hl : env.length = 2 * n) (hw : Wds env)
    (hk : ∀ (e : List Int) (o : SI), o.val (env ++ e) = b01 (decide (vw (env.take n) < vw (env.drop n))) → A.fin (enc [o]) st0 (env ++ e)) : (lessR (vr 0 n).reverse (vr n n).reverse (2 * n)).holds A env := by
  obtain ⟨h1, h2⟩ := two_vr hl
  refine lessR_ok _ _ _ env (by simp [vr]) hl.symm (rev_bd (by omega)) (rev_bd (by omega)) ?_ ?_ fun e o ho => hk e o ?_
  · rw [List.map_reverse, h1]; exact wds_rev (hw.take n)
  · rw [List.map_reverse, h2]; exact wds_rev (hw.drop n)
  · rw [rev_vals, rev_vals, h1, h2] at ho; exact ho
theorem smallF_ok (hq : WQ n q) (hn : n ≠ 0) {env : List Int} (hl : env.length = n) (hw : Wds env)
    (hk : ∀ (e : List Int) (o : SI), o.val (env ++ e) = b01 (decide (vw env < vw q)) → A.fin (enc [o]) st0 (env ++ e)) : (smallR (vr 0 n).reverse (ls q).reverse n).holds A env := by
  have h1 := one_vr hl
  refine smallR_ok _ _ _ env ?_ (by simp [vr, ls, hq.len]) hl.symm (rev_bd (by omega)) (fun x hx => ls_bd x (List.mem_reverse.1 hx)) ?_ ?_ fun e o ho => hk e o ?_
  · intro h
    have := congrArg List.length h
    simp [vr] at this
    exact hn this
  · rw [List.map_reverse, h1]; exact wds_rev hw
  · rw [List.map_reverse, ls_vals]; exact wds_rev hq.wd
  · rw [rev_vals, rev_vals, h1, ls_vals] at ho; exact ho
theorem sameF_ok {env : List Int} (hl : env.length = 2 * n)
    (hk : ∀ (e : List Int) (o : SI), o.val (env ++ e) = b01 (decide (env.take n = env.drop n)) → A.fin (enc [o]) st0 (env ++ e)) : (sameT (vr 0 n) (vr n n) (2 * n)).holds A env := by
  obtain ⟨h1, h2⟩ := two_vr hl
  refine sameT_ok _ _ _ env (by simp [vr]) hl.symm (vr_bd (by omega)) (vr_bd (by omega)) fun e o ho => hk e o ?_
  rw [h1, h2] at ho; exact ho
theorem plusF_ok {env : List Int} (hl : env.length = 2 * n) (hw : Wds env)
    (hk : ∀ (e : List Int) (os : List SI), Plus (env.take n) (env.drop n) (os.map (·.val (env ++ e))) → A.fin (enc os) st0 (env ++ e)) : (plusT n n 0 0 (2 * n) []).holds A env := by
  have la : (env.take n).length = n := by simp; omega
  have lb : (env.drop n).length = n := by simp; omega
  have e0 : env.take n ++ env.drop n = env := List.take_append_drop n env
  have := plusT_ok (A := A) la lb (hw.take n) (hw.drop n) (fun τ ext h => by rw [e0] at h ⊢; exact hk ext τ h) n 0 0 (2 * n) [] [] (by omega) (by simp; omega) (.inl rfl) (by simp) rfl (by intro x hx; simp at hx) (by simp [vw])
  rw [List.append_nil, e0] at this
  exact this
theorem lessenF_ok {env : List Int} (hl : env.length = 2 * n) (hw : Wds env)
    (hk : ∀ (e : List Int) (os : List SI), Lessen (env.take n) (env.drop n) (os.map (·.val (env ++ e))) → A.fin (enc os) st0 (env ++ e)) : (lessenT n n 0 0 (2 * n) []).holds A env := by
  have la : (env.take n).length = n := by simp; omega
  have lb : (env.drop n).length = n := by simp; omega
  have e0 : env.take n ++ env.drop n = env := List.take_append_drop n env
  have := lessenT_ok (A := A) la lb (hw.take n) (hw.drop n) (fun τ ext h => by rw [e0] at h ⊢; exact hk ext τ h) n 0 0 (2 * n) [] [] (by omega) (by simp; omega) (.inl rfl) (by simp) rfl (by intro x hx; simp at hx) (by simp [vw])
  rw [List.append_nil, e0] at this
  exact this
end

/-! ### equal just if the words are -/
theorem wrap_nat (n : Nat) (h : n < 18446744073709551616) : IntKind.u64.wrap (n : Int) = n := (fits_iff .u64 n).2 ⟨by simp [kMin], by simp [kMax]; omega⟩
theorem wd_wrap (x : Int) : Wd (IntKind.u64.wrap x) := by
  have := (fits_iff _ _).1 (fits_wrap .u64 x)
  simp [kMin, kMax] at this
  exact ⟨by omega, by omega⟩
def xo (x y : Int) : Int := binEv .xor .u64 x y
def orr (x y : Int) : Int := binEv .or .u64 x y
theorem bv_int {x y : Int} (hx : Wd x) (hy : Wd y) (h : BitVec.ofInt 64 x = BitVec.ofInt 64 y) : x = y := by
  have := congrArg BitVec.toNat h
  simp [Wd] at this hx hy
  omega
theorem xo_zero {x y : Int} (hx : Wd x) (hy : Wd y) : xo x y = 0 ↔ x = y := by
  have hlt := (BitVec.ofInt 64 x ^^^ BitVec.ofInt 64 y).isLt
  show IntKind.u64.wrap (((BitVec.ofInt 64 x ^^^ BitVec.ofInt 64 y).toNat : Nat) : Int) = 0 ↔ _
  rw [wrap_nat _ hlt]
  constructor
  · intro h
    have h0 : BitVec.ofInt 64 x ^^^ BitVec.ofInt 64 y = 0#64 := BitVec.eq_of_toNat_eq (by simpa using h)
    have : BitVec.ofInt 64 x = BitVec.ofInt 64 y := by
      have := congrArg (· ^^^ BitVec.ofInt 64 y) h0
      simpa [BitVec.xor_assoc] using this
    exact bv_int hx hy this
  · rintro rfl
    simp
theorem orr_zero {x y : Int} (hx : Wd x) (hy : Wd y) : orr x y = 0 ↔ x = 0 ∧ y = 0 := by
  have hlt := (BitVec.ofInt 64 x ||| BitVec.ofInt 64 y).isLt
  show IntKind.u64.wrap (((BitVec.ofInt 64 x ||| BitVec.ofInt 64 y).toNat : Nat) : Int) = 0 ↔ _
  rw [wrap_nat _ hlt]
  constructor
  · intro h
    have h0 : BitVec.ofInt 64 x ||| BitVec.ofInt 64 y = 0#64 := BitVec.eq_of_toNat_eq (by simpa using h)
    have h1 := BitVec.or_eq_zero_iff.1 h0
    refine ⟨bv_int hx ⟨by decide, by decide⟩ (by simpa using h1.1), bv_int hy ⟨by decide, by decide⟩ (by simpa using h1.2)⟩
  · rintro ⟨rfl, rfl⟩
    simp

def xorCh (k : SI → Nat → Tree) : List SI → List SI → SI → Nat → Tree
  | x :: xs, y :: ys, acc, ne => .dfn (.bin .xor .u64) [x, y] (.dfn (.bin .or .u64) [acc, .var ne] (xorCh k xs ys (.var (ne + 1)) (ne + 2)))
  | _, _, acc, ne => k acc ne
def difT (k : SI → Nat → Tree) : List SI → List SI → Nat → Tree
  | x :: xs, y :: ys, ne => .dfn (.bin .xor .u64) [x, y] (xorCh k xs ys (.var ne) (ne + 1))
  | _, _, _ => .bad 51
theorem xorCh_ok {A : Ask} {k : SI → Nat → Tree} {p : Prop} : ∀ (xs ys : List SI) (acc : SI) (ne : Nat) (env : List Int), xs.length = ys.length → ne = env.length → (∀ x ∈ xs, Bd ne x) → (∀ y ∈ ys, Bd ne y) → Bd ne acc →
    Wds (xs.map (·.val env)) → Wds (ys.map (·.val env)) → Wd (acc.val env) → (acc.val env = 0 ↔ p) →
    (∀ (e : List Int) (o : SI) (ne' : Nat), ne' = (env ++ e).length → Bd ne' o → Wd (o.val (env ++ e)) → (o.val (env ++ e) = 0 ↔ p ∧ xs.map (·.val env) = ys.map (·.val env)) → (k o ne').holds A (env ++ e)) → (xorCh k xs ys acc ne).holds A env
  | [], [], acc, ne, env, _, hne, _, _, ha, _, _, wa, hp, hk => by
    have := hk [] acc ne (by simpa using hne) ha (by simpa using wa) (by simpa using hp)
    simp only [List.append_nil] at this
    exact this
  | x :: xs, y :: ys, acc, ne, env, hl, hne, hx, hy, ha, wx, wy, wa, hp, hk => by
    have bx := hx x (List.mem_cons_self ..)
    have by' := hy y (List.mem_cons_self ..)
    obtain ⟨wx0, wx⟩ := Wds.tail (by simpa using wx)
    obtain ⟨wy0, wy⟩ := Wds.tail (by simpa using wy)
    rw [hne] at bx by' ha
    intro d hd
    intro b hb
    have hd : d = xo (x.val env) (y.val env) := hd
    have hb : b = orr (acc.val (env ++ [d])) ((SI.var ne).val (env ++ [d])) := hb
    rw [val_more ha, val_end hne] at hb
    have hd0 := xo_zero wx0 wy0
    rw [← hd] at hd0
    have wd : Wd d := by rw [hd]; exact wd_wrap _
    have hb0 := orr_zero wa wd
    rw [← hb] at hb0
    have env2 : env ++ [d] ++ [b] = env ++ ([d] ++ [b]) := by simp
    have mx : xs.map (·.val (env ++ [d] ++ [b])) = xs.map (·.val env) := by rw [env2]; exact vals_more fun z hz => by rw [← hne]; exact hx z (List.mem_cons_of_mem _ hz)
    have my : ys.map (·.val (env ++ [d] ++ [b])) = ys.map (·.val env) := by rw [env2]; exact vals_more fun z hz => by rw [← hne]; exact hy z (List.mem_cons_of_mem _ hz)
    have vb : (SI.var (ne + 1)).val (env ++ [d] ++ [b]) = b := val_end (by simp [hne])
    refine xorCh_ok (p := p ∧ x.val env = y.val env) xs ys (.var (ne + 1)) (ne + 2) (env ++ [d] ++ [b]) (by simpa using hl) (by simp [hne]) (fun z hz => (hx z (List.mem_cons_of_mem _ hz)).more (by omega)) (fun z hz => (hy z (List.mem_cons_of_mem _ hz)).more (by omega))
      (show ne + 1 < ne + 2 by omega) (by rw [mx]; exact wx) (by rw [my]; exact wy) (by rw [vb, hb]; exact wd_wrap _) (by rw [vb, hb0, hp, hd0]) fun e o ne' h1 h2 h3 h4 => ?_
    rw [mx, my] at h4
    have := hk ([d] ++ [b] ++ e) o ne' (by rw [h1]; simp) h2 (by rw [← List.append_assoc, ← env2]; exact h3) (by
      rw [← List.append_assoc, ← env2, h4, List.map_cons, List.map_cons, List.cons.injEq, and_assoc])
    rw [← List.append_assoc, ← env2] at this
    exact this
  | [], _ :: _, _, _, _, h, _, _, _, _, _, _, _, _, _ => by simp at h
  | _ :: _, [], _, _, _, h, _, _, _, _, _, _, _, _, _ => by simp at h
theorem difT_ok {A : Ask} {k : SI → Nat → Tree} (xs ys : List SI) (ne : Nat) (env : List Int) (hn : xs ≠ []) (hl : xs.length = ys.length) (hne : ne = env.length) (hx : ∀ x ∈ xs, Bd ne x) (hy : ∀ y ∈ ys, Bd ne y)
    (wx : Wds (xs.map (·.val env))) (wy : Wds (ys.map (·.val env)))
    (hk : ∀ (e : List Int) (o : SI) (ne' : Nat), ne' = (env ++ e).length → Bd ne' o → Wd (o.val (env ++ e)) → (o.val (env ++ e) = 0 ↔ xs.map (·.val env) = ys.map (·.val env)) → (k o ne').holds A (env ++ e)) : (difT k xs ys ne).holds A env := by
  match xs, ys, hl, hn with
  | x :: xs, y :: ys, hl, _ =>
    obtain ⟨wx0, wx⟩ := Wds.tail (by simpa using wx)
    obtain ⟨wy0, wy⟩ := Wds.tail (by simpa using wy)
    intro d hd
    have hd : d = xo (x.val env) (y.val env) := hd
    have hd0 := xo_zero wx0 wy0
    rw [← hd] at hd0
    have mx : xs.map (·.val (env ++ [d])) = xs.map (·.val env) := vals_more fun z hz => by rw [← hne]; exact hx z (List.mem_cons_of_mem _ hz)
    have my : ys.map (·.val (env ++ [d])) = ys.map (·.val env) := vals_more fun z hz => by rw [← hne]; exact hy z (List.mem_cons_of_mem _ hz)
    refine xorCh_ok (p := x.val env = y.val env) xs ys (.var ne) (ne + 1) (env ++ [d]) (by simpa using hl) (by simp [hne]) (fun z hz => (hx z (List.mem_cons_of_mem _ hz)).more (by omega)) (fun z hz => (hy z (List.mem_cons_of_mem _ hz)).more (by omega))
      (show ne < ne + 1 by omega) (by rw [mx]; exact wx) (by rw [my]; exact wy) (by rw [val_end hne, hd]; exact wd_wrap _) (by rw [val_end hne, hd0]) fun e o ne' h1 h2 h3 h4 => ?_
    rw [mx, my] at h4
    have := hk ([d] ++ e) o ne' (by rw [h1]; simp) h2 (by rw [← List.append_assoc]; exact h3) (by
      rw [← List.append_assoc, h4, List.map_cons, List.map_cons, List.cons.injEq])
    rw [← List.append_assoc] at this
    exact this
end Eng
