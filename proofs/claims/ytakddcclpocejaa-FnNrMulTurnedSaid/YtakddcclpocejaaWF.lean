/-
  Numbers by words: the opposite, elements of numbers of 64 bits with and without a sign, and the law on them: as trees of facts, for any number of words.
-/
import Derived.Test.YtakddcclpocejaaWD
namespace Eng
open Go

section
variable {A : Ask} {n : Nat} {q : List Int}

theorem vw_zeros : ∀ k : Nat, vw (List.replicate k 0) = 0
  | 0 => rfl
  | k + 1 => by rw [List.replicate_succ]; show 0 + BW * vw (List.replicate k 0) = 0; rw [vw_zeros k]; simp
theorem wds_zeros (k : Nat) : Wds (List.replicate k 0) := fun x hx => by rw [List.eq_of_mem_replicate hx]; exact ⟨by decide, by decide⟩
theorem lz_vals {E : List Int} (k : Nat) : (List.replicate k (SI.lit 0)).map (·.val E) = List.replicate k 0 := by simp [SI.val]
theorem vw_all : ∀ {l : List Int}, Wds l → (vw l = 0 ↔ ∀ x ∈ l, x = 0)
  | [], _ => by simp [vw]
  | x :: l, h => by
    obtain ⟨hx, hl⟩ := Wds.tail h
    have b := vw_bounds hl
    have e : vw (x :: l) = x + BW * vw l := rfl
    have ih := vw_all hl
    rw [e]
    constructor
    · intro h0 y hy
      have h1 : x = 0 ∧ vw l = 0 := by
        have := hx.1
        have hB : BW = 18446744073709551616 := rfl
        rw [hB] at h0
        omega
      rcases List.mem_cons.1 hy with rfl | hy
      · exact h1.1
      · exact ih.1 h1.2 y hy
    · intro ha
      rw [ha x (List.mem_cons_self ..), ih.2 fun y hy => ha y (List.mem_cons_of_mem _ hy)]
      simp

def orCh (k : SI → Nat → Tree) : SI → List SI → Nat → Tree
  | c, x :: xs, ne => .dfn (.bin .or .u64) [c, x] (orCh k (.var ne) xs (ne + 1))
  | c, [], ne => k c ne
theorem orCh_ok {k : SI → Nat → Tree} : ∀ (xs : List SI) (c : SI) (ne : Nat) (env : List Int), ne = env.length → Bd ne c → (∀ x ∈ xs, Bd ne x) → Wd (c.val env) → Wds (xs.map (·.val env)) →
    (∀ (e : List Int) (c' : SI) (ne' : Nat), ne' = (env ++ e).length → Bd ne' c' → (c'.val (env ++ e) = 0 ↔ c.val env = 0 ∧ ∀ y ∈ xs.map (·.val env), y = 0) → (k c' ne').holds A (env ++ e)) → (orCh k c xs ne).holds A env
  | [], c, ne, env, hne, hc, _, _, _, hk => by
    have := hk [] c ne (by simpa using hne) hc (by simp)
    simp only [List.append_nil] at this
    exact this
  | x :: xs, c, ne, env, hne, hc, hx, wc, wx, hk => by
    obtain ⟨wx0, wx⟩ := Wds.tail (by simpa using wx)
    intro v hv
    have hv : v = orr (c.val env) (x.val env) := hv
    have h0 := orr_zero wc wx0
    rw [← hv] at h0
    have vv : (SI.var ne).val (env ++ [v]) = v := val_end hne
    have mx : xs.map (·.val (env ++ [v])) = xs.map (·.val env) := vals_more fun z hz => by rw [← hne]; exact hx z (List.mem_cons_of_mem _ hz)
    refine orCh_ok xs (.var ne) (ne + 1) (env ++ [v]) (by simp [hne]) (show ne < ne + 1 by omega) (fun z hz => (hx z (List.mem_cons_of_mem _ hz)).more (by omega)) (by rw [vv, hv]; exact wd_wrap _) (by rw [mx]; exact wx) fun e c' ne' h1 h2 h3 => ?_
    rw [mx, vv, h0] at h3
    have := hk ([v] ++ e) c' ne' (by rw [h1]; simp) h2 (by
      rw [← List.append_assoc, h3, List.map_cons, List.forall_mem_cons, and_assoc])
    rw [← List.append_assoc] at this
    exact this

/-- The opposite. -/
def NegM (n : Nat) (q X r : List Int) : Prop := r.length = n ∧ Wds r ∧ vw r = if vw X = 0 then 0 else vw q - vw X
def negT (n : Nat) (q : List Int) (xs : List SI) (ne : Nat) : Tree :=
  orCh (fun c ne => .dfn (.cmp .eql) [c, .lit 0] (.br ne (.fin (enc (List.replicate n (.lit 0))) st0) (subCh (fun os _ _ => .fin (enc os) st0) (ls q) xs (.lit 0) (ne + 1) []))) (xs.getLastD (.lit 0)) xs.dropLast.reverse ne
theorem negT_ok (hq : WQ n q) (hn : n ≠ 0) {xs : List SI} {ne : Nat} {env X : List Int} (lx : xs.length = n) (hne : ne = env.length) (hx : ∀ x ∈ xs, Bd ne x) (hX : xs.map (·.val env) = X) (wX : Wds X) (bX : vw X < vw q)
    (hk : ∀ (e : List Int) (os : List SI), NegM n q X (os.map (·.val (env ++ e))) → A.fin (enc os) st0 (env ++ e)) : (negT n q xs ne).holds A env := by
  have lX : X.length = n := by rw [← hX, List.length_map, lx]
  have nX : X ≠ [] := fun h => hn (by rw [← lX, h]; rfl)
  have hsp := last_split nX
  have eL : (xs.getLastD (.lit 0)).val env = X.getLastD 0 := by rw [last_val, hX]
  have eD : xs.dropLast.reverse.map (·.val env) = X.dropLast.reverse := by rw [List.map_reverse, ← hX, List.map_dropLast]
  refine orCh_ok _ _ _ _ hne (last_bd hx) (fun z hz => bd_dropLast hx z (List.mem_reverse.1 hz)) (by rw [eL]; exact wd_last wX) (by rw [eD]; exact wds_rev (wds_dropLast wX)) fun e c ne' h1 h2 h3 => ?_
  have h3 : c.val (env ++ e) = 0 ↔ vw X = 0 := by
    rw [h3, eL, eD, vw_all wX]
    conv => rhs; rw [hsp]
    constructor
    · intro ⟨h, k⟩ y hy
      rcases List.mem_append.1 hy with hy | hy
      · exact k y (List.mem_reverse.2 hy)
      · rw [List.mem_singleton.1 hy]; exact h
    · intro h
      exact ⟨h _ (List.mem_append_right _ (List.mem_singleton.2 rfl)), fun y hy => h y (List.mem_append_left _ (List.mem_reverse.1 hy))⟩
  intro t ht
  have ht : t = b01 (c.val (env ++ e) == 0) := ht
  have vt : (env ++ e ++ [t]).getD ne' 0 = t := at_end h1
  rw [List.append_assoc] at vt ⊢
  refine ⟨fun h => ?_, fun h => ?_⟩
  · rw [vt, ht, b01_one, beq_iff_eq, h3] at h
    refine hk _ _ ?_
    rw [lz_vals]
    exact ⟨by simp, wds_zeros n, by rw [vw_zeros, if_pos h]⟩
  · rw [vt, ht, b01_zero, beq_eq_false_iff_ne, ne_eq, h3] at h
    have mx : xs.map (·.val (env ++ (e ++ [t]))) = X := by rw [vals_more (by rw [← hne]; exact hx), hX]
    refine subCh_ok (ls q) xs (.lit 0) (ne' + 1) [] (env ++ (e ++ [t])) (by simp [ls, hq.len, lx]) (by rw [h1]; simp; omega) (ls_bd) (fun z hz => (hx z hz).more (by rw [h1, hne]; simp; omega)) trivial (fun z hz => by cases hz)
      (by rw [ls_vals]; exact hq.wd) (by rw [mx]; exact wX) (Or.inl rfl) fun e2 os c2 ne2 g => ?_
    obtain ⟨d, g1, g2, g3, g4⟩ := g.val
    rw [ls_vals, mx] at g4
    rw [List.append_assoc]
    refine hk _ _ ?_
    rw [List.append_assoc] at g1 g4
    have gb := g.bit
    rw [List.append_assoc] at gb
    rw [g1]
    have bq := vw_bounds hq.wd
    have bx := vw_bounds wX
    have bd := vw_bounds g2
    have ld : d.length = n := by rw [g3]; simp [ls, hq.len]
    have hlq := hq.len
    rw [hlq] at bq
    rw [ld] at bd
    refine ⟨by simpa using ld, by simpa using g2, ?_⟩
    rw [if_neg h]
    show vw ([] ++ d) = _
    rw [List.nil_append]
    have lls : (ls q).length = n := by simp [ls, hq.len]
    rw [lls] at g4
    have hz : (SI.lit 0).val (env ++ (e ++ [t])) = 0 := rfl
    rw [hz] at g4
    rcases gb with hb | hb <;> rw [hb] at g4
    · rw [Int.mul_zero] at g4; omega
    · rw [Int.mul_one] at g4; omega

/-! ### numbers with a sign -/
def I63 (x : Int) : Prop := -9223372036854775808 < x ∧ x < 9223372036854775808
def ab (x : Int) : Int := if x < 0 then -x else x
def sg (x : Int) : Int := if x < 0 then -1 else 0
theorem fit64 {y : Int} (h : -9223372036854775808 ≤ y ∧ y < 9223372036854775808) : IntKind.i64.wrap y = y := (fits_iff .i64 y).2 ⟨by simp [kMin]; omega, by simp [kMax]; omega⟩
theorem fitu64 {y : Int} (h : Wd y) : IntKind.u64.wrap y = y := (fits_iff .u64 y).2 ⟨by simp [kMin]; exact h.1, by have := h.2; simp [kMax]; omega⟩
theorem shr63 {x : Int} (h : I63 x) : binEv .shr .i64 x 63 = sg x := by
  show Int.fdiv x (2 ^ (min (63 : Int).toNat 64)) = _
  rw [show (2 : Int) ^ (min (63 : Int).toNat 64) = 9223372036854775808 by decide, Int.fdiv_eq_ediv_of_nonneg _ (by decide)]
  have := h.1; have := h.2
  unfold sg; split <;> omega
theorem xor63 {x : Int} (h : I63 x) : binEv .xor .i64 x (sg x) = if x < 0 then -x - 1 else x := by
  show IntKind.i64.wrap ((BitVec.ofInt 64 x ^^^ BitVec.ofInt 64 (sg x)).toNat) = _
  have h1 := h.1; have h2 := h.2
  unfold sg
  split
  · rename_i hx
    have e : BitVec.ofInt 64 x ^^^ BitVec.ofInt 64 (-1) = ~~~(BitVec.ofInt 64 x) := by
      rw [show BitVec.ofInt 64 (-1) = BitVec.allOnes 64 by decide, BitVec.xor_allOnes]
    have t : (BitVec.ofInt 64 x).toNat = (x + 18446744073709551616).toNat := by
      rw [BitVec.toNat_ofInt]; simp; omega
    rw [e, BitVec.toNat_not, t]
    rw [show (((2 ^ 64 - 1 - (x + 18446744073709551616).toNat : Nat)) : Int) = -x - 1 by omega]
    exact fit64 (by omega)
  · have t : (BitVec.ofInt 64 x).toNat = x.toNat := by
      rw [BitVec.toNat_ofInt]; simp; omega
    rw [show BitVec.ofInt 64 0 = 0#64 by decide, BitVec.xor_zero, t, Int.toNat_of_nonneg (by omega)]
    exact fit64 (by omega)
theorem sub63 {x : Int} (h : I63 x) : binEv .sub .i64 (if x < 0 then -x - 1 else x) (sg x) = ab x := by
  show IntKind.i64.wrap (_ - _) = _
  have h1 := h.1; have h2 := h.2
  unfold sg ab
  split
  · rw [fit64 (by omega)]; omega
  · rw [fit64 (by omega)]; omega
theorem ab_wd {x : Int} (h : I63 x) : Wd (ab x) := by
  have h1 := h.1; have h2 := h.2
  unfold ab; split <;> exact ⟨by omega, by omega⟩

/-- The words of a number of one word. -/
def w0 (n : Nat) (v : Int) : List Int := v :: List.replicate (n - 1) 0
theorem w0_len (hn : n ≠ 0) (v : Int) : (w0 n v).length = n := by simp [w0]; omega
theorem w0_wds {v : Int} (h : Wd v) : Wds (w0 n v) := wds_cons h (wds_zeros _)
theorem w0_vw (v : Int) : vw (w0 n v) = v := by
  show v + BW * vw (List.replicate (n - 1) 0) = v
  rw [vw_zeros]; simp

structure ZAsk (A : Ask) (n : Nat) (q rsq : List Int) : Prop where
  pre34 : ∀ xs, Wds xs → vw xs < vw q → A.pre 34 xs
  neg : ∀ xs ys, A.post 34 xs ys → NegM n q xs ys
  pre35 : ∀ xs, Wds xs → vw (xs.drop n) < vw q → A.pre 35 xs
  mulZ : ∀ xs ys, A.post 35 xs ys → MulM n q (xs.take n) (xs.drop n) ys
  pre36 : ∀ v, Wd v → A.pre 36 [v]
  su : ∀ v ys, A.post 36 [v] ys → MulM n q (w0 n v) rsq ys
  pre37 : ∀ x, I63 x → A.pre 37 [x]
  si : ∀ x ys, A.post 37 [x] ys → ∃ s, MulM n q (w0 n (ab x)) rsq s ∧ (if x < 0 then NegM n q s ys else ys = s)

variable {rsq : List Int}
theorem z_step (hZ : ZAsk A n q rsq) (hn : n ≠ 0) (wr : Wds rsq) (br : vw rsq < vw q) {x : SI} {t : Tree} {env : List Int} {v : Int} (hx : x.val env = v) (wv : Wd v)
    (k : ∀ r, MulM n q (w0 n v) rsq r → t.holds A (env ++ r)) : (Tree.hav 35 (x :: List.replicate (n - 1) (.lit 0) ++ ls rsq) n t).holds A env := by
  have hv : (x :: List.replicate (n - 1) (SI.lit 0)).map (·.val env) = w0 n v := by rw [List.map_cons, lz_vals, hx]; rfl
  refine ⟨?_, fun r _ h => ?_⟩
  · rw [vals_app hv ls_vals]
    exact hZ.pre35 _ ((w0_wds wv).append wr) (by rw [drop_app (w0_len hn v)]; exact br)
  · rw [vals_app hv ls_vals] at h
    have h := hZ.mulZ _ _ h
    rw [take_app (w0_len hn v), drop_app (w0_len hn v)] at h
    exact k r h
def setUT (n : Nat) (rsq : List Int) : Tree := .hav 35 (.var 0 :: List.replicate (n - 1) (.lit 0) ++ ls rsq) n (.fin (enc (vr 1 n)) st0)
theorem setUT_ok (hZ : ZAsk A n q rsq) (hn : n ≠ 0) (wr : Wds rsq) (br : vw rsq < vw q) {v : Int} (wv : Wd v)
    (hk : ∀ (e : List Int) (os : List SI), MulM n q (w0 n v) rsq (os.map (·.val ([v] ++ e))) → A.fin (enc os) st0 ([v] ++ e)) : (setUT n rsq).holds A [v] := by
  refine z_step hZ hn wr br rfl wv fun r h => hk r _ ?_
  have e : (vr 1 n).map (·.val ([v] ++ r)) = r := vals_new rfl h.1.symm
  rw [e]
  exact h
def setIT (n : Nat) (q rsq : List Int) : Tree :=
  .dfn (.bin .shr .i64) [.var 0, .lit 63] (.dfn (.bin .xor .i64) [.var 0, .var 1] (.dfn (.bin .sub .i64) [.var 2, .var 1] (.dfn (.conv .u64) [.var 3]
    (.hav 35 (.var 4 :: List.replicate (n - 1) (.lit 0) ++ ls rsq) n (.dfn (.cmp .neq) [.var 1, .lit 0] (.br (n + 5) (negT n q (vr 5 n) (n + 6)) (.fin (enc (vr 5 n)) st0)))))))
theorem setIT_ok (hZ : ZAsk A n q rsq) (hq : WQ n q) (hn : n ≠ 0) (wr : Wds rsq) (br : vw rsq < vw q) {x : Int} (hx : I63 x)
    (hk : ∀ (e : List Int) (os : List SI), (∃ s, MulM n q (w0 n (ab x)) rsq s ∧ (if x < 0 then NegM n q s (os.map (·.val ([x] ++ e))) else os.map (·.val ([x] ++ e)) = s)) → A.fin (enc os) st0 ([x] ++ e)) : (setIT n q rsq).holds A [x] := by
  intro a ha
  have ha : a = binEv .shr .i64 x 63 := ha
  rw [shr63 hx] at ha
  subst ha
  intro b hb
  have hb : b = binEv .xor .i64 x (sg x) := hb
  rw [xor63 hx] at hb
  subst hb
  intro c hc
  have hc : c = binEv .sub .i64 (if x < 0 then -x - 1 else x) (sg x) := hc
  rw [sub63 hx] at hc
  subst hc
  intro d hd
  have hd : d = IntKind.u64.wrap (ab x) := hd
  rw [fitu64 (ab_wd hx)] at hd
  subst hd
  refine z_step hZ hn wr br (v := ab x) rfl (ab_wd hx) fun r hr => ?_
  have lr := hr.1
  intro t ht
  have ht' : t = b01 (sg x != 0) := ht
  clear ht ha hb hc hd
  generalize (if x < 0 then -x - 1 else x) = y at *
  have e5 : (vr 5 n).map (·.val ([x] ++ [sg x] ++ [y] ++ [ab x] ++ [ab x] ++ r ++ [t])) = r := vals_mid rfl lr.symm
  have vt : ([x] ++ [sg x] ++ [y] ++ [ab x] ++ [ab x] ++ r ++ [t]).getD (n + 5) 0 = t := at_end (by simp; omega)
  have eE : [x] ++ [sg x] ++ [y] ++ [ab x] ++ [ab x] ++ r ++ [t] = [x] ++ ([sg x] ++ [y] ++ [ab x] ++ [ab x] ++ r ++ [t]) := by simp
  have lE : ([x] ++ [sg x] ++ [y] ++ [ab x] ++ [ab x] ++ r ++ [t]).length = n + 6 := by simp; omega
  refine ⟨fun h => ?_, fun h => ?_⟩
  · rw [vt, ht', b01_one] at h
    have hneg : x < 0 := by
      unfold sg at h
      split at h
      · assumption
      · cases h
    refine negT_ok hq hn (X := r) vr_length lE.symm (vr_bd (by omega)) e5 hr.2.1 hr.2.2.1 fun e os hN => ?_
    rw [eE, List.append_assoc] at hN ⊢
    exact hk _ _ ⟨r, hr, by rw [if_pos hneg]; exact hN⟩
  · rw [vt, ht', b01_zero] at h
    have hneg : ¬ x < 0 := by
      intro hn
      unfold sg at h
      rw [if_pos hn] at h
      cases h
    rw [eE] at e5 ⊢
    exact hk _ _ ⟨r, hr, by rw [if_neg hneg]; exact e5⟩

def setP (n : Nat) : Tree :=
  .hav 37 [.var 0] n (.dfn (.bin .sub .i64) [.lit 0, .var 0] (.dfn (.conv .u64) [.var (n + 3)] (.hav 36 [.var (n + 4)] n (.hav 34 (vr (n + 5) n) n (.dfn (.eqs n) (vr 3 n ++ vr (2 * n + 5) n) (.br (3 * n + 5)
    (.hav 37 [.var 0] n (.dfn (.eqs n) (vr (3 * n + 6) n ++ List.replicate n (.lit 0)) (.dfn (.cmp .neq) [.var (4 * n + 6), .lit 1] (.fin (enc [.var (4 * n + 7)]) st0)))) (.fin (enc [.lit 0]) st0)))))))
def setN (n : Nat) (one : List Int) : Tree :=
  .hav 37 [.var 0] n (.dfn (.conv .u64) [.var 0] (.hav 36 [.var (n + 3)] n (.dfn (.eqs n) (vr 3 n ++ vr (n + 4) n) (.br (2 * n + 4)
    (.dfn (.eqs n) (ls one ++ List.replicate n (.lit 0)) (.dfn (.cmp .neq) [.var (2 * n + 5), .lit 1] (.fin (enc [.var (2 * n + 6)]) st0))) (.fin (enc [.lit 0]) st0)))))
def lawSetT (n : Nat) (one : List Int) : Tree :=
  .dfn (.cmp .eql) [.var 0, .lit (-9223372036854775808)] (.br 1 (.fin (enc [.lit 1]) st0) (.dfn (.cmp .lss) [.var 0, .lit 0] (.br 2 (setP n) (setN n one))))

theorem vals_at {E env r e : List Int} {i m : Nat} (hE : E = env ++ r ++ e) (hi : i = env.length) (hm : m = r.length) : (vr i m).map (·.val E) = r := by
  rw [hE]; exact vals_mid hi hm
theorem neg_same {X r s : List Int} (hr : NegM n q X r) (hs : NegM n q X s) : r = s := vw_inj (hr.1.trans hs.1.symm) hr.2.1 hs.2.1 (hr.2.2.trans hs.2.2.symm)
/-- A number of one word that is not 0 gives an element that is not 0. -/
theorem set_pos {v : Int} {s : List Int} (hv : 0 < v) (wv : Wd v) (hb : BW ≤ vw q) (hinv : ∃ w, vw q ∣ vw rsq * w - 1) (hs : MulM n q (w0 n v) rsq s) : vw s ≠ 0 := by
  intro h
  obtain ⟨_, _, _, hd⟩ := hs
  obtain ⟨w, hw⟩ := hinv
  rw [h, w0_vw, Int.zero_mul, Int.zero_sub] at hd
  have h1 : vw q ∣ v * vw rsq * w := Int.dvd_mul_of_dvd_left (Int.dvd_neg.1 hd)
  have h2 : vw q ∣ v * (vw rsq * w - 1) := Int.dvd_mul_of_dvd_right hw
  have e : v * vw rsq * w - v * (vw rsq * w - 1) = v := by rw [Int.mul_sub, Int.mul_assoc, Int.mul_one]; omega
  have h3 := Int.dvd_sub h1 h2
  rw [e] at h3
  have := Int.le_of_dvd hv h3
  have hB : BW = 18446744073709551616 := rfl
  have := wv.2
  omega
theorem neg_ne {s r : List Int} (h0 : vw s ≠ 0) (hs : vw s < vw q) (hr : NegM n q s r) : r ≠ List.replicate n 0 := by
  intro h
  have h1 := hr.2.2
  rw [if_neg h0, h, vw_zeros] at h1
  omega
/-- The last step of the law: what is held against zeros is not zero. -/
theorem ne_step {A : Ask} {m : Nat} {xs : List SI} {env c : List Int} (hx : xs.map (·.val env) = c) (lc : c.length = n) (hc : c ≠ List.replicate n 0) (hm : m = env.length)
    (hfin : ∀ (e : List Int) (o : SI), o.val (env ++ e) = 1 → A.fin (enc [o]) st0 (env ++ e)) : (Tree.dfn (.eqs n) (xs ++ List.replicate n (.lit 0)) (.dfn (.cmp .neq) [.var m, .lit 1] (.fin (enc [.var (m + 1)]) st0))).holds A env := by
  refine eqs_step hx (lz_vals n) lc ?_
  rw [decide_eq_false hc]
  intro x h
  have h : x = b01 (cmpEv .neq ((SI.var m).val (env ++ [b01 false])) 1) := h
  rw [val_end hm] at h
  have h : x = 1 := h
  rw [List.append_assoc]
  refine hfin _ _ ?_
  rw [← List.append_assoc, val_end (by simp [hm]), h]

theorem lawSetT_ok (hZ : ZAsk A n q rsq) (hq1 : vw q % 2 = 1) (hb : BW ≤ vw q) (hinv : ∃ w, vw q ∣ vw rsq * w - 1) {one : List Int} (lo : one.length = n) (ho : one ≠ List.replicate n 0) {x : Int} (hx : -9223372036854775808 ≤ x ∧ x < 9223372036854775808)
    (hfin : ∀ (e : List Int) (o : SI), o.val ([x] ++ e) = 1 → A.fin (enc [o]) st0 ([x] ++ e)) : (lawSetT n one).holds A [x] := by
  intro t ht
  have ht' : t = b01 (x == -9223372036854775808) := ht
  clear ht
  refine ⟨fun _ => hfin _ (.lit 1) rfl, fun h => ?_⟩
  have h : t = 0 := h
  rw [ht', b01_zero, beq_eq_false_iff_ne] at h
  have hI : I63 x := ⟨by omega, hx.2⟩
  clear ht' h
  intro u hu
  have hu' : u = b01 (decide (x < 0)) := hu
  clear hu
  refine ⟨fun h => ?_, fun h => ?_⟩
  · have h : u = 1 := h
    rw [hu', b01_one, decide_eq_true_eq] at h
    clear hu'
    have eab : ab x = -x := by unfold ab; rw [if_pos h]
    refine ⟨hZ.pre37 x hI, fun r lr hr => ?_⟩
    obtain ⟨s, hs, hN⟩ := hZ.si x r hr
    rw [if_pos h] at hN
    intro a ha
    have ha' : a = IntKind.i64.wrap (0 - x) := ha
    clear ha
    rw [fit64 (by have := hI.1; omega), Int.zero_sub, ← eab] at ha'
    subst ha'
    intro b hb'
    have hb' : b = IntKind.u64.wrap ((SI.var (n + 3)).val ([x] ++ [t] ++ [u] ++ r ++ [ab x])) := hb'
    rw [val_end (by simp; omega), fitu64 (ab_wd hI)] at hb'
    subst hb'
    have v4 : (SI.var (n + 4)).val ([x] ++ [t] ++ [u] ++ r ++ [ab x] ++ [ab x]) = ab x := val_end (by simp; omega)
    refine ⟨?_, fun s' ls' hs' => ?_⟩
    · show A.pre 36 [(SI.var (n + 4)).val _]
      rw [v4]; exact hZ.pre36 _ (ab_wd hI)
    have hs' : A.post 36 [(SI.var (n + 4)).val ([x] ++ [t] ++ [u] ++ r ++ [ab x] ++ [ab x])] s' := hs'
    rw [v4] at hs'
    have es := mul_same hq1 (hZ.su _ _ hs') hs
    subst es
    have e5 : (vr (n + 5) n).map (·.val ([x] ++ [t] ++ [u] ++ r ++ [ab x] ++ [ab x] ++ s')) = s' := vals_new (by simp; omega) ls'.symm
    refine ⟨by rw [e5]; exact hZ.pre34 _ hs.2.1 hs.2.2.1, fun r' lr' hr' => ?_⟩
    rw [e5] at hr'
    have er := neg_same (hZ.neg _ _ hr') hN
    subst er
    refine eqs_step (a := r') (b := r') (vals_at (env := [x] ++ [t] ++ [u]) (e := [ab x] ++ [ab x] ++ s' ++ r') (by simp) rfl lr.symm) (vals_new (by simp; omega) lr.symm) lr ?_
    rw [decide_eq_true rfl]
    refine ⟨fun _ => ?_, fun h => ?_⟩
    · refine ⟨hZ.pre37 x hI, fun r2 lr2 hr2 => ?_⟩
      obtain ⟨s2, hs2, hN2⟩ := hZ.si x r2 hr2
      rw [if_pos h] at hN2
      have h0 := set_pos (n := n) (v := ab x) (by omega) (ab_wd hI) hb hinv hs2
      have eE : [x] ++ [t] ++ [u] ++ r' ++ [ab x] ++ [ab x] ++ s' ++ r' ++ [b01 true] ++ r2 = [x] ++ ([t] ++ [u] ++ r' ++ [ab x] ++ [ab x] ++ s' ++ r' ++ [b01 true] ++ r2) := by simp
      refine ne_step (vals_new (by simp; omega) lr2.symm) lr2 (neg_ne h0 hs2.2.2.1 hN2) (by simp; omega) fun e o ho => ?_
      rw [eE, List.append_assoc] at ho ⊢
      exact hfin _ _ ho
    · rw [at_end (by simp; omega)] at h
      cases h
  · have h : u = 0 := h
    rw [hu', b01_zero, decide_eq_false_iff_not] at h
    clear hu'
    have eab : ab x = x := by unfold ab; rw [if_neg h]
    refine ⟨hZ.pre37 x hI, fun r lr hr => ?_⟩
    obtain ⟨s, hs, hN⟩ := hZ.si x r hr
    rw [if_neg h] at hN
    subst hN
    intro b hb'
    have hb' : b = IntKind.u64.wrap x := hb'
    rw [fitu64 (by rw [← eab]; exact ab_wd hI)] at hb'
    subst hb'
    have v3 : (SI.var (n + 3)).val ([b] ++ [t] ++ [u] ++ r ++ [b]) = b := val_end (by simp; omega)
    refine ⟨?_, fun s' ls' hs' => ?_⟩
    · show A.pre 36 [(SI.var (n + 3)).val _]
      rw [v3]; exact hZ.pre36 _ (by rw [← eab]; exact ab_wd hI)
    have hs' : A.post 36 [(SI.var (n + 3)).val ([b] ++ [t] ++ [u] ++ r ++ [b])] s' := hs'
    rw [v3] at hs'
    rw [eab] at hs
    have es := mul_same hq1 (hZ.su _ _ hs') hs
    subst es
    refine eqs_step (a := s') (b := s') (vals_at (env := [b] ++ [t] ++ [u]) (e := [b] ++ s') (by simp) rfl ls'.symm) (vals_new (by simp; omega) ls'.symm) ls' ?_
    rw [decide_eq_true rfl]
    refine ⟨fun _ => ?_, fun h => ?_⟩
    · have eE : [b] ++ [t] ++ [u] ++ s' ++ [b] ++ s' ++ [b01 true] = [b] ++ ([t] ++ [u] ++ s' ++ [b] ++ s' ++ [b01 true]) := by simp
      refine ne_step ls_vals lo ho (by simp; omega) fun e o ho => ?_
      rw [eE, List.append_assoc] at ho ⊢
      exact hfin _ _ ho
    · rw [at_end (by simp; omega)] at h
      cases h
end
end Eng
