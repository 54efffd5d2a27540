/-
  Numbers by words: bytes, the regular form, the law on bytes: as trees of facts, for any number of words.
-/
import Derived.Test.YtakddcclpocejaaWY
namespace Eng
open Go

section
variable {A : Ask} {n : Nat} {q : List Int}

/-! ### bytes -/
def by8 (z : Int) (s : Nat) : Int := IntKind.u8.wrap (binEv .shr .u64 z (s : Int))
def bytesCh (k : List SI → Nat → Tree) : List (SI × Nat) → Nat → List SI → Tree
  | p :: r, ne, outs => .dfn (.bin .shr .u64) [p.1, .lit (p.2 : Int)] (.dfn (.conv .u8) [.var ne] (bytesCh k r (ne + 2) (outs ++ [.var (ne + 1)])))
  | [], ne, outs => k outs ne
theorem bytesCh_ok {k : List SI → Nat → Tree} : ∀ (ps : List (SI × Nat)) (ne : Nat) (outs : List SI) (env : List Int), ne = env.length → (∀ p ∈ ps, Bd ne p.1) → (∀ x ∈ outs, Bd ne x) →
    (∀ (e : List Int) (os : List SI) (ne' : Nat), ne' = (env ++ e).length → os.map (·.val (env ++ e)) = outs.map (·.val env) ++ ps.map (fun p => by8 (p.1.val env) p.2) → (k os ne').holds A (env ++ e)) → (bytesCh k ps ne outs).holds A env
  | [], ne, outs, env, hne, _, _, hk => by
    have := hk [] outs ne (by simpa using hne) (by simp)
    simp only [List.append_nil] at this
    exact this
  | (z, s) :: r, ne, outs, env, hne, hp, ho, hk => by
    have bz := hp (z, s) (List.mem_cons_self ..)
    rw [hne] at bz
    intro v hv
    have hv : v = binEv .shr .u64 (z.val env) (s : Int) := hv
    intro b hb
    have hb : b = IntKind.u8.wrap ((SI.var ne).val (env ++ [v])) := hb
    rw [val_end hne, hv] at hb
    have hb : b = by8 (z.val env) s := hb
    have e2 : env ++ [v] ++ [b] = env ++ [v, b] := by simp
    have mp : r.map (fun p => by8 (p.1.val (env ++ [v] ++ [b])) p.2) = r.map (fun p => by8 (p.1.val env) p.2) := List.map_congr_left fun p h => by
      rw [e2, val_more (by rw [← hne]; exact hp p (List.mem_cons_of_mem _ h))]
    have mo : outs.map (·.val (env ++ [v] ++ [b])) = outs.map (·.val env) := by rw [e2]; exact vals_more fun x hx => by rw [← hne]; exact ho x hx
    have vb : (SI.var (ne + 1)).val (env ++ [v] ++ [b]) = b := val_end (by simp [hne])
    refine bytesCh_ok r (ne + 2) (outs ++ [.var (ne + 1)]) (env ++ [v] ++ [b]) (by simp [hne]) (fun p h => (hp p (List.mem_cons_of_mem _ h)).more (by omega)) ?_ fun e os ne' h1 h2 => ?_
    · intro x hx
      rcases List.mem_append.1 hx with h | h
      · exact (ho x h).more (by omega)
      · simp at h; subst h; show ne + 1 < ne + 2; omega
    · rw [mp, List.map_append, mo, List.map_cons, List.map_nil, vb] at h2
      have := hk ([v, b] ++ e) os ne' (by rw [h1, ← List.append_assoc, e2]) (by rw [← List.append_assoc, ← e2, h2, hb, List.append_assoc]; rfl)
      rw [← List.append_assoc, ← e2] at this
      exact this

/-- The bytes of a number, the highest first. -/
def beB (z : List Int) : List Int := (List.range (8 * z.length)).map fun p => by8 (z.getD ((8 * z.length - 1 - p) / 8) 0) (8 * ((8 * z.length - 1 - p) % 8))
theorem range_rev {α : Type} (m : Nat) (f : Nat → α) : ((List.range m).map f).reverse = (List.range m).map fun p => f (m - 1 - p) := by
  apply List.ext_getElem?
  intro i
  rcases Nat.lt_or_ge i m with h | h
  · rw [List.getElem?_reverse (by simpa using h)]
    simp [h, show m - 1 - i < m by omega]
  · rw [List.getElem?_eq_none (by simpa using h), List.getElem?_eq_none (by simpa using h)]
def ofWT (n : Nat) : Tree := bytesCh (fun os _ => .fin (enc os.reverse) st0) ((List.range (8 * n)).map fun j => (.var (j / 8), 8 * (j % 8))) n []
theorem ofWT_ok {env : List Int} (hl : env.length = n) (hk : ∀ (e : List Int) (os : List SI), os.map (·.val (env ++ e)) = beB env → A.fin (enc os) st0 (env ++ e)) : (ofWT n).holds A env := by
  refine bytesCh_ok _ n [] env hl.symm ?_ (fun x hx => by cases hx) fun e os ne' _ h => hk e os.reverse ?_
  · intro p hp
    obtain ⟨j, hj, rfl⟩ := List.mem_map.1 hp
    have := List.mem_range.1 hj
    show j / 8 < n
    omega
  · rw [List.map_reverse, h, List.map_nil, List.nil_append, List.map_map, range_rev, beB, hl]
    rfl

def ord (n : Nat) (os : List SI) : List SI := (List.range (8 * n)).map fun p => os.getD (8 * (n - 1 - p / 8) + p % 8) (.lit 0)
def bytesT (n : Nat) : Tree := .hav 23 (vr 0 n) n (bytesCh (fun os _ => .fin (enc (ord n os)) st0) ((List.range (8 * n)).map fun j => (.var (n + j / 8), 56 - 8 * (j % 8))) (2 * n) [])
structure BAsk (A : Ask) (n : Nat) (q : List Int) : Prop where
  pre : ∀ id xs, 20 ≤ id → Wds xs → A.pre id xs
  mont : ∀ xs ys, A.post 23 xs ys → Mont n q xs ys
  half : ∀ xs ys, A.post 24 xs ys → Half xs ys
  bytes : ∀ xs ys, A.post 25 xs ys → ∃ z, Mont n q xs z ∧ ys = beB z
  ofW : ∀ xs ys, A.post 26 xs ys → ys = beB xs
  sameB : ∀ xs ys, A.post 27 xs ys → ys = [b01 (decide (xs.take (8 * n) = xs.drop (8 * n)))]
theorem bytesT_ok (hB : BAsk A n q) {env : List Int} (hl : env.length = n) (hw : Wds env)
    (hk : ∀ (e : List Int) (os : List SI), (∃ z, Mont n q env z ∧ os.map (·.val (env ++ e)) = beB z) → A.fin (enc os) st0 (env ++ e)) : (bytesT n).holds A env := by
  have h1 := one_vr hl
  refine ⟨by rw [h1]; exact hB.pre _ _ (by decide) hw, fun z _ hz => ?_⟩
  rw [h1] at hz
  have hz := hB.mont _ _ hz
  have lz := hz.1
  refine bytesCh_ok _ (2 * n) [] (env ++ z) (by simp; omega) ?_ (fun x hx => by cases hx) fun e os ne' _ h => ?_
  · intro p hp
    obtain ⟨j, hj, rfl⟩ := List.mem_map.1 hp
    have := List.mem_range.1 hj
    show n + j / 8 < 2 * n
    omega
  · have := hk (z ++ e) (ord n os) ⟨z, hz, ?_⟩
    · rw [← List.append_assoc] at this; exact this
    · rw [List.map_nil, List.nil_append, List.map_map] at h
      have lo : os.length = 8 * n := by
        have := congrArg List.length h
        simpa using this
      rw [beB, lz, ord, List.map_map]
      apply List.map_congr_left
      intro p hp
      have hp := List.mem_range.1 hp
      have hi : 8 * (n - 1 - p / 8) + p % 8 < 8 * n := by omega
      have hg : (os.map (·.val (env ++ z ++ e)))[8 * (n - 1 - p / 8) + p % 8]? = some (by8 (z.getD (n - 1 - p / 8) 0) (56 - 8 * (p % 8))) := by
        rw [h, List.getElem?_map, List.getElem?_range hi, Option.map_some]
        simp only [Function.comp, SI.val]
        rw [show (8 * (n - 1 - p / 8) + p % 8) / 8 = n - 1 - p / 8 by omega, show (8 * (n - 1 - p / 8) + p % 8) % 8 = p % 8 by omega]
        congr 2
        rw [List.getD_eq_getElem?_getD, List.getElem?_append_right (by omega), List.getD_eq_getElem?_getD]
        congr 1
        congr 1
        omega
      rw [List.getElem?_map, List.getElem?_eq_getElem (by omega), Option.map_some] at hg
      injection hg with hg
      show (os.getD (8 * (n - 1 - p / 8) + p % 8) (.lit 0)).val (env ++ (z ++ e)) = _
      rw [List.getD_eq_getElem?_getD, List.getElem?_eq_getElem (by omega), ← List.append_assoc]
      show (os[8 * (n - 1 - p / 8) + p % 8]).val (env ++ z ++ e) = _
      rw [hg, show (8 * n - 1 - p) / 8 = n - 1 - p / 8 by omega, show 8 * ((8 * n - 1 - p) % 8) = 56 - 8 * (p % 8) by omega]

/-! ### the regular form -/
/-- What i halvings have come to. -/
def RegI (m a : List Int) (i : Nat) (c : List Int) : Prop := c.length = a.length ∧ Wds c ∧ (vw m % 2 = 1 → vw a < vw m → vw c < vw m ∧ vw m ∣ vw c * 2 ^ i - vw a)
theorem reg_zero {m a : List Int} (wa : Wds a) : RegI m a 0 a := ⟨rfl, wa, fun _ h => ⟨h, by simp⟩⟩
theorem reg_even {m a c h : List Int} {i : Nat} (hc : RegI m a i c) (he : vw c % 2 = 0) (hh : Half c h) : RegI m a (i + 1) h := by
  obtain ⟨h1, h2, h3⟩ := hc
  obtain ⟨g1, g2, g3⟩ := hh
  have b := vw_bounds h2
  refine ⟨by omega, g2, fun hm ha => ?_⟩
  obtain ⟨k1, k2⟩ := h3 hm ha
  refine ⟨by omega, ?_⟩
  have : vw h * 2 ^ (i + 1) = vw c * 2 ^ i := by
    rw [Int.pow_succ, Int.mul_comm (2 ^ i) 2, ← Int.mul_assoc]
    congr 1
    omega
  rw [this]
  exact k2
theorem reg_odd {m a c r : List Int} {i : Nat} (hc : RegI m a i c) (ho : vw c % 2 = 1) (lr : r.length = a.length) (wr : Wds r) (h : vw r = (vw c + vw m) / 2) : RegI m a (i + 1) r := by
  obtain ⟨h1, h2, h3⟩ := hc
  refine ⟨lr, wr, fun hm ha => ?_⟩
  obtain ⟨k1, k2⟩ := h3 hm ha
  have e : vw r * 2 = vw c + vw m := by omega
  refine ⟨by omega, ?_⟩
  have : vw r * 2 ^ (i + 1) - vw a = (vw c * 2 ^ i - vw a) + vw m * 2 ^ i := by
    rw [Int.pow_succ, Int.mul_comm (2 ^ i) 2, ← Int.mul_assoc, e, Int.add_mul]
    omega
  rw [this]
  exact Int.dvd_add k2 (Int.dvd_mul_right _ _)
end
end Eng
