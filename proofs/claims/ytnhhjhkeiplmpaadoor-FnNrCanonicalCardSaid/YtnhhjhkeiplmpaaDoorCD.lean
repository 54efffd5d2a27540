/-
  Encodings: a number by bytes and by words: there and back. No conditions.
-/
import Derived.Test.YtnhhjhkeiplmpaaDoorCB
import Derived.Test.YtnhhjhkeiplmpaaDoorEngC
namespace Eng
open Go
section
variable {n : Nat} {q : List Int}
theorem leV_append : ∀ (l m : List Int), leV (l ++ m) = leV l + 256 ^ l.length * leV m
  | [], m => by simp [leV]
  | x :: l, m => by
    rw [List.cons_append, leV, leV, leV_append l m, List.length_cons, Int.pow_succ, Int.mul_add, ← Int.mul_assoc, Int.mul_comm 256 (256 ^ l.length), Int.add_assoc]
theorem leV_inj : ∀ {l m : List Int}, l.length = m.length → (∀ x ∈ l, By x) → (∀ x ∈ m, By x) → leV l = leV m → l = m
  | [], [], _, _, _, _ => rfl
  | [], _ :: _, h, _, _, _ => by simp at h
  | _ :: _, [], h, _, _, _ => by simp at h
  | x :: l, y :: m, h, hl, hm, he => by
    have h1 := hl x (List.mem_cons_self ..)
    have h2 := hm y (List.mem_cons_self ..)
    obtain ⟨a1, a2⟩ := h1
    obtain ⟨b1, b2⟩ := h2
    simp only [leV] at he
    have e1 : x = y := by omega
    have e2 : leV l = leV m := by omega
    rw [e1, leV_inj (by simpa using h) (fun z hz => hl z (List.mem_cons_of_mem _ hz)) (fun z hz => hm z (List.mem_cons_of_mem _ hz)) e2]
theorem by8_val {z : Int} (hz : Wd z) (s : Nat) (hs : s < 64) : by8 z s = z / 2 ^ s % 256 := by
  obtain ⟨k, rfl, hk⟩ := nat_of hz
  unfold by8
  have e : binEv .shr .u64 (k : Int) (s : Int) = ((k / 2 ^ s : Nat) : Int) := by
    show Int.fdiv (k : Int) (2 ^ (min (s : Int).toNat 64)) = _
    rw [show min ((s : Int).toNat) 64 = s by omega, Int.fdiv_eq_ediv_of_nonneg _ (Int.pow_nonneg (by decide))]
    simp
  rw [e, IntKind.wrap_u8]
  have : (2 : Int) ^ s = ((2 ^ s : Nat) : Int) := by simp
  rw [this]
  omega
theorem by8_by {z : Int} (hz : Wd z) (s : Nat) (hs : s < 64) : By (by8 z s) := by
  rw [by8_val hz s hs]
  exact ⟨Int.emod_nonneg _ (by decide), Int.emod_lt_of_pos _ (by decide)⟩
/-- The bytes of words, the lowest first. -/
def leB (z : List Int) : List Int := (List.range (8 * z.length)).map fun p => by8 (z.getD (p / 8) 0) (8 * (p % 8))
theorem beB_rev (z : List Int) : (beB z).reverse = leB z := by
  have := range_rev (8 * z.length) (fun p => by8 (z.getD (p / 8) 0) (8 * (p % 8)))
  unfold beB
  rw [← this, List.reverse_reverse]
  rfl
theorem leB_cons (x : Int) (z : List Int) : leB (x :: z) = (List.range 8).map (fun p => by8 x (8 * p)) ++ leB z := by
  apply List.ext_getElem?
  intro i
  unfold leB
  rw [List.length_cons]
  rcases Nat.lt_or_ge i 8 with h | h
  · rw [List.getElem?_append_left (by simpa using h)]
    simp only [List.getElem?_map]
    rw [List.getElem?_range (by omega), List.getElem?_range h]
    simp only [Option.map_some]
    rw [show i / 8 = 0 by omega, show i % 8 = i by omega]
    rfl
  · rw [List.getElem?_append_right (by simpa using h)]
    simp only [List.getElem?_map, List.length_map, List.length_range]
    rcases Nat.lt_or_ge i (8 * (z.length + 1)) with h2 | h2
    · rw [List.getElem?_range (by omega), List.getElem?_range (by omega)]
      simp only [Option.map_some]
      rw [show i / 8 = (i - 8) / 8 + 1 by omega, show i % 8 = (i - 8) % 8 by omega]
      rfl
    · rw [List.getElem?_eq_none (by simp; omega), List.getElem?_eq_none (by simp; omega)]
      rfl
theorem leB_val : ∀ {z : List Int}, Wds z → leV (leB z) = vw z
  | [], _ => rfl
  | x :: z, h => by
    have hx := h x (List.mem_cons_self ..)
    rw [leB_cons, leV_append, leB_val fun y hy => h y (List.mem_cons_of_mem _ hy)]
    simp only [List.length_map, List.length_range, vw]
    have e : leV ((List.range 8).map fun p => by8 x (8 * p)) = x := by
      show by8 x 0 + 256 * (by8 x 8 + 256 * (by8 x 16 + 256 * (by8 x 24 + 256 * (by8 x 32 + 256 * (by8 x 40 + 256 * (by8 x 48 + 256 * (by8 x 56 + 256 * 0))))))) = x
      rw [by8_val hx 0 (by decide), by8_val hx 8 (by decide), by8_val hx 16 (by decide), by8_val hx 24 (by decide), by8_val hx 32 (by decide), by8_val hx 40 (by decide), by8_val hx 48 (by decide), by8_val hx 56 (by decide)]
      obtain ⟨h1, h2⟩ := hx
      omega
    rw [e]
    rfl
theorem leB_by {z : List Int} (h : Wds z) : ∀ x ∈ leB z, By x := by
  intro x hx
  obtain ⟨p, _, rfl⟩ := List.mem_map.1 hx
  exact by8_by (h.get _) _ (by omega)
theorem beB_by {z : List Int} (h : Wds z) : ∀ x ∈ beB z, By x := fun x hx => leB_by h x (by rw [← beB_rev]; exact List.mem_reverse.2 hx)
theorem beB_val {z : List Int} (h : Wds z) : beV (beB z) = vw z := by
  unfold beV
  rw [beB_rev, leB_val h]
theorem beV_inj {l m : List Int} (hl : l.length = m.length) (h1 : ∀ x ∈ l, By x) (h2 : ∀ x ∈ m, By x) (h : beV l = beV m) : l = m := by
  have := leV_inj (l := l.reverse) (m := m.reverse) (by simpa using hl) (fun x hx => h1 x (List.mem_reverse.1 hx)) (fun x hx => h2 x (List.mem_reverse.1 hx)) h
  rw [← List.reverse_reverse l, this, List.reverse_reverse]
/-- The words of bytes (the lowest first). -/
def leW : Nat → List Int → List Int
  | 0, _ => []
  | n + 1, l => leV (l.take 8) :: leW n (l.drop 8)
theorem leW_len : ∀ (n : Nat) (l : List Int), (leW n l).length = n
  | 0, _ => rfl
  | n + 1, l => by rw [leW, List.length_cons, leW_len n]
theorem leW_ok : ∀ (n : Nat) (l : List Int), l.length = 8 * n → (∀ x ∈ l, By x) → Wds (leW n l) ∧ vw (leW n l) = leV l
  | 0, l, hl, _ => by
    have := List.eq_nil_of_length_eq_zero (by simpa using hl)
    subst this
    exact ⟨wds_nil, rfl⟩
  | n + 1, l, hl, hb => by
    obtain ⟨h1, h2⟩ := leW_ok n (l.drop 8) (by simp; omega) fun x hx => hb x (List.mem_of_mem_drop hx)
    have h3 := leV_nonneg (l := l.take 8) fun x hx => hb x (List.mem_of_mem_take hx)
    have h4 : (l.take 8).length = 8 := by simp; omega
    rw [h4] at h3
    refine ⟨wds_cons ⟨h3.1, h3.2⟩ h1, ?_⟩
    rw [leW, vw, h2]
    have := leV_append (l.take 8) (l.drop 8)
    rw [List.take_append_drop, h4] at this
    rw [this]
    rfl
/-- Bytes that are those of the number's words. -/
theorem beB_leW {b : List Int} (hl : b.length = 8 * n) (hb : ∀ x ∈ b, By x) : beB (leW n b.reverse) = b := by
  obtain ⟨h1, h2⟩ := leW_ok n b.reverse (by simpa using hl) fun x hx => hb x (List.mem_reverse.1 hx)
  refine beV_inj (by rw [beB_len, leW_len, hl]) (beB_by h1) hb ?_
  rw [beB_val h1, h2]
  rfl
/-- What is below the prime is its own rest. -/
theorem is_canon {b ys : List Int} (hl : b.length = 8 * n) (hb : ∀ x ∈ b, By x) (ly : ys.length = n) (wy : Wds ys) (hq : 0 < vw q) (hv : vw ys = beV b % vw q) : (beB ys = b) ↔ vw (leW n b.reverse) < vw q := by
  obtain ⟨h1, h2⟩ := leW_ok n b.reverse (by simpa using hl) fun x hx => hb x (List.mem_reverse.1 hx)
  have h0 := (vw_bounds h1).1
  have h2 : vw (leW n b.reverse) = beV b := h2
  constructor
  · intro h
    rw [h2, ← h, beB_val wy, hv]
    exact Int.emod_lt_of_pos _ hq
  · intro h
    have : vw ys = vw (leW n b.reverse) := by rw [hv, ← h2, Int.emod_eq_of_lt h0 h]
    have := vw_inj (by rw [ly, leW_len]) wy h1 this
    rw [this, beB_leW hl hb]
/-- Into Montgomery's form and back. -/
theorem there_back {Z rs r z : List Int} (hq1 : vw q % 2 = 1) (hl : Z.length = n) (hZ : Wds Z) (hb : vw Z < vw q) (hrs : vw q ∣ vw rs - BW ^ n * BW ^ n) (hr : MulM n q Z rs r) (hz : Mont n q r z) : z = Z := by
  obtain ⟨lr, wr, br, dr⟩ := hr
  obtain ⟨lz, wz, bz, dz⟩ := hz
  refine mont_one (n := n) (a := r) hq1 dz ?_ wz hZ (by rw [lz, hl]) bz hb
  have hq0 : vw q ≠ 0 := by omega
  have e : vw q ∣ (vw Z * BW ^ n - vw r) * BW ^ n := by
    obtain ⟨c1, hc1⟩ := dr
    obtain ⟨c2, hc2⟩ := hrs
    refine ⟨-c1 - vw Z * c2, ?_⟩
    have : vw Z * vw rs = vw Z * (BW ^ n * BW ^ n) + vw Z * (vw q * c2) := by
      rw [← Int.mul_add, ← hc2]
      congr 1
      omega
    rw [Int.mul_sub, Int.mul_neg, ← hc1, Int.sub_mul]
    have t1 : vw q * (vw Z * c2) = vw Z * (vw q * c2) := by rw [Int.mul_left_comm]
    rw [t1, Int.mul_assoc]
    omega
  generalize hX : vw Z * BW ^ n - vw r = X at *
  rw [bw_two] at e
  exact odd_dvd_pow hq1 _ e
end
end Eng
