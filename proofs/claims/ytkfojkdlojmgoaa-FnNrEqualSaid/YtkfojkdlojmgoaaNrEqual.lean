/- For every input the law FnNrEqual returns true, and each argument reads afterwards as it read before. No conditions.
   The way: the walk by reckoning (the texts Eng1 to Eng19) gives for each function a tree of facts, checked by the kernel; here the trees are shown to hold. -/
import Derived.Test.YtkfojkdlojmgoaaEng19
import Derived.Test.YtkfojkdlojmgoaaRows
import Derived.ProofKit
import Derived.OpenShut
namespace Go.Proofs.Ytkfojkdlojmgoaa
open Go Eng
open Go.ChangeShapes Go.WideShapes Go.ChangeAt Go.RowKit
set_option maxRecDepth 100000

def u (x : Nat) : SC := .ii .u64 (.var x)
def us (i n : Nat) : List SC := (List.range n).map fun j => u (i + j)
def sl (r n : Nat) : SV := .ww (.cc (.ss r 0 n n))
def ar (i n : Nat) : SV := .ww (.aa (us i n))
def bo (x : Nat) : SV := .ww (.cc (.bb (.var x)))
noncomputable def CC (L : List K) : Cfg := ⟨Try.prog, mkExt 37 36 3 48, conOf L⟩
def kLess : K := { f := 9, args := [sl 0 4, sl 1 4], mem := [(us 0 4, false), (us 4 4, false)], m := 8, id := 0, mout := 1, ret := bo 8, mem1 := [(us 0 4, false), (us 4 4, false)] }
def kSame : K := { f := 14, args := [sl 0 4, sl 1 4], mem := [(us 0 4, false), (us 4 4, false)], m := 8, id := 1, mout := 1, ret := bo 8, mem1 := [(us 0 4, false), (us 4 4, false)] }
def kEq : K := { f := 11, args := [ar 0 4, ar 4 4], mem := [], m := 8, id := 2, mout := 1, ret := bo 8, mem1 := [] }
def kNe : K := { f := 12, args := [ar 0 4, ar 4 4], mem := [], m := 8, id := 3, mout := 1, ret := .ww (.cc (u 8)), mem1 := [] }
def kPlus : K := { f := 29, args := [sl 0 4, sl 1 4], mem := [(us 0 4, false), (us 4 4, false)], m := 8, id := 4, mout := 5, ret := .tt [.cc (.ss 2 0 4 4), .cc (.bb (.var 12))], mem1 := [(us 0 4, false), (us 4 4, false), (us 8 4, true)] }
noncomputable def tr (L : List K) (κ : K) : Tree := xcall (CC L) (xcode (CC L) 60) κ.f κ.args κ.st κ.end

def T_less : Tree := (.dfn (.cmp .neq) [(.var 3), (.var 7)] (.br 8 (.dfn (.cmp .lss) [(.var 3), (.var 7)] (.fin (.ww (.aa [(.ii .u64 (.var 9))])) st0)) (.dfn (.cmp .neq) [(.var 2), (.var 6)] (.br 9 (.dfn (.cmp .lss) [(.var 2), (.var 6)] (.fin (.ww (.aa [(.ii .u64 (.var 10))])) st0)) (.dfn (.cmp .neq) [(.var 1), (.var 5)] (.br 10 (.dfn (.cmp .lss) [(.var 1), (.var 5)] (.fin (.ww (.aa [(.ii .u64 (.var 11))])) st0)) (.dfn (.cmp .neq) [(.var 0), (.var 4)] (.br 11 (.dfn (.cmp .lss) [(.var 0), (.var 4)] (.fin (.ww (.aa [(.ii .u64 (.var 12))])) st0)) (.fin (.ww (.aa [(.ii .u64 (.lit 0))])) st0)))))))))
def T_same : Tree := (.dfn (.cmp .neq) [(.var 0), (.var 4)] (.br 8 (.fin (.ww (.aa [(.ii .u64 (.lit 0))])) st0) (.dfn (.cmp .neq) [(.var 1), (.var 5)] (.br 9 (.fin (.ww (.aa [(.ii .u64 (.lit 0))])) st0) (.dfn (.cmp .neq) [(.var 2), (.var 6)] (.br 10 (.fin (.ww (.aa [(.ii .u64 (.lit 0))])) st0) (.dfn (.cmp .neq) [(.var 3), (.var 7)] (.br 11 (.fin (.ww (.aa [(.ii .u64 (.lit 0))])) st0) (.fin (.ww (.aa [(.ii .u64 (.lit 1))])) st0)))))))))
def T_eq : Tree := (.both (.dfn (.bin .xor .u64) [(.var 3), (.var 7)] (.dfn (.bin .xor .u64) [(.var 2), (.var 6)] (.dfn (.bin .or .u64) [(.var 8), (.var 9)] (.dfn (.bin .xor .u64) [(.var 1), (.var 5)] (.dfn (.bin .or .u64) [(.var 10), (.var 11)] (.dfn (.bin .xor .u64) [(.var 0), (.var 4)] (.dfn (.bin .or .u64) [(.var 12), (.var 13)] (.dfn (.cmp .eql) [(.var 14), (.lit 0)] (.fin (.ww (.aa [(.ii .u64 (.var 15))])) st0))))))))) (.dfn (.bin .xor .u64) [(.var 3), (.var 7)] (.dfn (.bin .xor .u64) [(.var 2), (.var 6)] (.dfn (.bin .or .u64) [(.var 8), (.var 9)] (.dfn (.bin .xor .u64) [(.var 1), (.var 5)] (.dfn (.bin .or .u64) [(.var 10), (.var 11)] (.dfn (.bin .xor .u64) [(.var 0), (.var 4)] (.dfn (.bin .or .u64) [(.var 12), (.var 13)] (.dfn (.cmp .eql) [(.var 14), (.lit 0)] (.fin (.ww (.aa [(.ii .u64 (.var 15))])) st0))))))))))
def T_ne : Tree := (.both (.dfn (.bin .xor .u64) [(.var 3), (.var 7)] (.dfn (.bin .xor .u64) [(.var 2), (.var 6)] (.dfn (.bin .or .u64) [(.var 8), (.var 9)] (.dfn (.bin .xor .u64) [(.var 1), (.var 5)] (.dfn (.bin .or .u64) [(.var 10), (.var 11)] (.dfn (.bin .xor .u64) [(.var 0), (.var 4)] (.dfn (.bin .or .u64) [(.var 12), (.var 13)] (.fin (.ww (.aa [(.ii .u64 (.var 14))])) st0)))))))) (.dfn (.bin .xor .u64) [(.var 3), (.var 7)] (.dfn (.bin .xor .u64) [(.var 2), (.var 6)] (.dfn (.bin .or .u64) [(.var 8), (.var 9)] (.dfn (.bin .xor .u64) [(.var 1), (.var 5)] (.dfn (.bin .or .u64) [(.var 10), (.var 11)] (.dfn (.bin .xor .u64) [(.var 0), (.var 4)] (.dfn (.bin .or .u64) [(.var 12), (.var 13)] (.fin (.ww (.aa [(.ii .u64 (.var 14))])) st0)))))))))
def T_lawEq : Tree := (.hav 0 [(.var 0), (.var 1), (.var 2), (.var 3), (.lit 4891460686036598785), (.lit 2896914383306846353), (.lit 13281191951274694749), (.lit 3486998266802970665)] 1 (.br 8 (.hav 0 [(.var 4), (.var 5), (.var 6), (.var 7), (.lit 4891460686036598785), (.lit 2896914383306846353), (.lit 13281191951274694749), (.lit 3486998266802970665)] 1 (.br 9 (.dfn (.eqs 4) [(.var 0), (.var 1), (.var 2), (.var 3), (.var 4), (.var 5), (.var 6), (.var 7)] (.hav 2 [(.var 0), (.var 1), (.var 2), (.var 3), (.var 4), (.var 5), (.var 6), (.var 7)] 1 (.dfn (.cmp .eql) [(.var 11), (.var 10)] (.br 12 (.dfn (.eqs 4) [(.var 0), (.var 1), (.var 2), (.var 3), (.var 4), (.var 5), (.var 6), (.var 7)] (.hav 3 [(.var 0), (.var 1), (.var 2), (.var 3), (.var 4), (.var 5), (.var 6), (.var 7)] 1 (.dfn (.cmp .eql) [(.var 14), (.lit 0)] (.dfn (.cmp .eql) [(.var 15), (.var 13)] (.br 16 (.hav 2 [(.var 0), (.var 1), (.var 2), (.var 3), (.var 0), (.var 1), (.var 2), (.var 3)] 1 (.fin (.ww (.aa [(.ii .u64 (.var 17))])) st0)) (.fin (.ww (.aa [(.ii .u64 (.lit 0))])) st0)))))) (.fin (.ww (.aa [(.ii .u64 (.lit 0))])) st0))))) (.fin (.ww (.aa [(.ii .u64 (.lit 1))])) st0))) (.fin (.ww (.aa [(.ii .u64 (.lit 1))])) st0)))

def vw : List Int → Int
  | [] => 0
  | x :: l => x + 18446744073709551616 * vw l
def post (id : Nat) (xs ys : List Int) : Prop := match id with
  | 0 => ys = [b01 (decide (vw (xs.take 4) < vw (xs.drop 4)))]
  | 1 => ys = [b01 (decide (xs.take 4 = xs.drop 4))]
  | 2 => ys = [b01 (decide (xs.take 4 = xs.drop 4))]
  | 3 => ∃ y, ys = [y] ∧ (y = 0 ↔ xs.take 4 = xs.drop 4)
  | 10 => ys = [1]
  | _ => False
def AA : Eng.Ask := { pre := fun _ _ => True, post := post, leaf := fun _ _ _ => False, fin := fun _ _ _ => False }
theorem u64 {a : Int} (h : fits .u64 a) : 0 ≤ a ∧ a < 18446744073709551616 := by
  have := (fits_iff _ _).1 h
  simp [kMin, kMax] at this
  omega
theorem len8 {l : List Int} (h : l.length = 8) : ∃ a b c d e f g i, l = [a, b, c, d, e, f, g, i] := by
  match l, h with
  | [a, b, c, d, e, f, g, i], _ => exact ⟨_, _, _, _, _, _, _, _, rfl⟩

theorem b01_one (t : Bool) : b01 t = 1 ↔ t = true := by cases t <;> simp [b01]
theorem b01_zero (t : Bool) : b01 t = 0 ↔ t = false := by cases t <;> simp [b01]
theorem b01_inj (s t : Bool) : b01 s = b01 t ↔ s = t := by cases s <;> cases t <;> simp [b01]
theorem zero_b01 (t : Bool) : 0 = b01 t ↔ t = false := by cases t <;> simp [b01]
theorem one_b01 (t : Bool) : 1 = b01 t ↔ t = true := by cases t <;> simp [b01]

theorem less_tree (env : List Int) (hl : env.length = 8) (hr : Rng env (rngA kLess.args ++ rngM kLess.mem)) : T_less.holds (AA.to kLess) env := by
  obtain ⟨a0, a1, a2, a3, b0, b1, b2, b3, rfl⟩ := len8 hl
  obtain ⟨h0, h1, h2, h3, k0, k1, k2, k3, _⟩ := hr
  have h0 : 0 ≤ a0 ∧ a0 < 18446744073709551616 := u64 h0
  have h1 : 0 ≤ a1 ∧ a1 < 18446744073709551616 := u64 h1
  have h2 : 0 ≤ a2 ∧ a2 < 18446744073709551616 := u64 h2
  have h3 : 0 ≤ a3 ∧ a3 < 18446744073709551616 := u64 h3
  have k0 : 0 ≤ b0 ∧ b0 < 18446744073709551616 := u64 k0
  have k1 : 0 ≤ b1 ∧ b1 < 18446744073709551616 := u64 k1
  have k2 : 0 ≤ b2 ∧ b2 < 18446744073709551616 := u64 k2
  have k3 : 0 ≤ b3 ∧ b3 < 18446744073709551616 := u64 k3
  simp only [T_less, Tree.holds, AA, Eng.Ask.to, dec, dec1, kLess, post, IOp.ev, cmpEv, SI.val, List.map, List.cons_append, List.nil_append, List.getD_cons_zero, List.getD_cons_succ, List.take_succ_cons, List.take_zero, List.drop_succ_cons, List.drop_zero,
    forall_eq, vw, b01_one, b01_zero, zero_b01, List.cons.injEq, and_true, b01_inj, decide_eq_decide, bne_iff_ne, bne_eq_false_iff_eq, decide_eq_false_iff_not, ne_eq]
  refine ⟨fun g3 => ?_, fun g3 => ⟨fun g2 => ?_, fun g2 => ⟨fun g1 => ?_, fun g1 => ⟨fun g0 => ?_, fun g0 => ?_⟩⟩⟩⟩ <;> omega

theorem same_tree (env : List Int) (hl : env.length = 8) : T_same.holds (AA.to kSame) env := by
  obtain ⟨a0, a1, a2, a3, b0, b1, b2, b3, rfl⟩ := len8 hl
  simp only [T_same, Tree.holds, AA, Eng.Ask.to, dec, dec1, kSame, post, IOp.ev, cmpEv, SI.val, List.map, List.cons_append, List.nil_append, List.getD_cons_zero, List.getD_cons_succ, List.take_succ_cons, List.take_zero, List.drop_succ_cons, List.drop_zero,
    forall_eq, b01_one, b01_zero, zero_b01, one_b01, List.cons.injEq, and_true, bne_iff_ne, bne_eq_false_iff_eq, decide_eq_false_iff_not, decide_eq_true_eq, ne_eq]
  refine ⟨fun g3 => ?_, fun g3 => ⟨fun g2 => ?_, fun g2 => ⟨fun g1 => ?_, fun g1 => ⟨fun g0 => ?_, fun g0 => ?_⟩⟩⟩⟩ <;> omega

theorem wrap_nat (n : Nat) (h : n < 18446744073709551616) : IntKind.u64.wrap (n : Int) = n := (fits_iff .u64 n).2 ⟨by simp [kMin], by simp [kMax]; omega⟩
def xo (x y : Int) : Int := binEv .xor .u64 x y
def orr (x y : Int) : Int := binEv .or .u64 x y
theorem bv_int {x y : Int} (hx : 0 ≤ x ∧ x < 18446744073709551616) (hy : 0 ≤ y ∧ y < 18446744073709551616) (h : BitVec.ofInt 64 x = BitVec.ofInt 64 y) : x = y := by
  have := congrArg BitVec.toNat h
  simp at this
  omega
theorem xo_zero {x y : Int} (hx : 0 ≤ x ∧ x < 18446744073709551616) (hy : 0 ≤ y ∧ y < 18446744073709551616) : xo x y = 0 ↔ x = y := by
  have hlt := (BitVec.ofInt 64 x ^^^ BitVec.ofInt 64 y).isLt
  show IntKind.u64.wrap (((BitVec.ofInt 64 x ^^^ BitVec.ofInt 64 y).toNat : Nat) : Int) = 0 ↔ _
  rw [wrap_nat _ hlt]
  constructor
  · intro h
    have h0 : BitVec.ofInt 64 x ^^^ BitVec.ofInt 64 y = 0#64 := BitVec.eq_of_toNat_eq (by simpa using h)
    have : BitVec.ofInt 64 x = BitVec.ofInt 64 y := by
      have := congrArg (· ^^^ BitVec.ofInt 64 y) h0
      simpa [BitVec.xor_assoc] using this
    exact bv_int hx hy this
  · rintro rfl
    simp
theorem xo_rng (x y : Int) : 0 ≤ xo x y ∧ xo x y < 18446744073709551616 := u64 (fits_wrap _ _)
theorem orr_rng (x y : Int) : 0 ≤ orr x y ∧ orr x y < 18446744073709551616 := u64 (fits_wrap _ _)
theorem orr_zero {x y : Int} (hx : 0 ≤ x ∧ x < 18446744073709551616) (hy : 0 ≤ y ∧ y < 18446744073709551616) : orr x y = 0 ↔ x = 0 ∧ y = 0 := by
  have hlt := (BitVec.ofInt 64 x ||| BitVec.ofInt 64 y).isLt
  show IntKind.u64.wrap (((BitVec.ofInt 64 x ||| BitVec.ofInt 64 y).toNat : Nat) : Int) = 0 ↔ _
  rw [wrap_nat _ hlt]
  constructor
  · intro h
    have h0 : BitVec.ofInt 64 x ||| BitVec.ofInt 64 y = 0#64 := BitVec.eq_of_toNat_eq (by simpa using h)
    have h1 := BitVec.or_eq_zero_iff.1 h0
    refine ⟨bv_int hx (by omega) (by simpa using h1.1), bv_int hy (by omega) (by simpa using h1.2)⟩
  · rintro ⟨rfl, rfl⟩
    simp

theorem eq_tree (env : List Int) (hl : env.length = 8) (hr : Rng env (rngA kEq.args ++ rngM kEq.mem)) : T_eq.holds (AA.to kEq) env := by
  obtain ⟨a0, a1, a2, a3, b0, b1, b2, b3, rfl⟩ := len8 hl
  obtain ⟨h0, h1, h2, h3, k0, k1, k2, k3, _⟩ := hr
  have x0 := xo_zero (u64 h0) (u64 k0)
  have x1 := xo_zero (u64 h1) (u64 k1)
  have x2 := xo_zero (u64 h2) (u64 k2)
  have x3 := xo_zero (u64 h3) (u64 k3)
  simp only [T_eq, Tree.holds, AA, Eng.Ask.to, dec, dec1, kEq, post, IOp.ev, cmpEv, SI.val, List.map, List.cons_append, List.nil_append, List.getD_cons_zero, List.getD_cons_succ, List.take_succ_cons, List.take_zero, List.drop_succ_cons, List.drop_zero,
    forall_eq, List.cons.injEq, and_true, b01_inj]
  have o1 := orr_zero (orr_rng (orr (xo a3 b3) (xo a2 b2)) (xo a1 b1)) (xo_rng a0 b0)
  have o2 := orr_zero (orr_rng (xo a3 b3) (xo a2 b2)) (xo_rng a1 b1)
  have o3 := orr_zero (xo_rng a3 b3) (xo_rng a2 b2)
  have key : (orr (orr (orr (xo a3 b3) (xo a2 b2)) (xo a1 b1)) (xo a0 b0) = 0) ↔ (a0 = b0 ∧ a1 = b1 ∧ a2 = b2 ∧ a3 = b3) := by
    have x0 : xo a0 b0 = 0 ↔ a0 = b0 := x0
    have x1 : xo a1 b1 = 0 ↔ a1 = b1 := x1
    have x2 : xo a2 b2 = 0 ↔ a2 = b2 := x2
    have x3 : xo a3 b3 = 0 ↔ a3 = b3 := x3
    rw [o1, o2, o3, x0, x1, x2, x3]
    constructor
    · rintro ⟨⟨⟨p, q⟩, r⟩, s⟩; exact ⟨s, r, q, p⟩
    · rintro ⟨s, r, q, p⟩; exact ⟨⟨⟨p, q⟩, r⟩, s⟩
  have kd : (orr (orr (orr (xo a3 b3) (xo a2 b2)) (xo a1 b1)) (xo a0 b0) == 0) = decide (a0 = b0 ∧ a1 = b1 ∧ a2 = b2 ∧ a3 = b3) := by
    rw [Bool.eq_iff_iff, beq_iff_eq, decide_eq_true_eq]
    exact key
  exact ⟨kd, kd⟩

theorem ne_tree (env : List Int) (hl : env.length = 8) (hr : Rng env (rngA kNe.args ++ rngM kNe.mem)) : T_ne.holds (AA.to kNe) env := by
  obtain ⟨a0, a1, a2, a3, b0, b1, b2, b3, rfl⟩ := len8 hl
  obtain ⟨h0, h1, h2, h3, k0, k1, k2, k3, _⟩ := hr
  have x0 := xo_zero (u64 h0) (u64 k0)
  have x1 := xo_zero (u64 h1) (u64 k1)
  have x2 := xo_zero (u64 h2) (u64 k2)
  have x3 := xo_zero (u64 h3) (u64 k3)
  simp only [T_ne, Tree.holds, AA, Eng.Ask.to, dec, dec1, kNe, post, IOp.ev, SI.val, List.map, List.cons_append, List.nil_append, List.getD_cons_zero, List.getD_cons_succ, List.take_succ_cons, List.take_zero, List.drop_succ_cons, List.drop_zero,
    forall_eq, List.cons.injEq, and_true]
  have o1 := orr_zero (orr_rng (orr (xo a3 b3) (xo a2 b2)) (xo a1 b1)) (xo_rng a0 b0)
  have o2 := orr_zero (orr_rng (xo a3 b3) (xo a2 b2)) (xo_rng a1 b1)
  have o3 := orr_zero (xo_rng a3 b3) (xo_rng a2 b2)
  have key : (orr (orr (orr (xo a3 b3) (xo a2 b2)) (xo a1 b1)) (xo a0 b0) = 0) ↔ (a0 = b0 ∧ a1 = b1 ∧ a2 = b2 ∧ a3 = b3) := by
    have x0 : xo a0 b0 = 0 ↔ a0 = b0 := x0
    have x1 : xo a1 b1 = 0 ↔ a1 = b1 := x1
    have x2 : xo a2 b2 = 0 ↔ a2 = b2 := x2
    have x3 : xo a3 b3 = 0 ↔ a3 = b3 := x3
    rw [o1, o2, o3, x0, x1, x2, x3]
    constructor
    · rintro ⟨⟨⟨p, q⟩, r⟩, s⟩; exact ⟨s, r, q, p⟩
    · rintro ⟨s, r, q, p⟩; exact ⟨⟨⟨p, q⟩, r⟩, s⟩
  exact ⟨⟨_, rfl, key⟩, ⟨_, rfl, key⟩⟩

def kLawEq : K := { f := 3, args := [ar 0 4, ar 4 4], mem := [], m := 8, id := 10, mout := 1, ret := bo 8, mem1 := [] }
theorem beq_dec (l m : List Int) : (l == m) = decide (l = m) := by
  rw [Bool.eq_iff_iff, beq_iff_eq, decide_eq_true_eq]
theorem lawEq_tree (env : List Int) (hl : env.length = 8) : T_lawEq.holds (AA.to kLawEq) env := by
  obtain ⟨a0, a1, a2, a3, b0, b1, b2, b3, rfl⟩ := len8 hl
  refine ⟨trivial, fun ys _ h => ?_⟩
  obtain ⟨t, rfl⟩ : ∃ t, ys = [b01 t] := ⟨_, h⟩
  refine ⟨fun _ => ?_, fun _ => rfl⟩
  refine ⟨trivial, fun ys _ h' => ?_⟩
  obtain ⟨t', rfl⟩ : ∃ t, ys = [b01 t] := ⟨_, h'⟩
  refine ⟨fun _ => ?_, fun _ => rfl⟩
  clear h h'
  intro x hx
  have hx : x = b01 ([a0, a1, a2, a3] == [b0, b1, b2, b3]) := hx
  refine ⟨trivial, fun ys _ h3 => ?_⟩
  have h3 : ys = [b01 (decide ([a0, a1, a2, a3] = [b0, b1, b2, b3]))] := h3
  subst h3
  intro y hy
  have hy : y = b01 (b01 (decide ([a0, a1, a2, a3] = [b0, b1, b2, b3])) == x) := hy
  have hy1 : y = 1 := by
    rw [hy, hx, beq_dec, beq_self_eq_true]
    rfl
  subst hy1
  refine ⟨fun _ => ?_, fun h => ?_⟩
  · intro x' hx'
    have hx' : x' = b01 ([a0, a1, a2, a3] == [b0, b1, b2, b3]) := hx'
    refine ⟨trivial, fun ys _ h4 => ?_⟩
    obtain ⟨z, rfl, hz⟩ := h4
    have hz : z = 0 ↔ [a0, a1, a2, a3] = [b0, b1, b2, b3] := hz
    intro u hu
    have hu : u = b01 (z == 0) := hu
    intro v hv
    have hv : v = b01 (u == x') := hv
    have hv1 : v = 1 := by
      rw [hv, hu, hx', beq_dec]
      have : (z == 0) = decide ([a0, a1, a2, a3] = [b0, b1, b2, b3]) := by
        rw [Bool.eq_iff_iff, beq_iff_eq, decide_eq_true_eq]
        exact hz
      rw [this, beq_self_eq_true]
      rfl
    subst hv1
    refine ⟨fun _ => ?_, fun h => ?_⟩
    · refine ⟨trivial, fun ys _ h5 => ?_⟩
      have h5 : ys = [b01 (decide ([a0, a1, a2, a3] = [a0, a1, a2, a3]))] := h5
      subst h5
      simp only [decide_true]
      rfl
    · exact absurd (show (1 : Int) = 0 from h) (by decide)
  · exact absurd (show (1 : Int) = 0 from h) (by decide)

theorem mixed : Try.prog.follows .mixedOrders = true := by kernel_rfl
theorem extNr : Ext Try.prog (mkExt 37 36 3 48) :=
  ext_of (P := Try.prog) (fa := Try.f37) (fs := Try.f36) (by kernel_rfl) (by kernel_rfl) (by kernel_rfl) (by kernel_rfl) (by kernel_rfl) (by kernel_rfl) (by kernel_rfl) (by kernel_rfl) (by kernel_rfl) (by kernel_rfl) (by kernel_rfl)
theorem con (L : List K) (h : ∀ κ ∈ L, KOk Try.prog AA κ) : ConOk (CC L) AA := conOf_ok h
theorem k_of {L : List K} (h : ∀ κ ∈ L, KOk Try.prog AA κ) {κ : K} {T : Tree} (hx : mkExt 37 36 3 48 κ.f = 0) (ht : tr L κ = T)
    (hh : ∀ env : List Int, env.length = κ.m → Rng env (rngA κ.args ++ rngM κ.mem) → T.holds (AA.to κ) env) : KOk Try.prog AA κ :=
  kok_of (C := CC L) mixed extNr (con L h) 60 hx fun env hl hr _ => by
    have := hh env hl hr
    rw [← ht] at this
    exact this
theorem less_ok : KOk Try.prog AA kLess := k_of (L := []) (by simp) (by kernel_rfl) (T := T_less) (by kernel_rfl) less_tree
theorem eq_ok : KOk Try.prog AA kEq := k_of (L := []) (by simp) (by kernel_rfl) (T := T_eq) (by kernel_rfl) eq_tree
theorem ne_ok : KOk Try.prog AA kNe := k_of (L := []) (by simp) (by kernel_rfl) (T := T_ne) (by kernel_rfl) ne_tree
theorem lawEq_ok : KOk Try.prog AA kLawEq := k_of (L := [kLess, kEq, kNe]) (by
  intro κ h
  simp only [List.mem_cons, List.not_mem_nil, or_false] at h
  rcases h with rfl | rfl | rfl
  · exact less_ok
  · exact eq_ok
  · exact ne_ok) (by kernel_rfl) (T := T_lawEq) (by kernel_rfl) (fun env hl _ => lawEq_tree env hl)
/-- The law, called at whatever numbers in whatever world. -/
theorem lawEq_calls {xs : List Int} (hx : xs.length = 8) (hf : ∀ x ∈ xs, fits .u64 x) (w : World) :
    Calls Try.prog 3 #[.agg ((xs.take 4).map (Value.int .u64)).toArray, .agg ((xs.drop 4).map (Value.int .u64)).toArray] w
      (fun e w' => e = .returned (.bool true) ∧ Below w.heap.size w w') := by
  obtain ⟨a0, a1, a2, a3, b0, b1, b2, b3, rfl⟩ := len8 hx
  simp only [List.mem_cons, List.not_mem_nil, or_false, forall_eq_or_imp, forall_eq] at hf
  obtain ⟨f0, f1, f2, f3, f4, f5, f6, f7⟩ := hf
  refine (lawEq_ok [a0, a1, a2, a3, b0, b1, b2, b3] [] [.agg #[.int .u64 a0, .int .u64 a1, .int .u64 a2, .int .u64 a3], .agg #[.int .u64 b0, .int .u64 b1, .int .u64 b2, .int .u64 b3]] w rfl
    ⟨rfl, fun r cs wr h => by simp [kLawEq] at h, fun r s x y cs ds wr ws _ h => by simp at h, Kept.refl _ _⟩ ?_ trivial).mono ?_
  · refine ⟨⟨_, rfl, ⟨a0, rfl, f0, rfl⟩, ⟨a1, rfl, f1, rfl⟩, ⟨a2, rfl, f2, rfl⟩, ⟨a3, rfl, f3, rfl⟩, trivial⟩, ⟨_, rfl, ⟨b0, rfl, f4, rfl⟩, ⟨b1, rfl, f5, rfl⟩, ⟨b2, rfl, f6, rfl⟩, ⟨b3, rfl, f7, rfl⟩, trivial⟩, trivial⟩
  · rintro e w' ⟨ys, β', v, hl, hp, rfl, hb, hv, hM, _⟩
    have hp : ys = [1] := hp
    subst hp
    obtain ⟨t, ht, rfl⟩ := hv
    have ht : some (1 : Int) = some (b01 t) := ht
    cases t with
    | false => simp [b01] at ht
    | true =>
      refine ⟨rfl, Kept.below ?_⟩
      have hk := hM.kept
      have : TpOf [] kLawEq.mem = fun _ _ => False := by
        funext b o
        simp [TpOf, kLawEq]
      rw [this] at hk
      exact hk

section
variable {H : Type} {enc : TypeId × Value → H} {P : Program}
theorem post_of_below {f : Func} {s : ChangeSpec} {apart fresh handsOn again : Bool} {W W' : World} {args : Array Value} {v : Value} {ds gs : List (DataW H)} {before pa pv : List MemPlace}
    (hW : DataW.Whole enc P f.params.toList s.vars apart W args.toList ds gs before)
    (hres : ∀ (b : Nat) (sp : Nat → Bool) (hd : Bool), DataW.TrodAll enc P W' b sp hd f.resultTypes.toList (v.resultList f.resultTypes.size) (s.fn H (ds ++ gs)).results [])
    (hargs : ∀ sp : Nat → Bool, (∀ p ∈ before, sp p.block = true) → DataW.TrodAll enc P W' 0 sp true f.params.toList args.toList (s.fn H (ds ++ gs)).args pa)
    (hvars : ∀ sp : Nat → Bool, (∀ p ∈ before, sp p.block = true) → DataW.TrodVars enc P W' sp s.vars (s.fn H (ds ++ gs)).vars pv)
    (hps : before = pa ++ pv) (hb : Below W.heap.size W W')
    (hok : ∀ (j : Nat) (t : TypeId) (r : Value), f.resultTypes[j]? = some t → (v.resultList f.resultTypes.size)[j]? = some r → Value.okWide P W' .any 0 t r) :
    s.post enc P f apart fresh handsOn again W args v W' := by
  have hlt : ∀ p ∈ before, p.block < W.heap.size := fun p hp => hW.lt p hp
  have hold : ∀ p ∈ before, (fun b => decide (b < W.heap.size)) p.block = true := fun p hp => by simpa using hlt p hp
  refine ⟨ds, gs, before, [], pa, pv, hW, hres _ _ _, hargs _ hold, hvars _ hold, World.keptBut_mono (fun p hp => ⟨hp, ?_⟩) (hb.frame (· ∈ before)), fun _ => ?_⟩
  · rw [hps, List.mem_append] at hp
    exact Or.inr hp
  · obtain ⟨_, _, _, _, _, hz, hn⟩ := hW
    refine ⟨hok, _, _, ([] ++ pa) ++ pv, ⟨[] ++ pa, pv, trodAll_append (hargs _ (fun _ _ => rfl)) (hres _ _ _), hvars _ (fun _ _ => rfl), rfl, ?_, ?_⟩, ?_⟩
    · intro b off hp
      have hin : MemPlace.cell b off ∈ before := by rw [hps]; simpa using hp
      rw [hb.frozen (hlt _ hin)]
      exact hz b off hin
    · intro ha
      have := hn ha
      rw [hps] at this
      simpa using this
    · intro p hp _
      rw [hps]
      simpa using hp
end

section
variable {H : Type} {enc : TypeId × Value → H} {P : Program} {w : World} {base : Nat} {spare : Nat → Bool} {held : Bool}
theorem words_of {e : TypeId} (he : P.underlying e = some (.int .u64)) {m : Nat} : ∀ (cs : List Value) (xs : List (DataW H × List MemPlace)), xs.length = cs.length →
    (∀ i, i < cs.length → DataW.trod enc P w base spare held m e ((cs.drop i).take 1) = xs[i]?) →
    ∃ zs : List Int, cs = zs.map (Value.int .u64) ∧ xs = zs.map (fun z => (.lit (.int .u64 z), [])) ∧ ∀ z ∈ zs, (Lit.int .u64 z).wf = true
  | [], [], _, _ => ⟨[], rfl, rfl, fun z hz => by cases hz⟩
  | [], _ :: _, hl, _ => by simp at hl
  | _ :: _, [], hl, _ => by simp at hl
  | c :: cs, x :: xs, hl, h => by
    obtain ⟨z, h1, h2, h3⟩ := DataW.trod_int he (h 0 (by simp))
    obtain ⟨zs, h4, h5, h6⟩ := words_of he cs xs (by simpa using hl) (fun i hi => by simpa using h (i + 1) (by simpa using hi))
    simp at h1 h2
    refine ⟨z :: zs, by simp [h1, h4], by simp [h2, h5], fun y hy => ?_⟩
    rcases List.mem_cons.1 hy with rfl | hy
    · exact h3
    · exact h6 y hy
theorem open_words {n : Nat} {t e : TypeId} (ht : P.underlying t = some (.array n e)) (he : P.underlying e = some (.int .u64)) (hc : P.cellsOf t = n) (hce : P.cellsOf e = 1) {r : Reach} {b0 : Nat} {v : Value} {d : DataW H} {p : List MemPlace}
    (hval : Value.okWide P w r b0 t v) (h : DataW.Trod enc P w base spare held t v d p) :
    ∃ zs : List Int, zs.length = n ∧ v = .agg (zs.map (Value.int .u64)).toArray ∧ d = .agg (zs.map fun z => .lit (.int .u64 z)) ∧ p = [] ∧ ∀ z ∈ zs, (Lit.int .u64 z).wf = true := by
  obtain ⟨cs, rfl, hsz, _⟩ : ∃ cs, v = .agg cs ∧ cs.size = P.cellsOf t ∧ Row.okWide P w r b0 t cs := by
    simpa [Value.okWide, ht] using hval
  obtain ⟨fuel, hf⟩ := h
  obtain ⟨xs, m, _, hx, hl, hxl, hi⟩ := DataW.trod_array ht hf
  have hcl : cs.toList.length = n := by simpa [hc] using hsz
  obtain ⟨zs, h1, h2, h3⟩ := words_of he cs.toList xs (by rw [hxl, hcl]) (fun i hl => by
    have := hi i (by rw [← hcl]; exact hl)
    simpa [hce, Value.cells] using this)
  simp only [Prod.mk.injEq] at hx
  refine ⟨zs, ?_, ?_, ?_, ?_, h3⟩
  · rw [← hcl, h1]; simp
  · rw [← h1]
  · rw [hx.1, h2]; simp
  · rw [hx.2, h2]
    simp
theorem fits_wf {z : Int} (h : (Lit.int .u64 z).wf = true) : fits .u64 z := by
  have := bounds_u64 h
  exact (fits_iff _ _).2 ⟨by simp [kMin]; omega, by simp [kMax]; omega⟩
theorem len4 {l : List Int} (h : l.length = 4) : ∃ a b c d, l = [a, b, c, d] := by
  match l, h with
  | [a, b, c, d], _ => exact ⟨_, _, _, _, rfl⟩
end
theorem cells23 : Try.prog.cellsOf 23 = 4 := by kernel_rfl
theorem cells22 : Try.prog.cellsOf 22 = 1 := by kernel_rfl
theorem shut4 {H : Type} (enc : TypeId × Value → H) {a b c d : Int} (h0 : (Lit.int .u64 a).wf = true) (h1 : (Lit.int .u64 b).wf = true) (h2 : (Lit.int .u64 c).wf = true) (h3 : (Lit.int .u64 d).wf = true) (W : World) (n : Nat) (sp : Nat → Bool) (hd : Bool) :
    DataW.Trod enc Try.prog W n sp hd 23 (.agg #[.int .u64 a, .int .u64 b, .int .u64 c, .int .u64 d]) (.agg [.lit (.int .u64 a), .lit (.int .u64 b), .lit (.int .u64 c), .lit (.int .u64 d)]) [] :=
  ⟨2, by simp [DataW.trod, Value.cells, Try.underlying23, Try.underlying22, cells23, cells22, h0, h1, h2, h3, show List.range 4 = [0, 1, 2, 3] from rfl]⟩
theorem Try.own : ownKnob Try.prog.godebug = none := by kernel_rfl

set_option maxRecDepth 100000 in
theorem lawEq_lifted (os : Os) (started : os.Started) (H : Type) (enc : TypeId × Value → H) :
    ReturnsInHanded {} Try.checked os 3 .any (Rows.fnNrEqualSpec.pre6 enc Try.prog Try.f3 Rows.fnNrEqualRow.domain false) (Rows.fnNrEqualSpec.post enc Try.prog Try.f3 false true false false) := by
  refine returnsInHanded_of_change (C := Try.checked) Try.own started (by kernel_rfl) Try.func3
    (ChangeSpec.witness6 (enc := enc) (C := Try.checked) false ⟨#[], #[.agg #[.int .u64 0, .int .u64 0, .int .u64 0, .int .u64 0], .agg #[.int .u64 0, .int .u64 0, .int .u64 0, .int .u64 0]], []⟩ 8 (by kernel_rfl) (by kernel_rfl) (by kernel_rfl) (by kernel_rfl)) ?_
  intro W base args ds gs before hval0 hW hcnd _
  have hval : ∀ (j : Nat) t v, Try.f3.params[j]? = some t → args[j]? = some v → Value.okWide Try.prog W .any base t v := hval0
  have hW' := hW
  obtain ⟨p, q, hA0, hV, rfl, hfz, hnd⟩ := hW
  have hA : DataW.TrodAll enc Try.prog W 0 (fun _ => true) true Try.f3.params.toList args.toList ds p := hA0
  rw [Try.params3] at hA hval
  obtain ⟨v0, v1, d0, d1, p0, p1, rfl, rfl, rfl, h0, h1⟩ := trodAll_two hA
  obtain ⟨rfl, rfl⟩ := trodVars_none hV
  obtain ⟨xs, lx, rfl, rfl, rfl, wx⟩ := open_words Try.underlying23 Try.underlying22 cells23 cells22 (hval 0 23 v0 rfl rfl) h0
  obtain ⟨ys, ly, rfl, rfl, rfl, wy⟩ := open_words Try.underlying23 Try.underlying22 cells23 cells22 (hval 1 23 v1 rfl rfl) h1
  obtain ⟨x0, x1, x2, x3, rfl⟩ := len4 lx
  obtain ⟨y0, y1, y2, y3, rfl⟩ := len4 ly
  clear hA0 hval0
  simp only [List.append_nil] at hW'
  have a1 : ∀ W' sp, DataW.Trod enc Try.prog W' 0 sp true 23 _ _ [] := fun W' sp => shut4 enc (wx x0 (by simp)) (wx x1 (by simp)) (wx x2 (by simp)) (wx x3 (by simp)) W' 0 sp true
  have a2 : ∀ W' sp, DataW.Trod enc Try.prog W' 0 sp true 23 _ _ [] := fun W' sp => shut4 enc (wy y0 (by simp)) (wy y1 (by simp)) (wy y2 (by simp)) (wy y3 (by simp)) W' 0 sp true
  have walk := lawEq_calls (xs := [x0, x1, x2, x3, y0, y1, y2, y3]) rfl (by
    intro z hz
    have : z ∈ [x0, x1, x2, x3] ∨ z ∈ [y0, y1, y2, y3] := by simpa [or_assoc] using hz
    rcases this with h | h
    · exact fits_wf (wx z h)
    · exact fits_wf (wy z h)) W
  refine walk.mono fun e W' ⟨he, hb⟩ => ?_
  subst he
  exact ⟨_, rfl, post_of_below (pa := []) (pv := []) hW' (fun _ _ _ => trodAll_mk1 (shut_bool Try.underlying4 true)) (fun sp _ => trodAll_mk2 (a1 W' sp) (a2 W' sp)) (fun _ _ => rfl) rfl
    hb (ok_one (by kernel_rfl) rfl (okWide_bool_mk Try.underlying4 true))⟩

theorem lawEq_holds : Rows.FnNrEqualSaid :=
  OpenClaim.holds_of_wide 3 Try.f3 rfl rfl rfl rfl rfl rfl rfl ⟨rfl, rfl, rfl, rfl, rfl⟩ rfl rfl rfl rfl rfl (by kernel_rfl) Try.func3 (by kernel_rfl)
    (of_decide_eq_true (by kernel_rfl)) (by unfold Func.isWrapper; first | (rw [if_pos (by decide +kernel)]; kernel_rfl) | (rw [if_neg (by decide +kernel)]; exact ⟨rfl, rfl⟩))
    (fun os started H enc _ => lawEq_lifted os started H enc)

end Go.Proofs.Ytkfojkdlojmgoaa
