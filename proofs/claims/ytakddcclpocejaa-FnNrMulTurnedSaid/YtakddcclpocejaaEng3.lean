/-
  The symbolic values of the walk by reckoning: integers by their places in a list, pointers by regions; what they stand for.
-/
import Derived.Test.YtakddcclpocejaaEng2
import Derived.WalkKit
namespace Eng
open Go

/-! ### integers that fit their kind -/
def fits (k : IntKind) (n : Int) : Prop := k.wrap n = n

theorem wrap_i8 (n : Int) : IntKind.i8.wrap n = (n + 128) % 256 - 128 := by
  simp [IntKind.wrap, IntKind.bits, IntKind.signed]
  split <;> omega
theorem wrap_i16 (n : Int) : IntKind.i16.wrap n = (n + 32768) % 65536 - 32768 := by
  simp [IntKind.wrap, IntKind.bits, IntKind.signed]
  split <;> omega

def kMin : IntKind → Int
  | .i8 => -128 | .i16 => -32768 | .i32 => -2147483648 | .i64 => -9223372036854775808 | _ => 0
def kMax : IntKind → Int
  | .i8 => 127 | .i16 => 32767 | .i32 => 2147483647 | .i64 => 9223372036854775807
  | .u8 => 255 | .u16 => 65535 | .u32 => 4294967295 | .u64 => 18446744073709551615

theorem fits_iff (k : IntKind) (n : Int) : fits k n ↔ kMin k ≤ n ∧ n ≤ kMax k := by
  unfold fits
  cases k <;> simp only [wrap_i8, wrap_i16, IntKind.wrap_i32, IntKind.wrap_i64, IntKind.wrap_u8, IntKind.wrap_u16, IntKind.wrap_u32, IntKind.wrap_u64, kMin, kMax] <;> omega

theorem fits_wrap (k : IntKind) (n : Int) : fits k (k.wrap n) := by
  rw [fits_iff]
  cases k <;> simp only [wrap_i8, wrap_i16, IntKind.wrap_i32, IntKind.wrap_i64, IntKind.wrap_u8, IntKind.wrap_u16, IntKind.wrap_u32, IntKind.wrap_u64, kMin, kMax] <;> omega

theorem kMin_le (k : IntKind) : kMin k ≤ 0 := by cases k <;> decide
theorem kMax_ge (k : IntKind) : 0 ≤ kMax k := by cases k <;> decide

theorem fits_fdiv {k : IntKind} {n : Int} (h : fits k n) (d : Int) (hd : 0 < d) : fits k (n.fdiv d) := by
  rw [fits_iff] at *
  have h1 := kMin_le k
  have h2 := kMax_ge k
  rw [Int.fdiv_eq_ediv_of_nonneg _ (by omega)]
  constructor
  · rcases Int.le_total 0 n with h0 | h0
    · exact Int.le_trans h1 (Int.ediv_nonneg h0 (by omega))
    · refine Int.le_trans h.1 ?_
      exact (Int.le_ediv_iff_mul_le hd).2 (by
        have := Int.mul_le_mul_of_nonpos_left (show n ≤ 0 from h0) (show (1 : Int) ≤ d by omega)
        omega)
  · rcases Int.le_total 0 n with h0 | h0
    · exact Int.le_trans (Int.ediv_le_self d h0) h.2
    · exact Int.le_trans (Int.ediv_nonpos_of_nonpos_of_neg h0 hd) h2

theorem fits_tmod {k : IntKind} {n : Int} (h : fits k n) (d : Int) : fits k (n.tmod d) := by
  rw [fits_iff] at *
  have h1 := kMin_le k
  have h2 := kMax_ge k
  have h3 : (n.tmod d).natAbs ≤ n.natAbs := by rw [Int.natAbs_tmod]; exact Nat.mod_le _ _
  rcases Int.le_total 0 n with h0 | h0
  · have a1 := Int.tmod_nonneg d h0
    omega
  · have e : n.tmod d = -((-n).tmod d) := by rw [Int.neg_tmod, Int.neg_neg]
    have a1 := Int.tmod_nonneg d (show 0 ≤ -n by omega)
    omega

/-! ### the operations on integers -/
inductive IOp where
  | bin (op : BinOp) (k : IntKind)
  | cmp (op : BinOp)
  | conv (k : IntKind)
  | addS | addC | subD | subB
  | notB
  | eqs (n : Nat)
  | mulH | mulL
  | mx | mn
  deriving DecidableEq

def b01 (b : Bool) : Int := if b then 1 else 0

def binEv (op : BinOp) (k : IntKind) (x y : Int) : Int :=
  match op with
  | .add => k.wrap (x + y)
  | .sub => k.wrap (x - y)
  | .mul => k.wrap (x * y)
  | .quo => k.wrap (x.tdiv y)
  | .rem => x.tmod y
  | .and => k.wrap ((BitVec.ofInt k.bits x &&& BitVec.ofInt k.bits y).toNat)
  | .or => k.wrap ((BitVec.ofInt k.bits x ||| BitVec.ofInt k.bits y).toNat)
  | .xor => k.wrap ((BitVec.ofInt k.bits x ^^^ BitVec.ofInt k.bits y).toNat)
  | .andNot => k.wrap ((BitVec.ofInt k.bits x &&& ~~~(BitVec.ofInt k.bits y)).toNat)
  | .shl => k.wrap (x * 2 ^ (min y.toNat k.bits))
  | .shr => x.fdiv (2 ^ (min y.toNat k.bits))
  | _ => 0

def cmpEv (op : BinOp) (x y : Int) : Bool :=
  match op with
  | .eql => x == y
  | .neq => x != y
  | .lss => decide (x < y)
  | .leq => decide (x ≤ y)
  | .gtr => decide (x > y)
  | .geq => decide (x ≥ y)
  | _ => false

def eqsEv : Nat → List Int → Bool
  | 0, _ => true
  | n + 1, l => (l.getD 0 0 == l.getD (n + 1) 0) && eqsEv n (l.tail.eraseIdx n)

def IOp.ev : IOp → List Int → Int
  | .bin op k, l => binEv op k (l.getD 0 0) (l.getD 1 0)
  | .cmp op, l => b01 (cmpEv op (l.getD 0 0) (l.getD 1 0))
  | .conv k, l => k.wrap (l.getD 0 0)
  | .addS, l => (((l.getD 0 0).toNat + (l.getD 1 0).toNat + (l.getD 2 0).toNat) % 18446744073709551616 : Nat)
  | .addC, l => b01 (decide (18446744073709551616 ≤ (l.getD 0 0).toNat + (l.getD 1 0).toNat + (l.getD 2 0).toNat))
  | .subD, l => (((l.getD 0 0).toNat + 18446744073709551616 - (l.getD 1 0).toNat - (l.getD 2 0).toNat) % 18446744073709551616 : Nat)
  | .subB, l => b01 (decide ((l.getD 0 0).toNat < (l.getD 1 0).toNat + (l.getD 2 0).toNat))
  | .notB, l => 1 - l.getD 0 0
  | .eqs n, l => b01 ((l.take n) == (l.drop n))
  | .mulH, l => l.getD 0 0 * l.getD 1 0 / 18446744073709551616
  | .mulL, l => l.getD 0 0 * l.getD 1 0 % 18446744073709551616
  | .mx, l => if l.getD 1 0 > l.getD 0 0 then l.getD 1 0 else l.getD 0 0
  | .mn, l => if l.getD 1 0 < l.getD 0 0 then l.getD 1 0 else l.getD 0 0

/-- Its result is 0 or 1. -/
def IOp.bit : IOp → Bool
  | .cmp _ | .addC | .subB | .eqs _ => true
  | _ => false

/-! ### symbolic values -/
inductive SI where
  | lit (n : Int)
  | var (x : Nat)
inductive SB where
  | lit (b : Bool)
  | var (x : Nat)
inductive SC where
  | ii (k : IntKind) (e : SI)
  | bb (e : SB)
  | pp (r o : Nat)
  | ss (r o len cap : Nat)
  | kk (v : Value)
inductive SW where
  | cc (x : SC)
  | aa (l : List SC)
inductive SV where
  | ww (x : SW)
  | tt (l : List SW)

def All2 {α β : Type} (R : α → β → Prop) : List α → List β → Prop
  | [], [] => True
  | x :: xs, y :: ys => R x y ∧ All2 R xs ys
  | _, _ => False

section all2
variable {α β : Type} {R R' : α → β → Prop}
theorem All2.mono (h : ∀ x y, R x y → R' x y) : ∀ {l : List α} {m : List β}, All2 R l m → All2 R' l m
  | [], [], _ => trivial
  | _ :: _, _ :: _, ⟨h1, h2⟩ => ⟨h _ _ h1, All2.mono h h2⟩
theorem All2.length : ∀ {l : List α} {m : List β}, All2 R l m → l.length = m.length
  | [], [], _ => rfl
  | _ :: _, _ :: _, ⟨_, h2⟩ => by simp [All2.length h2]
theorem All2.get : ∀ {l : List α} {m : List β} {i : Nat} {x : α}, All2 R l m → l[i]? = some x → ∃ y, m[i]? = some y ∧ R x y
  | _ :: _, y :: _, 0, _, ⟨h1, _⟩, h => ⟨y, rfl, by simp at h; exact h ▸ h1⟩
  | _ :: _, _ :: _, i + 1, _, ⟨_, h2⟩, h => by
    obtain ⟨y, hy, hr⟩ := All2.get (i := i) h2 (by simpa using h)
    exact ⟨y, by simpa using hy, hr⟩
theorem All2.append : ∀ {l l' : List α} {m m' : List β}, All2 R l m → All2 R l' m' → All2 R (l ++ l') (m ++ m')
  | [], _, [], _, _, h => h
  | _ :: _, _, _ :: _, _, ⟨h1, h2⟩, h => ⟨h1, All2.append h2 h⟩
theorem All2.of_get : ∀ {l : List α} {f : Nat → β}, (∀ i x, l[i]? = some x → R x (f i)) → All2 R l ((List.range l.length).map f)
  | [], _, _ => trivial
  | x :: l, f, h => by
    rw [List.length_cons, List.range_succ_eq_map, List.map_cons, List.map_map]
    exact ⟨h 0 x rfl, All2.of_get (f := f ∘ Nat.succ) fun i x hx => h (i + 1) x (by simpa using hx)⟩
end all2

section den
variable (env : List Int) (β : List (Nat × Nat))
def SI.is : SI → Int → Prop
  | .lit n, m => m = n
  | .var x, m => env[x]? = some m
def SI.val : SI → Int
  | .lit n => n
  | .var x => env.getD x 0
def SB.is : SB → Bool → Prop
  | .lit b, t => t = b
  | .var x, t => env[x]? = some (b01 t)
def SB.si : SB → SI
  | .lit b => .lit (b01 b)
  | .var x => .var x
def SC.is : SC → Value → Prop
  | .ii k e, v => ∃ n, e.is env n ∧ fits k n ∧ v = .int k n
  | .bb e, v => ∃ t, e.is env t ∧ v = .bool t
  | .pp r o, v => ∃ x, β[r]? = some x ∧ v = .pointer (some ⟨x.1, x.2 + o, none⟩)
  | .ss r o len cap, v => ∃ x, β[r]? = some x ∧ v = .slice (some ⟨x.1, x.2 + o, none⟩) len cap
  | .kk u, v => v = u ∧ u.oneCell' = true
def SW.is : SW → Value → Prop
  | .cc x, v => x.is env β v
  | .aa l, v => ∃ vs, v = .agg vs.toArray ∧ All2 (SC.is env β) l vs
def SV.is : SV → Value → Prop
  | .ww x, v => x.is env β v
  | .tt l, v => ∃ vs, v = .tuple vs.toArray ∧ All2 (SW.is env β) l vs
end den

theorem SI.is.val {env : List Int} {e : SI} {n : Int} (h : e.is env n) : e.val env = n := by
  cases e with
  | lit m => exact h.symm
  | var x =>
    have h' : env[x]? = some n := h
    simp [SI.val, h']
theorem SB.is.si {env : List Int} {e : SB} {t : Bool} (h : e.is env t) : e.si.is env (b01 t) := by
  cases e with
  | lit b => have h' : t = b := h; subst h'; rfl
  | var x => exact h
theorem get_more {α : Type} {l : List α} {x : Nat} {v : α} (h : l[x]? = some v) (m : List α) : (l ++ m)[x]? = some v := by
  have hlt := (List.getElem?_eq_some_iff.1 h).1
  rw [List.getElem?_append_left hlt]; exact h
section more
variable {env : List Int} {β : List (Nat × Nat)} (e' : List Int) (β' : List (Nat × Nat))
theorem SI.is.more {e : SI} {n : Int} (h : e.is env n) : e.is (env ++ e') n := by
  cases e with
  | lit m => exact h
  | var x => exact get_more h e'
theorem SB.is.more {e : SB} {n : Bool} (h : e.is env n) : e.is (env ++ e') n := by
  cases e with
  | lit m => exact h
  | var x => exact get_more h e'
theorem SC.is.more {e : SC} {v : Value} (h : e.is env β v) : e.is (env ++ e') (β ++ β') v := by
  cases e with
  | ii k e => obtain ⟨n, h1, h2⟩ := h; exact ⟨n, h1.more e', h2⟩
  | bb e => obtain ⟨n, h1, h2⟩ := h; exact ⟨n, h1.more e', h2⟩
  | pp r o => obtain ⟨x, h1, h2⟩ := h; exact ⟨x, get_more h1 β', h2⟩
  | ss r o l c => obtain ⟨x, h1, h2⟩ := h; exact ⟨x, get_more h1 β', h2⟩
  | kk v => exact h
theorem SW.is.more {e : SW} {v : Value} (h : e.is env β v) : e.is (env ++ e') (β ++ β') v := by
  cases e with
  | cc x => exact SC.is.more (env := env) e' β' h
  | aa l => obtain ⟨vs, h1, h2⟩ := h; exact ⟨vs, h1, h2.mono fun _ _ h => h.more e' β'⟩
theorem SV.is.more {e : SV} {v : Value} (h : e.is env β v) : e.is (env ++ e') (β ++ β') v := by
  cases e with
  | ww x => exact SW.is.more (env := env) e' β' h
  | tt l => obtain ⟨vs, h1, h2⟩ := h; exact ⟨vs, h1, h2.mono fun _ _ h => h.more e' β'⟩
end more
theorem SC.is.one {env : List Int} {β : List (Nat × Nat)} {e : SC} {v : Value} (h : e.is env β v) : v.oneCell' = true := by
  cases e with
  | ii k e => obtain ⟨n, _, _, rfl⟩ := h; rfl
  | bb e => obtain ⟨n, _, rfl⟩ := h; rfl
  | pp r o => obtain ⟨x, _, rfl⟩ := h; rfl
  | ss r o l c => obtain ⟨x, _, rfl⟩ := h; rfl
  | kk u => exact h.1 ▸ h.2

/-- The cells of a value of one or several cells. -/
def SW.cells : SW → List SC
  | .cc x => [x]
  | .aa l => l
theorem SW.is.cells {env : List Int} {β : List (Nat × Nat)} {e : SW} {v : Value} (h : e.is env β v) : All2 (SC.is env β) e.cells v.cells.toList := by
  cases e with
  | cc x =>
    have h1 : x.is env β v := h
    have : v.cells = #[v] := by
      have := h1.one
      cases v <;> first | rfl | simp [Value.oneCell'] at this
    rw [this]
    exact ⟨h1, trivial⟩
  | aa l => obtain ⟨vs, rfl, h2⟩ := h; simpa [Value.cells, SW.cells] using h2

/-- A value that is known is written as a symbolic one. -/
def ofVal : Value → Option SC
  | .int k n => bif decide (k.wrap n = n) then some (.ii k (.lit n)) else none
  | .bool b => some (.bb (.lit b))
  | .agg _ => none
  | .tuple _ => none
  | v => some (.kk v)
theorem ofVal_is {env : List Int} {β : List (Nat × Nat)} {v : Value} {x : SC} (h : ofVal v = some x) : x.is env β v := by
  cases v with
  | int k n =>
    simp only [ofVal] at h
    cases hd : decide (k.wrap n = n)
    · simp [hd] at h
    · simp [hd] at h; subst h; exact ⟨n, rfl, (of_decide_eq_true hd : k.wrap n = n), rfl⟩
  | bool b => simp [ofVal] at h; subst h; exact ⟨b, rfl, rfl⟩
  | agg c => simp [ofVal] at h
  | tuple c => simp [ofVal] at h
  | _ => simp [ofVal] at h; subst h; exact ⟨rfl, rfl⟩
def ofVals : List Value → Option (List SC)
  | [] => some []
  | v :: r => match ofVal v, ofVals r with
    | some x, some l => some (x :: l)
    | _, _ => none
theorem ofVals_is {env : List Int} {β : List (Nat × Nat)} : ∀ {l : List Value} {m : List SC}, ofVals l = some m → All2 (SC.is env β) m l
  | [], m, h => by simp [ofVals] at h; subst h; trivial
  | v :: r, m, h => by
    unfold ofVals at h
    cases hv : ofVal v with
    | none => simp [hv] at h
    | some x =>
      cases hr : ofVals r with
      | none => simp [hv, hr] at h
      | some l => simp [hv, hr] at h; subst h; exact ⟨ofVal_is hv, ofVals_is hr⟩
end Eng
