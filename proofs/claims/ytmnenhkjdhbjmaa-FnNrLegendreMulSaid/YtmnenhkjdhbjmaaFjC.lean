/-
  The contracts of the functions that the inverse or the symbol reaches and that have no loops of their own: each is shown from the tree of facts that the walk by reckoning gives. No conditions.
-/
import Derived.Test.YtmnenhkjdhbjmaaEngC
import Derived.Test.YtmnenhkjdhbjmaaEngD
import Derived.Test.YtmnenhkjdhbjmaaLI
import Derived.Test.YtmnenhkjdhbjmaaIL
import Derived.Lib.BitFns
import Derived.Lib.Strings
import Derived.Lib.Slices
import Derived.Lib.Small
import Derived.Lib.Walk
import Derived.WalkKit
import Derived.Deep.Light
import Derived.Test.YtmnenhkjdhbjmaaProg
namespace Go.Proofs.Ytmnenhkjdhbjmaa
open Go Eng Go.RowKit
set_option maxRecDepth 100000
def prime : List Int := [4891460686036598785, 2896914383306846353, 13281191951274694749, 3486998266802970665]
def one : List Int := [12436184717236109307, 3962172157175319849, 7381016538464732718, 1011752739694698287]
def qi : Int := 14042775128853446655
noncomputable def CP (L : List K) (Ps : List ((Nat × Nat) × PC)) : Cfg := ⟨Try.prog, mkExt 42 29 3 50, conOf L, pcOf Ps⟩
noncomputable def CC (L : List K) : Cfg := CP L []
noncomputable def tr (L : List K) (κ : K) : Tree := xcall (CC L) (fun f => xcode (CC L) 60 f 0) κ.f κ.args κ.st κ.end
def r2 : List (List SC × Bool) := [(us 0 4, false), (us 4 4, false)]
def r3 : List (List SC × Bool) := [(us 0 4, false), (us 4 4, false), (us 8 4, false)]
def w1 (x : Nat) : SV := .ww (.cc (u x))
def i1 (x : Nat) : SV := .ww (.cc (.ii .i64 (.var x)))
def kLess : K := { f := 6, args := [sl 0 4, sl 1 4], mem := r2, m := 8, id := 0, mout := 1, ret := bo 8, mem1 := r2 }
def kSmall : K := { f := 43, args := [pt 0], mem := [(us 0 4, false)], m := 4, id := 7, mout := 1, ret := bo 4, mem1 := [(us 0 4, false)] }
def kMul64 : K := { f := 41, args := [w1 0, w1 1], mem := [], m := 2, id := 20, mout := 2, ret := .tt [.cc (u 2), .cc (u 3)], mem1 := [] }
def kMadd0 : K := { f := 49, args := [w1 0, w1 1, w1 2], mem := [], m := 3, id := 21, mout := 1, ret := w1 3, mem1 := [] }
def kMadd2 : K := { f := 50, args := [w1 0, w1 1, w1 2, w1 3], mem := [], m := 4, id := 22, mout := 2, ret := .tt [.cc (u 4), .cc (u 5)], mem1 := [] }
def kMadd1 : K := { f := 48, args := [w1 0, w1 1, w1 2], mem := [], m := 3, id := 45, mout := 2, ret := .tt [.cc (u 3), .cc (u 4)], mem1 := [] }
def kMulE : K := { f := 25, args := [pt 0, pt 1, pt 2], mem := [(us 0 4, true), (us 4 4, false), (us 8 4, false)], m := 12, id := 30, mout := 4, ret := pt 0, mem1 := [(us 12 4, true), (us 4 4, false), (us 8 4, false)] }
def kMulZ : K := { f := 25, args := [pt 0, pt 0, pt 1], mem := [(us 0 4, true), (us 4 4, false)], m := 8, id := 35, mout := 4, ret := pt 0, mem1 := [(us 8 4, true), (us 4 4, false)] }
def kSqZ : K := { f := 47, args := [pt 0, pt 0], mem := [(us 0 4, true)], m := 4, id := 58, mout := 4, ret := pt 0, mem1 := [(us 4 4, true)] }
def kLen : K := { f := 44, args := [w1 0], mem := [], m := 1, id := 46, mout := 1, ret := i1 1, mem1 := [] }
def kBits : K := { f := 27, args := [pt 0], mem := [(us 0 4, false)], m := 4, id := 47, mout := 1, ret := i1 4, mem1 := [(us 0 4, false)] }
def kAppr : K := { f := 28, args := [pt 0, i1 4], mem := [(us 0 4, false)], m := 5, id := 48, mout := 1, ret := w1 5, mem1 := [(us 0 4, false)] }
def kNeg : K := { f := 32, args := [pt 0, w1 4], mem := [(us 0 4, true)], m := 5, id := 50, mout := 5, ret := w1 9, mem1 := [(us 5 4, true)] }
def kMulW : K := { f := 45, args := [pt 0, pt 1, i1 8], mem := [(us 0 4, true), (us 4 4, false)], m := 9, id := 51, mout := 5, ret := w1 13, mem1 := [(us 9 4, true), (us 4 4, false)] }
def kMulWz : K := { f := 45, args := [pt 0, pt 0, i1 4], mem := [(us 0 4, true)], m := 5, id := 52, mout := 5, ret := w1 9, mem1 := [(us 5 4, true)] }
def kLinD : K := { f := 31, args := [pt 0, pt 1, i1 12, pt 2, i1 13], mem := [(us 0 4, true), (us 4 4, false), (us 8 4, false)], m := 14, id := 53, mout := 5, ret := w1 18, mem1 := [(us 14 4, true), (us 4 4, false), (us 8 4, false)] }
def kLinY : K := { f := 31, args := [pt 0, pt 1, i1 8, pt 0, i1 9], mem := [(us 0 4, true), (us 4 4, false)], m := 10, id := 54, mout := 5, ret := w1 14, mem1 := [(us 10 4, true), (us 4 4, false)] }
def kLinX : K := { f := 31, args := [pt 0, pt 0, i1 8, pt 1, i1 9], mem := [(us 0 4, true), (us 4 4, false)], m := 10, id := 55, mout := 5, ret := w1 14, mem1 := [(us 10 4, true), (us 4 4, false)] }
def kCombY : K := { f := 33, args := [pt 0, pt 1, i1 8, pt 0, i1 9], mem := [(us 0 4, true), (us 4 4, false)], m := 10, id := 56, mout := 4, ret := .tt [], mem1 := [(us 10 4, true), (us 4 4, false)] }
def kCombX : K := { f := 33, args := [pt 0, pt 0, i1 8, pt 1, i1 9], mem := [(us 0 4, true), (us 4 4, false)], m := 10, id := 57, mout := 4, ret := .tt [], mem1 := [(us 10 4, true), (us 4 4, false)] }
def kZero : K := { f := 26, args := [pt 0], mem := [(us 0 4, false)], m := 4, id := 65, mout := 1, ret := bo 4, mem1 := [(us 0 4, false)] }
def kOne : K := { f := 35, args := [pt 0], mem := [(us 0 4, false)], m := 4, id := 66, mout := 1, ret := bo 4, mem1 := [(us 0 4, false)] }
def kDec : K := { f := 30, args := [i1 0], mem := [], m := 1, id := 67, mout := 2, ret := .tt [.cc (.ii .i64 (.var 1)), .cc (.ii .i64 (.var 2))], mem1 := [] }

def post (id : Nat) (xs ys : List Int) : Prop := match id with
  | 0 => ys = [b01 (decide (vw (xs.take 4) < vw (xs.drop 4)))]
  | 1 => ys = [b01 (decide (xs.take 4 = xs.drop 4))]
  | 4 => Plus (xs.take 4) (xs.drop 4) ys
  | 5 => Lessen (xs.take 4) (xs.drop 4) ys
  | 7 => ys = [b01 (decide (vw xs < vw prime))]
  | 11 => SumMod (xs.take 4) ((xs.drop 4).take 4) (xs.drop 8) ys
  | 13 => ys = [1]
  | 20 => Mul64 xs ys
  | 21 => Madd0 xs ys
  | 22 => Madd2 xs ys
  | 30 => MulM 4 prime ((xs.drop 4).take 4) (xs.drop 8) ys
  | 31 => MulM 4 prime (xs.take 4) (xs.drop 4) ys
  | 35 => MulM 4 prime (xs.take 4) (xs.drop 4) ys
  | 45 => Madd1 xs ys
  | 46 => BitP 1 xs ys
  | 47 => BitP 4 xs ys
  | 48 => ApprP 31 (xs.take 4) (xs.getD 4 0) ys
  | 49 => ApprP 32 (xs.take 4) (xs.getD 4 0) ys
  | 50 => NegP 4 xs ys
  | 51 => MulP 4 ((xs.drop 4).take 4) (xs.getD 8 0) ys
  | 52 => MulP 4 (xs.take 4) (xs.getD 4 0) ys
  | 53 => LinP 4 ((xs.drop 4).take 4) (xs.getD 12 0) ((xs.drop 8).take 4) (xs.getD 13 0) ys
  | 54 => LinP 4 ((xs.drop 4).take 4) (xs.getD 8 0) (xs.take 4) (xs.getD 9 0) ys
  | 55 => LinP 4 (xs.take 4) (xs.getD 8 0) ((xs.drop 4).take 4) (xs.getD 9 0) ys
  | 56 => ys.length = 4 ∧ Wds ys
  | 57 => ys.length = 4 ∧ Wds ys
  | 58 => MulM 4 prime xs xs ys
  | 59 => PowM 4 prime (xs.drop 4) (vw prime - 2).toNat ys
  | 60 => InvP 4 prime (xs.drop 4) ys
  | 61 => InvP 4 prime xs ys
  | 62 => ShfP 4 (xs.take 4) (xs.drop 4) ys
  | 63 => PrdP 4 (xs.take 4) ((xs.drop 4).take 4) (xs.drop 8) ys
  | 64 => ys = [b01 (decide (vw xs = 0))]
  | 65 => ys = [b01 (decide (vw xs = 0))]
  | 66 => ys = [b01 (decide (xs = one))]
  | 67 => DecP (xs.headD 0) ys
  | 68 => ys = []
  | 70 => InnP xs ys
  | 71 => OutP 4 xs ys
  | 72 => ShrP 4 xs ys
  | 73 => PowM 4 prime (xs.drop 4) (vw prime - 2).toNat ys
  | 74 => ShfP 4 (xs.take 4) (xs.drop 4) ys
  | 75 => PrdP 4 (xs.take 4) ((xs.drop 4).take 4) ((xs.drop 8).take 4) ys
  | 76 => InvP 4 prime xs ys
  | 77 => LgnP xs ys
  | 78 => LgoP 4 xs ys
  | 79 => ys = [Jac.J (vw xs) (vw prime)]
  | 80 => ys = [Jac.J (vw xs) (vw prime)]
  | _ => False
def preX (id : Nat) (xs : List Int) : Prop := match id with
  | 30 => vw (xs.drop 8) < vw prime
  | 31 => vw (xs.drop 4) < vw prime
  | 35 => vw (xs.drop 4) < vw prime
  | 46 => Wds xs
  | 47 => Wds xs
  | 48 => ∃ (x : List Int) (M : Nat), xs = x ++ [(M : Int)] ∧ x.length = 4 ∧ Wds x ∧ M ≤ 64 * 4 ∧ vw x < 2 ^ M
  | 49 => ∃ (x : List Int) (M : Nat), xs = x ++ [(M : Int)] ∧ x.length = 4 ∧ Wds x ∧ M ≤ 64 * 4 ∧ vw x < 2 ^ M
  | 50 => Wds xs
  | 51 => ∃ z x y, xs = z ++ x ++ [y] ∧ z.length = 4 ∧ x.length = 4 ∧ Wds x ∧ I64 y
  | 52 => ∃ x y, xs = x ++ [y] ∧ x.length = 4 ∧ Wds x ∧ I64 y
  | 53 => ∃ z x y c d, xs = z ++ x ++ y ++ [c, d] ∧ z.length = 4 ∧ x.length = 4 ∧ y.length = 4 ∧ Wds x ∧ Wds y ∧ I64 c ∧ I64 d
  | 54 => ∃ y x c d, xs = y ++ x ++ [c, d] ∧ x.length = 4 ∧ y.length = 4 ∧ Wds x ∧ Wds y ∧ I64 c ∧ I64 d
  | 55 => ∃ x y c d, xs = x ++ y ++ [c, d] ∧ x.length = 4 ∧ y.length = 4 ∧ Wds x ∧ Wds y ∧ I64 c ∧ I64 d
  | 56 => ∃ l c d, xs = l ++ [c, d] ∧ l.length = 2 * 4 ∧ Wds l ∧ I64 c ∧ I64 d
  | 57 => ∃ l c d, xs = l ++ [c, d] ∧ l.length = 2 * 4 ∧ Wds l ∧ I64 c ∧ I64 d
  | 58 => Wds xs ∧ vw xs < vw prime
  | 59 => Wds xs ∧ vw (xs.drop 4) < vw prime
  | 60 => Wds xs ∧ vw (xs.drop 4) < vw prime
  | 61 => Wds xs ∧ vw xs < vw prime
  | 62 => Wds xs ∧ vw (xs.take 4) < vw (xs.drop 4)
  | 63 => Wds xs ∧ vw (xs.take 4) < vw (xs.drop 8)
  | 64 => Wds xs
  | 65 => Wds xs
  | 66 => Wds xs
  | 67 => ∃ x, xs = [x] ∧ I64 x
  | 70 => ∃ l X Y, xs = l ++ [1, 4294967296, X, Y] ∧ Wd X ∧ Wd Y ∧ Y % 2 = 1
  | 71 => OutI 4 xs
  | 72 => Wds xs ∧ vw ((bk 13 xs).take 4) < vw prime
  | 73 => Wds xs ∧ xs.take 4 = xs.drop 4 ∧ vw (xs.drop 4) < vw prime
  | 74 => Wds xs ∧ vw (xs.take 4) < vw (xs.drop 4)
  | 75 => Wds xs ∧ vw (xs.take 4) < vw ((xs.drop 8).take 4) ∧ vw (xs.drop 12) = 0
  | 76 => Wds xs ∧ vw xs < vw prime
  | 77 => ∃ l X Y v, xs = l ++ [1, 4294967296, X, Y, v] ∧ Wd X ∧ Wd Y ∧ Y % 2 = 1 ∧ (v = 1 ∨ v = -1)
  | 78 => vw ((xs.drop 4).take 4) % 2 = 1 ∧ (xs.getD (12 + 2) 0 = 1 ∨ xs.getD (12 + 2) 0 = -1)
  | 79 => Wds xs
  | 80 => Wds xs
  | _ => True
theorem preX_of {id : Nat} {xs : List Int} (h : id < 30) : preX id xs := by
  unfold preX
  split <;> first | omega | trivial
def AA : Eng.Ask := { pre := fun id xs => (id < 46 → Wds xs) ∧ preX id xs, post := post, leaf := fun _ _ _ => False, fin := fun _ _ _ => False }
theorem hi {id : Nat} (h : 46 ≤ id) {xs : List Int} : id < 46 → Wds xs := fun k => absurd k (by omega)
theorem get_end {l : List Int} {m : Nat} (hl : l.length = m) (x : Int) (r : List Int) : (l ++ x :: r).getD m 0 = x := by
  rw [List.getD_eq_getElem?_getD, List.getElem?_append_right (by omega), hl, Nat.sub_self]; rfl
theorem wask {A : Eng.Ask} (h1 : A.pre = AA.pre) (h2 : A.post = AA.post) : WAsk A 4 prime := by
  refine ⟨fun id xs hid w => ?_, ?_, ?_, ?_, ?_, ?_, ?_, ?_, ?_, ?_, ?_, ?_, ?_⟩
  · rw [h1]; exact ⟨fun _ => w, preX_of (by omega)⟩
  all_goals (rw [h2]; intro xs ys h; first | exact h | exact absurd h id)
theorem pask {A : Eng.Ask} (h1 : A.pre = AA.pre) (h2 : A.post = AA.post) : PAsk A := ⟨fun _ w => by rw [h1]; exact ⟨fun _ => w, trivial⟩, fun _ _ h => by rw [h2] at h; exact h⟩
theorem mask {A : Eng.Ask} (h1 : A.pre = AA.pre) (h2 : A.post = AA.post) : MAsk A := ⟨fun id xs h3 h4 w => by rw [h1]; exact ⟨fun _ => w, preX_of (by omega)⟩, fun _ _ h => by rw [h2] at h; exact h, fun _ _ h => by rw [h2] at h; exact h⟩
theorem iask {A : Eng.Ask} (h1 : A.pre = AA.pre) (h2 : A.post = AA.post) : IAsk A 4 where
  p20 := fun _ w => by rw [h1]; exact ⟨fun _ => w, trivial⟩
  m20 := fun _ _ h => by rw [h2] at h; exact h
  p45 := fun _ w => by rw [h1]; exact ⟨fun _ => w, trivial⟩
  m45 := fun _ _ h => by rw [h2] at h; exact h
  p50 := fun _ w => by rw [h1]; exact ⟨hi (by decide), w⟩
  m50 := fun _ _ h => by rw [h2] at h; exact h
  p51 := fun z x y lz lx w i => by rw [h1]; exact ⟨hi (by decide), z, x, y, rfl, lz, lx, w, i⟩
  m51 := fun z x y ys lz lx h => by
    rw [h2] at h
    have h : MulP 4 (((z ++ x ++ [y]).drop 4).take 4) ((z ++ x ++ [y]).getD 8 0) ys := h
    rw [get_end (by simp [lz, lx]), List.append_assoc, drop_app lz, take_app lx] at h
    exact h
  p52 := fun x y lx w i => by rw [h1]; exact ⟨hi (by decide), x, y, rfl, lx, w, i⟩
  m52 := fun x y ys lx h => by
    rw [h2] at h
    have h : MulP 4 ((x ++ [y]).take 4) ((x ++ [y]).getD 4 0) ys := h
    rw [get_end lx, take_app lx] at h
    exact h
theorem oask {A : Eng.Ask} (h1 : A.pre = AA.pre) (h2 : A.post = AA.post) : OAsk A 4 31 where
  i := iask h1 h2
  p47 := fun _ w => by rw [h1]; exact ⟨hi (by decide), w⟩
  m47 := fun _ _ h => by rw [h2] at h; exact h
  p48 := fun x M lx w hM hv => by rw [h1]; exact ⟨hi (by decide), x, M, rfl, lx, w, hM, hv⟩
  m48 := fun x M ys lx h => by
    rw [h2] at h
    have h : ApprP 31 ((x ++ [(M : Int)]).take 4) ((x ++ [(M : Int)]).getD 4 0) ys := h
    rw [get_end lx, take_app lx] at h
    exact h
  p53 := fun z x y c d lz lx ly wx wy ic jd => by rw [h1]; exact ⟨hi (by decide), z, x, y, c, d, rfl, lz, lx, ly, wx, wy, ic, jd⟩
  m53 := fun z x y c d ys lz lx ly h => by
    rw [h2] at h
    have h : LinP 4 (((z ++ x ++ y ++ [c, d]).drop 4).take 4) ((z ++ x ++ y ++ [c, d]).getD 12 0) (((z ++ x ++ y ++ [c, d]).drop 8).take 4) ((z ++ x ++ y ++ [c, d]).getD 13 0) ys := h
    have e1 : (z ++ x ++ y ++ [c, d]).getD 13 0 = d := by
      rw [show z ++ x ++ y ++ [c, d] = (z ++ x ++ y ++ [c]) ++ [d] by simp]
      exact get_end (by simp [lz, lx, ly]) d []
    have e2 : ((z ++ x ++ y ++ [c, d]).drop 8).take 4 = y := by
      rw [show z ++ x ++ y ++ [c, d] = (z ++ x) ++ (y ++ [c, d]) by simp, List.drop_left' (by simp [lz, lx]), take_app ly]
    have e3 : ((z ++ x ++ y ++ [c, d]).drop 4).take 4 = x := by
      rw [show z ++ x ++ y ++ [c, d] = z ++ (x ++ (y ++ [c, d])) by simp, drop_app lz, take_app lx]
    rw [get_end (by simp [lz, lx, ly]), e1, e2, e3] at h
    exact h
  p54 := fun y x c d lx ly wx wy ic jd => by rw [h1]; exact ⟨hi (by decide), y, x, c, d, rfl, lx, ly, wx, wy, ic, jd⟩
  m54 := fun y x c d ys lx ly h => by
    rw [h2] at h
    have h : LinP 4 (((y ++ x ++ [c, d]).drop 4).take 4) ((y ++ x ++ [c, d]).getD 8 0) ((y ++ x ++ [c, d]).take 4) ((y ++ x ++ [c, d]).getD 9 0) ys := h
    have e1 : (y ++ x ++ [c, d]).getD 9 0 = d := by
      rw [show y ++ x ++ [c, d] = (y ++ x ++ [c]) ++ [d] by simp]
      exact get_end (by simp [lx, ly]) d []
    have e2 : (y ++ x ++ [c, d]).take 4 = y := by rw [List.append_assoc, take_app ly]
    have e3 : ((y ++ x ++ [c, d]).drop 4).take 4 = x := by rw [List.append_assoc, drop_app ly, take_app lx]
    rw [get_end (by simp [lx, ly]), e1, e2, e3] at h
    exact h
  p67 := fun x i => by rw [h1]; exact ⟨hi (by decide), x, rfl, i⟩
  m67 := fun x ys h => by rw [h2] at h; exact h
theorem qask {A : Eng.Ask} (h1 : A.pre = AA.pre) (h2 : A.post = AA.post) : QAsk A 4 where
  r := ⟨oask h1 h2, fun l X Y wX wY ho => by rw [h1]; exact ⟨hi (by decide), l, X, Y, rfl, wX, wY, ho⟩, fun l X Y ys h => by
    rw [h2] at h
    exact inn_of h⟩
  p56 := fun l c d hl w ic jd => by rw [h1]; exact ⟨hi (by decide), l, c, d, rfl, hl, w, ic, jd⟩
  m56 := fun l ys h => by rw [h2] at h; exact h
  p57 := fun l c d hl w ic jd => by rw [h1]; exact ⟨hi (by decide), l, c, d, rfl, hl, w, ic, jd⟩
  m57 := fun l ys h => by rw [h2] at h; exact h
  p65 := fun _ w => by rw [h1]; exact ⟨hi (by decide), w⟩
  m65 := fun _ _ h => by rw [h2] at h; exact h
theorem lask {A : Eng.Ask} (h1 : A.pre = AA.pre) (h2 : A.post = AA.post) : LAsk A 4 where
  o := oask h1 h2
  p49 := fun x M lx w hM hv => by rw [h1]; exact ⟨hi (by decide), x, M, rfl, lx, w, hM, hv⟩
  m49 := fun x M ys lx h => by
    rw [h2] at h
    have h : ApprP 32 ((x ++ [(M : Int)]).take 4) ((x ++ [(M : Int)]).getD 4 0) ys := h
    rw [get_end lx, take_app lx] at h
    exact h
  p65 := fun _ w => by rw [h1]; exact ⟨hi (by decide), w⟩
  m65 := fun _ _ h => by rw [h2] at h; exact h
  p77 := fun l X Y v wX wY ho hv => by rw [h1]; exact ⟨hi (by decide), l, X, Y, v, rfl, wX, wY, ho, hv⟩
  m77 := fun l X Y v ys h => by
    rw [h2] at h
    exact lgn_of h
theorem sask {A : Eng.Ask} (h1 : A.pre = AA.pre) (h2 : A.post = AA.post) : SAsk A where
  p := fun id xs hid w => by
    rw [h1]
    refine ⟨fun _ => w, preX_of ?_⟩
    rcases hid with rfl | rfl | rfl <;> decide
  m := fun id xs ys hid h => by
    rw [h2] at h
    rcases hid with rfl | rfl | rfl
    · have h : ys = [_] := h
      rw [h]; exact wds_cons (wd_b01 _) wds_nil
    · obtain ⟨a, b, rfl, wa, _⟩ := (h : Madd0 xs ys)
      exact wds_cons wa wds_nil
    · obtain ⟨a, b, rfl, wa, wb, _⟩ := (h : Madd2 xs ys)
      exact wds_cons wa (wds_cons wb wds_nil)
theorem wq : WQ 4 prime := ⟨by
  intro x hx
  simp only [prime, List.mem_cons, List.not_mem_nil, or_false] at hx
  rcases hx with h | h | h | h <;> subst h <;> exact ⟨by decide, by decide⟩, rfl, by decide⟩
theorem qinv : QInv prime qi := ⟨⟨by decide, by decide⟩, by decide⟩
theorem q_pos : 0 < vw prime := by decide
theorem q_odd : vw prime % 2 = 1 := by decide
theorem one_wd : Wds one := by
  intro x hx
  simp only [one, List.mem_cons, List.not_mem_nil, or_false] at hx
  rcases hx with h | h | h | h <;> subst h <;> exact ⟨by decide, by decide⟩
theorem one_lt : vw one < vw prime := by decide
theorem one_is : vw prime ∣ vw one - BW ^ 4 := by decide +kernel
theorem mixed : Try.prog.follows .mixedOrders = true := by kernel_rfl
theorem ext0 : Ext Try.prog (mkExt 42 29 3 50) :=
  ext_of (P := Try.prog) (fa := Try.f42) (fs := Try.f29) (by kernel_rfl) (by kernel_rfl) (by kernel_rfl) (by kernel_rfl) (by kernel_rfl) (by kernel_rfl) (by kernel_rfl) (by kernel_rfl) (by kernel_rfl) (by kernel_rfl) (by kernel_rfl)
theorem k_of {L : List K} (h : ∀ κ ∈ L, KOk Try.prog AA κ) {κ : K} {T : Tree} (hx : mkExt 42 29 3 50 κ.f = 0) (hb : allB κ.m (rngA κ.args ++ rngM κ.mem) = true) (ht : tr L κ = T)
    (hh : ∀ env : List Int, env.length = κ.m → Wds env → preX κ.id env → T.holds (AA.to κ) env) : KOk Try.prog AA κ :=
  kok_of (C := CC L) mixed ext0 (conOf_ok h) (fun _ _ _ _ _ _ h => by cases h) 60 hx fun env hl hr hp => by
    have := hh env hl (wds_of hl hr hb) hp.2
    rw [← ht] at this
    exact this
theorem k_of' {L : List K} (h : ∀ κ ∈ L, KOk Try.prog AA κ) {κ : K} {T : Tree} (hx : mkExt 42 29 3 50 κ.f = 0) (ht : tr L κ = T)
    (hh : ∀ env : List Int, env.length = κ.m → preX κ.id env → T.holds (AA.to κ) env) : KOk Try.prog AA κ :=
  kok_of (C := CC L) mixed ext0 (conOf_ok h) (fun _ _ _ _ _ _ h => by cases h) 60 hx fun env hl hr hp => by
    have := hh env hl hp.2
    rw [← ht] at this
    exact this
theorem less_ok : KOk Try.prog AA kLess := k_of (L := []) (by simp) (by kernel_rfl) (by kernel_rfl) (T := lessR (vr 0 4).reverse (vr 4 4).reverse 8) (by kernel_rfl) fun env hl hw _ => lessF_ok (n := 4) hl hw fun e o ho => fin_of hl (congrArg (fun x => [x]) ho)
theorem small_ok : KOk Try.prog AA kSmall := k_of (L := []) (by simp) (by kernel_rfl) (by kernel_rfl) (T := smallR (vr 0 4).reverse (ls prime).reverse 4) (by kernel_rfl) fun env hl hw _ => smallF_ok wq (by decide) hl hw fun e o ho => fin_of hl (congrArg (fun x => [x]) ho)
theorem mul64_ok : KOk Try.prog AA kMul64 := k_of (L := []) (by simp) (by kernel_rfl) (by kernel_rfl) (T := mulT) (by kernel_rfl) fun env hl hw _ => mulT_ok hl hw fun e os h => fin_of hl h
theorem l20 : ∀ κ ∈ [kMul64], KOk Try.prog AA κ := by
  intro κ h
  simp only [List.mem_cons, List.not_mem_nil, or_false] at h
  rcases h with rfl
  · exact mul64_ok
theorem madd0_ok : KOk Try.prog AA kMadd0 := k_of (L := [kMul64]) l20 (by kernel_rfl) (by kernel_rfl) (T := madd0T) (by kernel_rfl) fun env hl hw _ => madd0T_ok (A := AA.to kMadd0) (fun _ _ h => h) (fun _ h => ⟨fun _ => h, trivial⟩) hl hw fun e os h => fin_of hl h
theorem madd1_ok : KOk Try.prog AA kMadd1 := k_of (L := [kMul64]) l20 (by kernel_rfl) (by kernel_rfl) (T := madd1T) (by kernel_rfl) fun env hl hw _ => madd1T_ok (A := AA.to kMadd1) (fun _ _ h => h) (fun _ h => ⟨fun _ => h, trivial⟩) hl hw fun e os h => fin_of hl h
theorem madd2_ok : KOk Try.prog AA kMadd2 := k_of (L := [kMul64]) l20 (by kernel_rfl) (by kernel_rfl) (T := madd2T) (by kernel_rfl) fun env hl hw _ => madd2T_ok (A := AA.to kMadd2) (fun _ _ h => h) (fun _ h => ⟨fun _ => h, trivial⟩) hl hw fun e os h => fin_of hl h
theorem lMul : ∀ κ ∈ [kMul64, kSmall], KOk Try.prog AA κ := by
  intro κ h
  simp only [List.mem_cons, List.not_mem_nil, or_false] at h
  rcases h with rfl | rfl
  · exact mul64_ok
  · exact small_ok
theorem mulE_ok : KOk Try.prog AA kMulE := k_of (L := [kMul64, kSmall]) lMul (by kernel_rfl) (by kernel_rfl) (T := mulA prime qi (vr 4 4) (vr 8 4) 12 fun os _ => .fin (enc os) st0) (by kernel_rfl) fun env hl hw hp => by
  have hl' : env.length = 12 := hl
  have h1 : (vr 4 4).map (·.val env) = (env.drop 4).take 4 := vr_vals (by omega)
  have h2 : (vr 8 4).map (·.val env) = env.drop 8 := by rw [vr_vals (by omega), List.take_of_length_le (by simp; omega)]
  refine mulA_ok (wask (A := AA.to kMulE) rfl rfl) (pask (A := AA.to kMulE) rfl rfl) wq qinv (by decide) vr_length vr_length hl'.symm (vr_bd (by decide)) (vr_bd (by decide)) (by rw [h1]; exact (hw.drop _).take _) (by rw [h2]; exact hw.drop _) (by rw [h2]; exact hp) fun e os ne' h => fin_of hl ?_
  have := h.val
  rw [h1, h2] at this
  exact this
theorem mulZ_ok : KOk Try.prog AA kMulZ := k_of (L := [kMul64, kSmall]) lMul (by kernel_rfl) (by kernel_rfl) (T := mulA prime qi (vr 0 4) (vr 4 4) 8 fun os _ => .fin (enc os) st0) (by kernel_rfl) fun env hl hw hp => by
  have hl' : env.length = 8 := hl
  have h1 : (vr 0 4).map (·.val env) = env.take 4 := by rw [vr_vals (by omega), List.drop_zero]
  have h2 : (vr 4 4).map (·.val env) = env.drop 4 := by rw [vr_vals (by omega), List.take_of_length_le (by simp; omega)]
  refine mulA_ok (wask (A := AA.to kMulZ) rfl rfl) (pask (A := AA.to kMulZ) rfl rfl) wq qinv (by decide) vr_length vr_length hl'.symm (vr_bd (by decide)) (vr_bd (by decide)) (by rw [h1]; exact hw.take _) (by rw [h2]; exact hw.drop _) (by rw [h2]; exact hp) fun e os ne' h => fin_of hl ?_
  have := h.val
  rw [h1, h2] at this
  exact this
theorem sqZ_ok : KOk Try.prog AA kSqZ := k_of' (L := [kMul64, kSmall]) lMul (by kernel_rfl) (T := mulA prime qi (vr 0 4) (vr 0 4) 4 fun os _ => .fin (enc os) st0) (by kernel_rfl) fun env hl hp => by
  have hl' : env.length = 4 := hl
  obtain ⟨hw, hb⟩ := hp
  have h1 : (vr 0 4).map (·.val env) = env := one_vr hl'
  refine mulA_ok (wask (A := AA.to kSqZ) rfl rfl) (pask (A := AA.to kSqZ) rfl rfl) wq qinv (by decide) vr_length vr_length hl'.symm (vr_bd (by decide)) (vr_bd (by decide)) (by rw [h1]; exact hw) (by rw [h1]; exact hw) (by rw [h1]; exact hb) fun e os ne' h => fin_of hl ?_
  have := h.val
  rw [h1] at this
  exact this

/-! ### how many digits a word has -/
theorem bl_spec : ∀ (f x : Nat), x < 2 ^ f → x < 2 ^ Lib.bitLenAux f x ∧ (x ≠ 0 → 2 ^ (Lib.bitLenAux f x - 1) ≤ x) ∧ Lib.bitLenAux f x ≤ f ∧ (x = 0 → Lib.bitLenAux f x = 0)
  | 0, x, h => by
    have : x = 0 := by omega
    subst this
    simp [Lib.bitLenAux]
  | f + 1, x, h => by
    unfold Lib.bitLenAux
    by_cases h0 : x = 0
    · subst h0; simp
    · rw [if_neg h0]
      obtain ⟨h1, h2, h3, h4⟩ := bl_spec f (x / 2) (by rw [Nat.pow_succ] at h; omega)
      generalize Lib.bitLenAux f (x / 2) = k at *
      refine ⟨?_, fun _ => ?_, by omega, fun h => absurd h h0⟩
      · rw [Nat.add_comm, Nat.pow_succ]; omega
      · rw [Nat.add_sub_cancel_left]
        by_cases hx : x / 2 = 0
        · have := h4 hx
          subst this
          simp
          omega
        · have := h2 hx
          have hk : 1 ≤ k := by
            rcases Nat.eq_zero_or_pos k with h | h
            · subst h; simp at h1; omega
            · exact h
          have : 2 ^ k = 2 * 2 ^ (k - 1) := by rw [Nat.mul_comm, ← Nat.pow_succ]; congr 1; omega
          omega
theorem len8_size : (Lib.len8tab.size : Int) = 256 := by
  have : Lib.len8tab.size = 256 := by decide
  omega
theorem len8_add (k a b : Nat) (hk : k ≤ 56) (ha : a ≤ 8) (hb : b = k + a) : RowKit.wrap64 ((k : Int) + RowKit.wrap64 (a : Int)) = (b : Int) := by
  unfold RowKit.wrap64
  omega
theorem len8_two (a : Nat) (ha : a ≤ 8) : RowKit.wrap64 (RowKit.wrap64 (a : Int)) = (a : Int) := by
  unfold RowKit.wrap64
  omega
theorem len8_one (a : Nat) (ha : a ≤ 8) : RowKit.wrap64 (a : Int) = (a : Int) := by
  unfold RowKit.wrap64
  omega
theorem len8_get (y : Int) (h : y.toNat < Lib.len8tab.size) : ((Lib.len8tab[y.toNat]'h).toNat : Int) = Lib.len8 y := by
  unfold Lib.len8
  rw [getElem?_pos Lib.len8tab y.toNat h]
  rfl
set_option maxHeartbeats 32000000 in
set_option maxRecDepth 1000000 in
theorem len_call (x : Int) (w : World) (h0 : 0 ≤ x) (h1 : x ≤ 18446744073709551615) :
    Calls Try.prog 44 #[.int .u64 x] w fun e w' => e = .returned (.int .i64 (Lib.bitLen x.toNat)) ∧ w' = w := by
  go_enter Try.func44, Try.ntmps44
  go_wp2
  all_goals first
    | (go_ret; refine ⟨congrArg Ending.returned (congrArg (Value.int IntKind.i64) ?_), rfl⟩; go_light)
    | (exfalso
       go_light
       have hs := len8_size
       omega)
  all_goals first
    | (rw [len8_get (x / 4294967296 / 65536 / 256) _, Lib.len8_of (x / 4294967296 / 65536 / 256) (by omega) (by omega)]
       have e : (x / 4294967296 / 65536 / 256).toNat = x.toNat / 72057594037927936 := by omega
       have l := Lib.bitLen_le8' (x / 4294967296 / 65536 / 256) (by omega) (by omega)
       have s := Lib.bitLen_shift56 x.toNat (by omega) (by omega)
       rw [e] at l ⊢
       exact len8_add 56 _ _ (by decide) l s)
    | (rw [len8_get (x / 4294967296 / 65536) _, Lib.len8_of (x / 4294967296 / 65536) (by omega) (by omega)]
       have e : (x / 4294967296 / 65536).toNat = x.toNat / 281474976710656 := by omega
       have l := Lib.bitLen_le8' (x / 4294967296 / 65536) (by omega) (by omega)
       have s := Lib.bitLen_shift48 x.toNat (by omega) (by omega)
       rw [e] at l ⊢
       exact len8_add 48 _ _ (by decide) l s)
    | (rw [len8_get (x / 4294967296 / 256) _, Lib.len8_of (x / 4294967296 / 256) (by omega) (by omega)]
       have e : (x / 4294967296 / 256).toNat = x.toNat / 1099511627776 := by omega
       have l := Lib.bitLen_le8' (x / 4294967296 / 256) (by omega) (by omega)
       have s := Lib.bitLen_shift40 x.toNat (by omega) (by omega)
       rw [e] at l ⊢
       exact len8_add 40 _ _ (by decide) l s)
    | (rw [len8_get (x / 4294967296) _, Lib.len8_of (x / 4294967296) (by omega) (by omega)]
       have e : (x / 4294967296).toNat = x.toNat / 4294967296 := by omega
       have l := Lib.bitLen_le8' (x / 4294967296) (by omega) (by omega)
       have s := Lib.bitLen_shift32 x.toNat (by omega) (by omega)
       rw [e] at l ⊢
       exact len8_add 32 _ _ (by decide) l s)
    | (rw [len8_get (x / 65536 / 256) _, Lib.len8_of (x / 65536 / 256) (by omega) (by omega)]
       have e : (x / 65536 / 256).toNat = x.toNat / 16777216 := by omega
       have l := Lib.bitLen_le8' (x / 65536 / 256) (by omega) (by omega)
       have s := Lib.bitLen_shift24 x.toNat (by omega) (by omega)
       rw [e] at l ⊢
       exact len8_add 24 _ _ (by decide) l s)
    | (rw [len8_get (x / 65536) _, Lib.len8_of (x / 65536) (by omega) (by omega)]
       have e : (x / 65536).toNat = x.toNat / 65536 := by omega
       have l := Lib.bitLen_le8' (x / 65536) (by omega) (by omega)
       have s := Lib.bitLen_shift16 x.toNat (by omega) (by omega)
       rw [e] at l ⊢
       exact len8_add 16 _ _ (by decide) l s)
    | (rw [len8_get (x / 256) _, Lib.len8_of (x / 256) (by omega) (by omega)]
       have e : (x / 256).toNat = x.toNat / 256 := by omega
       have l := Lib.bitLen_le8' (x / 256) (by omega) (by omega)
       have s := Lib.bitLen_shift8 x.toNat (by omega) (by omega)
       rw [e] at l ⊢
       exact len8_add 8 _ _ (by decide) l s)
    | (rw [len8_get x _, Lib.len8_of x (by omega) (by omega)]
       have l := Lib.bitLen_le8' x (by omega) (by omega)
       first | exact len8_two _ l | exact len8_add 0 _ _ (by decide) l (by omega) | exact len8_one _ l)
theorem len_ok : KOk Try.prog AA kLen := by
  intro env β vs w hl hM ha hp
  have hl' : env.length = 1 := hl
  obtain ⟨x, rfl⟩ : ∃ x, env = [x] := by
    match env, hl' with
    | [x], _ => exact ⟨x, rfl⟩
  have ha : All2 (SV.is [x] β) [w1 0] vs := ha
  obtain ⟨v, rfl, y, hy, _, rfl⟩ := all2_one ha
  have hy : x = y := by simpa [SI.is] using hy
  subst hy
  have hw : Wd x := hp.2 x (List.mem_cons_self ..)
  refine (len_call x w hw.1 (by have := hw.2; omega)).mono fun e w' ⟨he, hw'⟩ => ?_
  subst he
  subst hw'
  obtain ⟨k, rfl, hk⟩ := nat_of hw
  obtain ⟨s1, s2, s3, s4⟩ := bl_spec 64 k hk
  unfold Lib.bitLen
  rw [Int.toNat_natCast]
  generalize Lib.bitLenAux 64 k = j at *
  have hfit : fits .i64 (j : Int) := (fits_iff _ _).2 ⟨by simp only [kMin]; omega, by simp only [kMax]; omega⟩
  refine ⟨[(j : Int)], β, _, rfl, ⟨j, rfl, by omega, ?_, ?_, ?_⟩, rfl, ⟨[], by simp⟩, ⟨j, rfl, hfit, rfl⟩, hM.more _, fun i x hi hx => ?_⟩
  · rw [vw_one]; exact_mod_cast s1
  · rw [vw_one]; intro h; exact_mod_cast s2 (by intro h0; apply h; exact_mod_cast h0)
  · rw [vw_one]; intro h; exact s4 (by exact_mod_cast h)
  · have := hM.nb
    rw [List.getElem?_eq_none (by rw [this]; exact hi)] at hx
    cases hx
theorem l46 : ∀ κ ∈ [kLen], KOk Try.prog AA κ := by
  intro κ h
  simp only [List.mem_cons, List.not_mem_nil, or_false] at h
  rcases h with rfl
  · exact len_ok
theorem bits_ok : KOk Try.prog AA kBits := k_of' (L := [kLen]) l46 (by kernel_rfl) (T := bitsR (vr 0 4).reverse 4) (by kernel_rfl) fun env hl hp => by
  have hl' : env.length = 4 := hl
  have hv : ((vr 0 4).reverse).map (·.val env) = env.reverse := by rw [List.map_reverse, one_vr hl']
  refine bitsR_ok (A := AA.to kBits) (fun x w => ⟨hi (by decide), wds_cons w wds_nil⟩) (fun x ys h => h) _ _ env (by decide) (by decide) hl'.symm (fun x hx => vr_bd (i := 0) (n := 4) (by decide) x (List.mem_reverse.1 hx)) (by rw [hv]; exact wds_rev hp) fun e o ho => fin_of hl ?_
  rw [hv, List.reverse_reverse, List.length_reverse, vr_length] at ho
  exact ho
theorem appr_ok : KOk Try.prog AA kAppr := k_of' (L := []) (by simp) (by kernel_rfl) (T := apprT 31 (vr 0 4) (.var 4) 5) (by kernel_rfl) fun env hl hp => by
  obtain ⟨x, M, rfl, lx, wx, hM, hv⟩ := hp
  have hl' : (x ++ [(M : Int)]).length = 5 := hl
  have v1 : (vr 0 4).map (·.val (x ++ [(M : Int)])) = x := by rw [vr_vals (by omega), List.drop_zero, take_app lx]
  refine apprT_ok (A := AA.to kAppr) (by decide) (by decide) (n := 4) (by decide) (by decide) hl'.symm vr_length (vr_bd (by decide)) (show 4 < 5 by decide) v1 wx (get_end lx _ _) hM hv fun e o ho => fin_of hl ?_
  show ApprP 31 ((x ++ [(M : Int)]).take 4) ((x ++ [(M : Int)]).getD 4 0) _
  rw [get_end lx, take_app lx]
  exact ho
theorem neg_ok : KOk Try.prog AA kNeg := k_of' (L := []) (by simp) (by kernel_rfl) (T := nglT 4) (by kernel_rfl) fun env hl hp => nglT_ok (A := AA.to kNeg) hl hp fun e os h => fin_of hl h
theorem lW : ∀ κ ∈ [kMul64, kMadd1, kNeg], KOk Try.prog AA κ := by
  intro κ h
  simp only [List.mem_cons, List.not_mem_nil, or_false] at h
  rcases h with rfl | rfl | rfl
  · exact mul64_ok
  · exact madd1_ok
  · exact neg_ok
theorem mulW_ok : KOk Try.prog AA kMulW := k_of' (L := [kMul64, kMadd1, kNeg]) lW (by kernel_rfl) (T := mulWT 4 (vr 4 4) (.var 8) 9) (by kernel_rfl) fun env hl hp => by
  obtain ⟨z, x, y, rfl, lz, lx, wx, iy⟩ := hp
  have hl' : (z ++ x ++ [y]).length = 9 := hl
  have vx : (vr 4 4).map (·.val (z ++ x ++ [y])) = x := by rw [vr_vals (by omega), List.append_assoc, drop_app lz, take_app lx]
  have vy : (SI.var 8).val (z ++ x ++ [y]) = y := get_end (by simp [lz, lx]) _ _
  refine mulWT_ok (iask (A := AA.to kMulW) rfl rfl) (by decide) vr_length hl'.symm (vr_bd (by decide)) (show 8 < 9 by decide) vx wx (by rw [vy]; exact iy) fun e os h => fin_of hl ?_
  rw [vy] at h
  show MulP 4 (((z ++ x ++ [y]).drop 4).take 4) ((z ++ x ++ [y]).getD 8 0) _
  have e1 : ((z ++ x ++ [y]).drop 4).take 4 = x := by rw [List.append_assoc, drop_app lz, take_app lx]
  rw [get_end (by simp [lz, lx]), e1]
  exact h
theorem mulWz_ok : KOk Try.prog AA kMulWz := k_of' (L := [kMul64, kMadd1, kNeg]) lW (by kernel_rfl) (T := mulWT 4 (vr 0 4) (.var 4) 5) (by kernel_rfl) fun env hl hp => by
  obtain ⟨x, y, rfl, lx, wx, iy⟩ := hp
  have hl' : (x ++ [y]).length = 5 := hl
  have vx : (vr 0 4).map (·.val (x ++ [y])) = x := by rw [vr_vals (by omega), List.drop_zero, take_app lx]
  have vy : (SI.var 4).val (x ++ [y]) = y := get_end lx _ _
  refine mulWT_ok (iask (A := AA.to kMulWz) rfl rfl) (by decide) vr_length hl'.symm (vr_bd (by decide)) (show 4 < 5 by decide) vx wx (by rw [vy]; exact iy) fun e os h => fin_of hl ?_
  rw [vy] at h
  show MulP 4 ((x ++ [y]).take 4) ((x ++ [y]).getD 4 0) _
  rw [get_end lx, take_app lx]
  exact h
theorem lL : ∀ κ ∈ [kMulW, kMulWz], KOk Try.prog AA κ := by
  intro κ h
  simp only [List.mem_cons, List.not_mem_nil, or_false] at h
  rcases h with rfl | rfl
  · exact mulW_ok
  · exact mulWz_ok
theorem linD_ok : KOk Try.prog AA kLinD := k_of' (L := [kMulW, kMulWz]) lL (by kernel_rfl) (T := linT 4 51 (vr 0 4) (vr 4 4) (vr 8 4) (.var 12) (.var 13) 14) (by kernel_rfl) fun env hl hp => by
  obtain ⟨z, x, y, c, d, rfl, lz, lx, ly, wx, wy, ic, jd⟩ := hp
  have hl' : (z ++ x ++ y ++ [c, d]).length = 14 := hl
  have e1 : (z ++ x ++ y ++ [c, d]).getD 13 0 = d := by
    rw [show z ++ x ++ y ++ [c, d] = (z ++ x ++ y ++ [c]) ++ [d] by simp]
    exact get_end (by simp [lz, lx, ly]) d []
  have e2 : ((z ++ x ++ y ++ [c, d]).drop 8).take 4 = y := by
    rw [show z ++ x ++ y ++ [c, d] = (z ++ x) ++ (y ++ [c, d]) by simp, List.drop_left' (by simp [lz, lx]), take_app ly]
  have e3 : ((z ++ x ++ y ++ [c, d]).drop 4).take 4 = x := by
    rw [show z ++ x ++ y ++ [c, d] = z ++ (x ++ (y ++ [c, d])) by simp, drop_app lz, take_app lx]
  have e0 : (z ++ x ++ y ++ [c, d]).getD 12 0 = c := get_end (by simp [lz, lx, ly]) _ _
  have v0 : (SI.var 12).val (z ++ x ++ y ++ [c, d]) = c := e0
  have v1 : (SI.var 13).val (z ++ x ++ y ++ [c, d]) = d := e1
  refine linT_ok (iask (A := AA.to kLinD) rfl rfl) (.inl ⟨rfl, vr_length⟩) vr_length vr_length hl'.symm (vr_bd (by decide)) (show 12 < 14 by decide) (by rw [vr_vals (by omega), e3]) (by rw [vr_vals (by omega), e2]) wx wy (by rw [v0]; exact ic) (by rw [v1]; exact jd) fun e os h => fin_of hl ?_
  rw [v0, v1] at h
  show LinP 4 (((z ++ x ++ y ++ [c, d]).drop 4).take 4) ((z ++ x ++ y ++ [c, d]).getD 12 0) (((z ++ x ++ y ++ [c, d]).drop 8).take 4) ((z ++ x ++ y ++ [c, d]).getD 13 0) _
  rw [e0, e1, e2, e3]
  exact h
theorem ends2 {y x : List Int} {c d : Int} (lx : x.length = 4) (ly : y.length = 4) : (y ++ x ++ [c, d]).getD 9 0 = d ∧ (y ++ x ++ [c, d]).take 4 = y ∧ ((y ++ x ++ [c, d]).drop 4).take 4 = x ∧ (y ++ x ++ [c, d]).getD 8 0 = c := by
  refine ⟨?_, ?_, ?_, get_end (by simp [lx, ly]) _ _⟩
  · rw [show y ++ x ++ [c, d] = (y ++ x ++ [c]) ++ [d] by simp]
    exact get_end (by simp [lx, ly]) d []
  · rw [List.append_assoc, take_app ly]
  · rw [List.append_assoc, drop_app ly, take_app lx]
theorem linY_ok : KOk Try.prog AA kLinY := k_of' (L := [kMulW, kMulWz]) lL (by kernel_rfl) (T := linT 4 51 (vr 0 4) (vr 4 4) (vr 0 4) (.var 8) (.var 9) 10) (by kernel_rfl) fun env hl hp => by
  obtain ⟨y, x, c, d, rfl, lx, ly, wx, wy, ic, jd⟩ := hp
  have hl' : (y ++ x ++ [c, d]).length = 10 := hl
  obtain ⟨e1, e2, e3, e0⟩ := ends2 (c := c) (d := d) lx ly
  have v0 : (SI.var 8).val (y ++ x ++ [c, d]) = c := e0
  have v1 : (SI.var 9).val (y ++ x ++ [c, d]) = d := e1
  refine linT_ok (iask (A := AA.to kLinY) rfl rfl) (.inl ⟨rfl, vr_length⟩) vr_length vr_length hl'.symm (vr_bd (by decide)) (show 8 < 10 by decide) (by rw [vr_vals (by omega), e3]) (by rw [vr_vals (by omega), List.drop_zero, e2]) wx wy (by rw [v0]; exact ic) (by rw [v1]; exact jd) fun e os h => fin_of hl ?_
  rw [v0, v1] at h
  show LinP 4 (((y ++ x ++ [c, d]).drop 4).take 4) ((y ++ x ++ [c, d]).getD 8 0) ((y ++ x ++ [c, d]).take 4) ((y ++ x ++ [c, d]).getD 9 0) _
  rw [e0, e1, e2, e3]
  exact h
theorem linX_ok : KOk Try.prog AA kLinX := k_of' (L := [kMulW, kMulWz]) lL (by kernel_rfl) (T := linT 4 52 (vr 0 4) (vr 0 4) (vr 4 4) (.var 8) (.var 9) 10) (by kernel_rfl) fun env hl hp => by
  obtain ⟨x, y, c, d, rfl, lx, ly, wx, wy, ic, jd⟩ := hp
  have hl' : (x ++ y ++ [c, d]).length = 10 := hl
  obtain ⟨e1, e2, e3, e0⟩ := ends2 (c := c) (d := d) ly lx
  have v0 : (SI.var 8).val (x ++ y ++ [c, d]) = c := e0
  have v1 : (SI.var 9).val (x ++ y ++ [c, d]) = d := e1
  refine linT_ok (iask (A := AA.to kLinX) rfl rfl) (.inr ⟨rfl, rfl⟩) vr_length vr_length hl'.symm (vr_bd (by decide)) (show 8 < 10 by decide) (by rw [vr_vals (by omega), List.drop_zero, e2]) (by rw [vr_vals (by omega), e3]) wx wy (by rw [v0]; exact ic) (by rw [v1]; exact jd) fun e os h => fin_of hl ?_
  rw [v0, v1] at h
  show LinP 4 ((x ++ y ++ [c, d]).take 4) ((x ++ y ++ [c, d]).getD 8 0) (((x ++ y ++ [c, d]).drop 4).take 4) ((x ++ y ++ [c, d]).getD 9 0) _
  rw [e0, e1, e2, e3]
  exact h

/-! ### the combination with Montgomery's reduction: only sizes -/
def combB (id : Nat) (exp : List SI) : Tree → Bool
  | .hav i xs m t => Nat.beq i id && (listBeq SI.beq xs exp && (Nat.beq m 5 && softB 10 4 t))
  | _ => false
theorem combB_ok {A : Eng.Ask} (h1 : A.pre = AA.pre) (h2 : A.post = AA.post) {id : Nat} {exp : List SI} {t : Tree} (h : combB id exp t = true) {env : List Int} (hl : env.length = 10) (hp : A.pre id (exp.map (·.val env))) (hm : ∀ ys, A.post id (exp.map (·.val env)) ys → Wds ys)
    (hk : ∀ (e : List Int) (os : List SI), os.length = 4 → Wds (os.map (·.val (env ++ e))) → A.fin (enc os) st0 (env ++ e)) : t.holds A env := by
  cases t with
  | hav i xs m t =>
    simp only [combB, Bool.and_eq_true] at h
    obtain ⟨g1, g2, g3, g4⟩ := h
    have g1 := Nat.eq_of_beq_eq_true g1
    have g2 := listBeq_eq (fun _ _ => SI.beq_eq) g2
    subst g1
    subst g2
    refine ⟨hp, fun ys hy hpost => ?_⟩
    refine soft_ok (sask h1 h2) t (env ++ ys) (by simp; omega) (by rw [List.drop_left' hl]; exact hm ys hpost) g4 fun e os lo wo => ?_
    have := hk (ys ++ e) os lo (by rw [← List.append_assoc]; exact wo)
    rw [← List.append_assoc] at this
    exact this
  | _ => simp [combB] at h
theorem lC : ∀ κ ∈ [kLinX, kLinY, kMadd0, kMadd2, kSmall], KOk Try.prog AA κ := by
  intro κ h
  simp only [List.mem_cons, List.not_mem_nil, or_false] at h
  rcases h with rfl | rfl | rfl | rfl | rfl
  · exact linX_ok
  · exact linY_ok
  · exact madd0_ok
  · exact madd2_ok
  · exact small_ok
theorem comb_env {l : List Int} {c d : Int} (hl : l.length = 2 * 4) : (vr 0 4 ++ vr 4 4 ++ [SI.var 8, .var 9]).map (·.val (l ++ [c, d])) = l.take 4 ++ l.drop 4 ++ [c, d] := by
  have hlen : (l ++ [c, d]).length = 10 := by simp [hl]
  have v0 : (SI.var 8).val (l ++ [c, d]) = c := get_end hl _ _
  have v1 : (SI.var 9).val (l ++ [c, d]) = d := by
    show (l ++ [c, d]).getD 9 0 = d
    rw [show l ++ [c, d] = (l ++ [c]) ++ [d] by simp]
    exact get_end (by simp [hl]) d []
  rw [List.map_append, List.map_append, List.map_cons, List.map_cons, List.map_nil, v0, v1, vr_vals (by omega), vr_vals (by omega), List.drop_zero]
  rw [List.take_append_of_le_length (by omega), List.drop_append_of_le_length (by omega), List.take_append_of_le_length (by simp; omega)]
  congr 2
  exact List.take_of_length_le (by simp; omega)
theorem combX_ok : KOk Try.prog AA kCombX := kok_of (C := CC [kLinX, kLinY, kMadd0, kMadd2, kSmall]) mixed ext0 (conOf_ok lC) (fun _ _ _ _ _ _ h => by cases h) 60 (by kernel_rfl) fun env hl _ hp => by
  obtain ⟨l, c, d, rfl, h2, wl, ic, jd⟩ := hp.2
  have ht : combB 55 (vr 0 4 ++ vr 4 4 ++ [SI.var 8, .var 9]) (tr [kLinX, kLinY, kMadd0, kMadd2, kSmall] kCombX) = true := by kernel_rfl
  refine combB_ok (A := AA.to kCombX) rfl rfl ht hl ?_ ?_ fun e os lo wo => fin_of hl ⟨by simpa using lo, wo⟩
  · rw [comb_env h2]; exact ⟨hi (by decide), _, _, _, _, rfl, by simp [h2], by simp [h2], wl.take _, wl.drop _, ic, jd⟩
  · intro ys h
    exact h.2.1
theorem combY_ok : KOk Try.prog AA kCombY := kok_of (C := CC [kLinX, kLinY, kMadd0, kMadd2, kSmall]) mixed ext0 (conOf_ok lC) (fun _ _ _ _ _ _ h => by cases h) 60 (by kernel_rfl) fun env hl _ hp => by
  obtain ⟨l, c, d, rfl, h2, wl, ic, jd⟩ := hp.2
  have ht : combB 54 (vr 0 4 ++ vr 4 4 ++ [SI.var 8, .var 9]) (tr [kLinX, kLinY, kMadd0, kMadd2, kSmall] kCombY) = true := by kernel_rfl
  refine combB_ok (A := AA.to kCombY) rfl rfl ht hl ?_ ?_ fun e os lo wo => fin_of hl ⟨by simpa using lo, wo⟩
  · rw [comb_env h2]; exact ⟨hi (by decide), _, _, _, _, rfl, by simp [h2], by simp [h2], wl.drop _, wl.take _, ic, jd⟩
  · intro ys h
    exact h.2.1
theorem zero_ok : KOk Try.prog AA kZero := k_of' (L := []) (by simp) (by kernel_rfl) (T := zeT (vr 0 4).reverse 4) (by kernel_rfl) fun env hl hp => by
  have hl' : env.length = 4 := hl
  have hv : ((vr 0 4).reverse).map (·.val env) = env.reverse := by rw [List.map_reverse, one_vr hl']
  refine zeT_ok (A := AA.to kZero) (by decide) hl'.symm (fun x hx => vr_bd (i := 0) (n := 4) (by decide) x (List.mem_reverse.1 hx)) (by rw [hv]; exact wds_rev hp) fun e o ho => fin_of hl ?_
  rw [hv, List.reverse_reverse] at ho
  exact congrArg (fun x => [x]) ho
theorem one_ok : KOk Try.prog AA kOne := k_of' (L := []) (by simp) (by kernel_rfl) (T := onT (vr 0 4).reverse one.reverse 4) (by kernel_rfl) fun env hl hp => by
  have hl' : env.length = 4 := hl
  have hv : ((vr 0 4).reverse).map (·.val env) = env.reverse := by rw [List.map_reverse, one_vr hl']
  refine onT_ok (A := AA.to kOne) (by decide) (by decide) hl'.symm (fun x hx => vr_bd (i := 0) (n := 4) (by decide) x (List.mem_reverse.1 hx)) (by rw [hv]; exact wds_rev hp) (wds_rev one_wd) fun e o ho => fin_of hl ?_
  rw [hv] at ho
  refine (congrArg (fun x => [x]) ho).trans ?_
  show [b01 (decide (env.reverse = one.reverse))] = [b01 (decide (env = one))]
  congr 2
  rw [decide_eq_decide]
  exact List.reverse_inj
theorem dec_ok : KOk Try.prog AA kDec := k_of' (L := []) (by simp) (by kernel_rfl) (T := decT) (by kernel_rfl) fun env hl hp => by
  obtain ⟨x, rfl, hx⟩ := hp
  exact decT_ok (A := AA.to kDec) hx fun e os h => fin_of hl h
end Go.Proofs.Ytmnenhkjdhbjmaa
