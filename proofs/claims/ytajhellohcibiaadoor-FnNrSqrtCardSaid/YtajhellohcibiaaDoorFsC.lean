/-
  The contracts of the functions that the law on roots reaches. No conditions.
-/
import Derived.Test.YtajhellohcibiaaDoorFsR
import Derived.Test.YtajhellohcibiaaDoorSA
namespace Go.Proofs.YtajhellohcibiaaDoor
open Go Eng Go.RowKit
set_option maxRecDepth 100000
def prime : List Int := [4891460686036598785, 2896914383306846353, 13281191951274694749, 3486998266802970665]
def one : List Int := [12436184717236109307, 3962172157175319849, 7381016538464732718, 1011752739694698287]
def qi : Int := 14042775128853446655
noncomputable def CP (L : List K) (Ps : List ((Nat × Nat) × PC)) : Cfg := ⟨Tryd.prog, mkExt 30 32 3 39, conOf L, pcOf Ps⟩
noncomputable def CC (L : List K) : Cfg := CP L []
noncomputable def tr (L : List K) (κ : K) : Tree := xcall (CC L) (fun f => xcode (CC L) 60 f 0) κ.f κ.args κ.st κ.end
def r2 : List (List SC × Bool) := [(us 0 4, false), (us 4 4, false)]
def r3 : List (List SC × Bool) := [(us 0 4, false), (us 4 4, false), (us 8 4, false)]
def w1 (x : Nat) : SV := .ww (.cc (u x))
def i1 (x : Nat) : SV := .ww (.cc (.ii .i64 (.var x)))
def kLess : K := { f := 4, args := [sl 0 4, sl 1 4], mem := r2, m := 8, id := 0, mout := 1, ret := bo 8, mem1 := r2 }
def kSmall : K := { f := 31, args := [pt 0], mem := [(us 0 4, false)], m := 4, id := 7, mout := 1, ret := bo 4, mem1 := [(us 0 4, false)] }
def kMul64 : K := { f := 29, args := [w1 0, w1 1], mem := [], m := 2, id := 20, mout := 2, ret := .tt [.cc (u 2), .cc (u 3)], mem1 := [] }
def kMulE : K := { f := 25, args := [pt 0, pt 1, pt 2], mem := [(us 0 4, true), (us 4 4, false), (us 8 4, false)], m := 12, id := 30, mout := 4, ret := pt 0, mem1 := [(us 12 4, true), (us 4 4, false), (us 8 4, false)] }
def kMulZ : K := { f := 25, args := [pt 0, pt 0, pt 1], mem := [(us 0 4, true), (us 4 4, false)], m := 8, id := 35, mout := 4, ret := pt 0, mem1 := [(us 8 4, true), (us 4 4, false)] }
def kSqZ : K := { f := 24, args := [pt 0, pt 0], mem := [(us 0 4, true)], m := 4, id := 58, mout := 4, ret := pt 0, mem1 := [(us 4 4, true)] }
def kSqE : K := { f := 24, args := [pt 0, pt 1], mem := [(us 0 4, true), (us 4 4, false)], m := 8, id := 32, mout := 4, ret := pt 0, mem1 := [(us 8 4, true), (us 4 4, false)] }
def kShf : K := { f := 11, args := [sl 0 4, sl 1 4], mem := r2, m := 8, id := 62, mout := 4, ret := sl 2 4, mem1 := r2 ++ [(us 8 4, true)] }
def kPrd : K := { f := 10, args := [sl 0 4, sl 1 4, sl 2 4], mem := r3, m := 12, id := 63, mout := 4, ret := sl 3 4, mem1 := r3 ++ [(us 12 4, true)] }
def kZeW : K := { f := 15, args := [sl 0 4], mem := [(us 0 4, false)], m := 4, id := 64, mout := 1, ret := bo 4, mem1 := [(us 0 4, false)] }
def kAddW : K := { f := 18, args := [sl 0 4, sl 1 4, sl 2 4], mem := r3, m := 12, id := 11, mout := 4, ret := sl 3 4, mem1 := r3 ++ [(us 12 4, true)] }
def kSame : K := { f := 9, args := [sl 0 4, sl 1 4], mem := r2, m := 8, id := 1, mout := 1, ret := bo 8, mem1 := r2 }
def kPlus : K := { f := 17, args := [sl 0 4, sl 1 4], mem := r2, m := 8, id := 4, mout := 5, ret := .tt [.cc (.ss 2 0 4 4), .cc (.bb (.var 12))], mem1 := r2 ++ [(us 8 4, true)] }
def kLessen : K := { f := 20, args := [sl 0 4, sl 1 4], mem := r2, m := 8, id := 5, mout := 5, ret := .tt [.cc (.ss 2 0 4 4), .cc (.bb (.var 12))], mem1 := r2 ++ [(us 8 4, true)] }
def kReg : K := { f := 8, args := [sl 0 4, sl 1 4], mem := r2, m := 8, id := 28, mout := 4, ret := sl 2 4, mem1 := r2 ++ [(us 8 4, true)] }
def kMulY : K := { f := 25, args := [pt 0, pt 1, pt 0], mem := [(us 0 4, true), (us 4 4, false)], m := 8, id := 36, mout := 4, ret := pt 0, mem1 := [(us 8 4, true), (us 4 4, false)] }
def kExp : K := { f := 23, args := [pt 0, ar 4 4], mem := [(us 0 4, true)], m := 8, id := 81, mout := 4, ret := pt 0, mem1 := [(us 8 4, true)] }
def primeL : List SC := (ls prime).map fun e => .ii .u64 e
def halfq : List Int := [11669102379873075200, 10671829228508198984, 15863968012492123182, 1743499133401485332]
def halfL : List SC := (ls halfq).map fun e => .ii .u64 e
/-- A power of a number, below the prime. -/
def PowR (x : Int) (k : Nat) (c : List Int) : Prop := c.length = 4 ∧ Wds c ∧ vw c = x ^ k % vw prime ∧ vw c < vw prime
/-- The character. -/
def chi (x : Int) : Int := if x ^ 10944121435919637611123202872628637544274182200208017171849102093287904247808 % vw prime = 0 then 0 else if x ^ 10944121435919637611123202872628637544274182200208017171849102093287904247808 % vw prime = 1 then 1 else -1
/-- The root, and whether there is one: there is one just where the character isn't -1; its square is the number. -/
def RootP (xs ys : List Int) : Prop := ∃ (r : List Int) (ok : Bool), ys = r ++ [b01 ok] ∧ r.length = 4 ∧ Wds r ∧ (∀ x : Int, 0 ≤ x → x < vw prime → vw prime ∣ x * BW ^ 4 - vw xs → (ok = true ↔ 0 ≤ chi x)) ∧ (ok = true → vw r < vw prime ∧ vw prime ∣ vw r * vw r - vw xs * BW ^ 4)
def post (id : Nat) (xs ys : List Int) : Prop := match id with
  | 0 => ys = [b01 (decide (vw (xs.take 4) < vw (xs.drop 4)))]
  | 1 => ys = [b01 (decide (xs.take 4 = xs.drop 4))]
  | 4 => Plus (xs.take 4) (xs.drop 4) ys
  | 5 => Lessen (xs.take 4) (xs.drop 4) ys
  | 7 => ys = [b01 (decide (vw xs < vw prime))]
  | 11 => SumMod (xs.take 4) ((xs.drop 4).take 4) (xs.drop 8) ys
  | 13 => ys = [1]
  | 20 => Mul64 xs ys
  | 28 => RegI (xs.drop 4) (xs.take 4) (64 * 4) ys
  | 30 => MulM 4 prime ((xs.drop 4).take 4) (xs.drop 8) ys
  | 32 => MulM 4 prime (xs.drop 4) (xs.drop 4) ys
  | 35 => MulM 4 prime (xs.take 4) (xs.drop 4) ys
  | 36 => MulM 4 prime (xs.drop 4) (xs.take 4) ys
  | 58 => MulM 4 prime xs xs ys
  | 62 => ShfP 4 (xs.take 4) (xs.drop 4) ys
  | 63 => PrdP 4 (xs.take 4) ((xs.drop 4).take 4) (xs.drop 8) ys
  | 64 => ys = [b01 (decide (vw xs = 0))]
  | 65 => ys = [b01 (decide (vw xs = 0))]
  | 66 => ys = [b01 (decide (xs = one))]
  | 74 => ShfP 4 (xs.take 4) (xs.drop 4) ys
  | 75 => PrdP 4 (xs.take 4) ((xs.drop 4).take 4) ((xs.drop 8).take 4) ys
  | 81 => PowM 4 prime (xs.drop 4) 40770029410420498293352137776570907027550720424234931066070132305055 ys
  | 82 => RootP xs ys
  | 83 => PowR (vw (xs.take 4)) 10944121435919637611123202872628637544274182200208017171849102093287904247808 ys
  | 84 => PowR (vw xs) 10944121435919637611123202872628637544274182200208017171849102093287904247808 ys
  | 85 => ys = [chi (vw xs)]
  | 86 => ys = []
  | 88 => NegM 4 prime xs ys
  | _ => False
def preX (id : Nat) (xs : List Int) : Prop := match id with
  | 30 => vw (xs.drop 8) < vw prime
  | 32 => vw (xs.drop 4) < vw prime
  | 35 => vw (xs.drop 4) < vw prime
  | 36 => vw (xs.take 4) < vw prime
  | 58 => Wds xs ∧ vw xs < vw prime
  | 62 => Wds xs ∧ vw (xs.take 4) < vw (xs.drop 4)
  | 63 => Wds xs ∧ vw (xs.take 4) < vw (xs.drop 8)
  | 64 => Wds xs
  | 65 => Wds xs
  | 66 => Wds xs
  | 74 => Wds xs ∧ vw (xs.take 4) < vw (xs.drop 4)
  | 75 => Wds xs ∧ vw (xs.take 4) < vw ((xs.drop 8).take 4) ∧ vw (xs.drop 12) = 0
  | 81 => Wds xs ∧ vw (xs.drop 4) < vw prime
  | 82 => Wds xs ∧ vw xs < vw prime
  | 83 => Wds xs ∧ vw (xs.take 4) < vw prime ∧ vw (xs.drop 4) = 1
  | 84 => Wds xs ∧ vw xs < vw prime
  | 85 => Wds xs ∧ vw xs < vw prime
  | 88 => Wds xs ∧ vw xs < vw prime
  | _ => True
theorem preX_of {id : Nat} {xs : List Int} (h : id < 30) : preX id xs := by
  unfold preX
  split <;> first | omega | trivial
theorem hi {id : Nat} (h : 46 ≤ id) {xs : List Int} : id < 46 → Wds xs := fun k => absurd k (by omega)
def AA : Eng.Ask := { pre := fun id xs => (id < 46 → Wds xs) ∧ preX id xs, post := post, leaf := fun _ _ _ => False, fin := fun _ _ _ => False }
theorem wask {A : Eng.Ask} (h1 : A.pre = AA.pre) (h2 : A.post = AA.post) : WAsk A 4 prime := by
  refine ⟨fun id xs hid w => ?_, ?_, ?_, ?_, ?_, ?_, ?_, ?_, ?_, ?_, ?_, ?_, ?_⟩
  · rw [h1]; exact ⟨fun _ => w, preX_of (by omega)⟩
  all_goals (rw [h2]; intro xs ys h; first | exact h | exact absurd h id)
theorem pask {A : Eng.Ask} (h1 : A.pre = AA.pre) (h2 : A.post = AA.post) : PAsk A := ⟨fun _ w => by rw [h1]; exact ⟨fun _ => w, trivial⟩, fun _ _ h => by rw [h2] at h; exact h⟩
theorem app_drop2 {z x y : List Int} (lz : z.length = 4) (lx : x.length = 4) : (z ++ x ++ y).drop 8 = y := List.drop_left' (by simp; omega)
theorem app_mid {z x y : List Int} (lz : z.length = 4) (lx : x.length = 4) : ((z ++ x ++ y).drop 4).take 4 = x := by rw [List.append_assoc, drop_app lz, take_app lx]
theorem eask {A : Eng.Ask} (h1 : A.pre = AA.pre) (h2 : A.post = AA.post) : EAsk A 4 prime where
  p30 := fun z x y lz lx _ wz wx wy b => by rw [h1]; exact ⟨fun _ => (wz.append wx).append wy, by show vw ((z ++ x ++ y).drop 8) < _; rw [app_drop2 lz lx]; exact b⟩
  m30 := fun z x y ys lz lx _ h => by
    rw [h2] at h
    have h : MulM 4 prime (((z ++ x ++ y).drop 4).take 4) ((z ++ x ++ y).drop 8) ys := h
    rwa [app_mid lz lx, app_drop2 lz lx] at h
  p32 := fun z x lz _ wz wx b => by rw [h1]; exact ⟨fun _ => wz.append wx, by show vw ((z ++ x).drop 4) < _; rw [drop_app lz]; exact b⟩
  m32 := fun z x ys lz _ h => by
    rw [h2] at h
    have h : MulM 4 prime ((z ++ x).drop 4) ((z ++ x).drop 4) ys := h
    rwa [drop_app lz] at h
  p35 := fun x y lx _ wx wy b => by rw [h1]; exact ⟨fun _ => wx.append wy, by show vw ((x ++ y).drop 4) < _; rw [drop_app lx]; exact b⟩
  m35 := fun x y ys lx _ h => by
    rw [h2] at h
    have h : MulM 4 prime ((x ++ y).take 4) ((x ++ y).drop 4) ys := h
    rwa [drop_app lx, take_app lx] at h
  p36 := fun y x ly _ wy wx b => by rw [h1]; exact ⟨fun _ => wy.append wx, by show vw ((y ++ x).take 4) < _; rw [take_app ly]; exact b⟩
  m36 := fun y x ys ly _ h => by
    rw [h2] at h
    have h : MulM 4 prime ((y ++ x).drop 4) ((y ++ x).take 4) ys := h
    rwa [drop_app ly, take_app ly] at h
  p58 := fun x _ wx b => by rw [h1]; exact ⟨fun _ => wx, wx, b⟩
  m58 := fun x ys _ h => by rw [h2] at h; exact h
theorem wq : WQ 4 prime := ⟨by
  intro x hx
  simp only [prime, List.mem_cons, List.not_mem_nil, or_false] at hx
  rcases hx with h | h | h | h <;> subst h <;> exact ⟨by decide, by decide⟩, rfl, by decide⟩
theorem qinv : QInv prime qi := ⟨⟨by decide, by decide⟩, by decide⟩
theorem q_pos : 0 < vw prime := by decide
theorem q_odd : vw prime % 2 = 1 := by decide
theorem one_wd : Wds one := by
  intro x hx
  simp only [one, List.mem_cons, List.not_mem_nil, or_false] at hx
  rcases hx with h | h | h | h <;> subst h <;> exact ⟨by decide, by decide⟩
theorem one_lt : vw one < vw prime := by decide
theorem one_is : vw prime ∣ vw one - BW ^ 4 := by decide +kernel
theorem one_ne : one ≠ List.replicate 4 0 := by decide

theorem mixed : Tryd.prog.follows .mixedOrders = true := by kernel_rfl
theorem ext0 : Ext Tryd.prog (mkExt 30 32 3 39) :=
  ext_of (P := Tryd.prog) (fa := Tryd.f30) (fs := Tryd.f32) (by kernel_rfl) (by kernel_rfl) (by kernel_rfl) (by kernel_rfl) (by kernel_rfl) (by kernel_rfl) (by kernel_rfl) (by kernel_rfl) (by kernel_rfl) (by kernel_rfl) (by kernel_rfl)
theorem k_of {L : List K} (h : ∀ κ ∈ L, KOk Tryd.prog AA κ) {κ : K} {T : Tree} (hx : mkExt 30 32 3 39 κ.f = 0) (hb : allB κ.m (rngA κ.args ++ rngM κ.mem) = true) (ht : tr L κ = T)
    (hh : ∀ env : List Int, env.length = κ.m → Wds env → preX κ.id env → T.holds (AA.to κ) env) : KOk Tryd.prog AA κ :=
  kok_of (C := CC L) mixed ext0 (conOf_ok h) (fun _ _ _ _ _ _ h => by cases h) 60 hx fun env hl hr hp => by
    have := hh env hl (wds_of hl hr hb) hp.2
    rw [← ht] at this
    exact this
theorem k_of' {L : List K} (h : ∀ κ ∈ L, KOk Tryd.prog AA κ) {κ : K} {T : Tree} (hx : mkExt 30 32 3 39 κ.f = 0) (ht : tr L κ = T)
    (hh : ∀ env : List Int, env.length = κ.m → preX κ.id env → T.holds (AA.to κ) env) : KOk Tryd.prog AA κ :=
  kok_of (C := CC L) mixed ext0 (conOf_ok h) (fun _ _ _ _ _ _ h => by cases h) 60 hx fun env hl hr hp => by
    have := hh env hl hp.2
    rw [← ht] at this
    exact this
theorem less_ok : KOk Tryd.prog AA kLess := k_of (L := []) (by simp) (by kernel_rfl) (by kernel_rfl) (T := lessR (vr 0 4).reverse (vr 4 4).reverse 8) (by kernel_rfl) fun env hl hw _ => lessF_ok (n := 4) hl hw fun e o ho => fin_of hl (congrArg (fun x => [x]) ho)
theorem small_ok : KOk Tryd.prog AA kSmall := k_of (L := []) (by simp) (by kernel_rfl) (by kernel_rfl) (T := smallR (vr 0 4).reverse (ls prime).reverse 4) (by kernel_rfl) fun env hl hw _ => smallF_ok wq (by decide) hl hw fun e o ho => fin_of hl (congrArg (fun x => [x]) ho)
theorem mul64_ok : KOk Tryd.prog AA kMul64 := k_of (L := []) (by simp) (by kernel_rfl) (by kernel_rfl) (T := mulT) (by kernel_rfl) fun env hl hw _ => mulT_ok hl hw fun e os h => fin_of hl h
theorem lMul : ∀ κ ∈ [kMul64, kSmall], KOk Tryd.prog AA κ := by
  intro κ h
  simp only [List.mem_cons, List.not_mem_nil, or_false] at h
  rcases h with rfl | rfl
  · exact mul64_ok
  · exact small_ok
theorem mulE_ok : KOk Tryd.prog AA kMulE := k_of (L := [kMul64, kSmall]) lMul (by kernel_rfl) (by kernel_rfl) (T := mulA prime qi (vr 4 4) (vr 8 4) 12 fun os _ => .fin (enc os) st0) (by kernel_rfl) fun env hl hw hp => by
  have hl' : env.length = 12 := hl
  have h1 : (vr 4 4).map (·.val env) = (env.drop 4).take 4 := vr_vals (by omega)
  have h2 : (vr 8 4).map (·.val env) = env.drop 8 := by rw [vr_vals (by omega), List.take_of_length_le (by simp; omega)]
  refine mulA_ok (wask (A := AA.to kMulE) rfl rfl) (pask (A := AA.to kMulE) rfl rfl) wq qinv (by decide) vr_length vr_length hl'.symm (vr_bd (by decide)) (vr_bd (by decide)) (by rw [h1]; exact (hw.drop _).take _) (by rw [h2]; exact hw.drop _) (by rw [h2]; exact hp) fun e os ne' h => fin_of hl ?_
  have := h.val
  rw [h1, h2] at this
  exact this
theorem mulZ_ok : KOk Tryd.prog AA kMulZ := k_of (L := [kMul64, kSmall]) lMul (by kernel_rfl) (by kernel_rfl) (T := mulA prime qi (vr 0 4) (vr 4 4) 8 fun os _ => .fin (enc os) st0) (by kernel_rfl) fun env hl hw hp => by
  have hl' : env.length = 8 := hl
  have h1 : (vr 0 4).map (·.val env) = env.take 4 := by rw [vr_vals (by omega), List.drop_zero]
  have h2 : (vr 4 4).map (·.val env) = env.drop 4 := by rw [vr_vals (by omega), List.take_of_length_le (by simp; omega)]
  refine mulA_ok (wask (A := AA.to kMulZ) rfl rfl) (pask (A := AA.to kMulZ) rfl rfl) wq qinv (by decide) vr_length vr_length hl'.symm (vr_bd (by decide)) (vr_bd (by decide)) (by rw [h1]; exact hw.take _) (by rw [h2]; exact hw.drop _) (by rw [h2]; exact hp) fun e os ne' h => fin_of hl ?_
  have := h.val
  rw [h1, h2] at this
  exact this
theorem sqZ_ok : KOk Tryd.prog AA kSqZ := k_of' (L := [kMul64, kSmall]) lMul (by kernel_rfl) (T := mulA prime qi (vr 0 4) (vr 0 4) 4 fun os _ => .fin (enc os) st0) (by kernel_rfl) fun env hl hp => by
  have hl' : env.length = 4 := hl
  obtain ⟨hw, hb⟩ := hp
  have h1 : (vr 0 4).map (·.val env) = env := one_vr hl'
  refine mulA_ok (wask (A := AA.to kSqZ) rfl rfl) (pask (A := AA.to kSqZ) rfl rfl) wq qinv (by decide) vr_length vr_length hl'.symm (vr_bd (by decide)) (vr_bd (by decide)) (by rw [h1]; exact hw) (by rw [h1]; exact hw) (by rw [h1]; exact hb) fun e os ne' h => fin_of hl ?_
  have := h.val
  rw [h1] at this
  exact this

theorem sqE_ok : KOk Tryd.prog AA kSqE := k_of (L := [kMul64, kSmall]) lMul (by kernel_rfl) (by kernel_rfl) (T := mulA prime qi (vr 4 4) (vr 4 4) 8 fun os _ => .fin (enc os) st0) (by kernel_rfl) fun env hl hw hp => by
  have hl' : env.length = 8 := hl
  have h2 : (vr 4 4).map (·.val env) = env.drop 4 := by rw [vr_vals (by omega), List.take_of_length_le (by simp; omega)]
  refine mulA_ok (wask (A := AA.to kSqE) rfl rfl) (pask (A := AA.to kSqE) rfl rfl) wq qinv (by decide) vr_length vr_length hl'.symm (vr_bd (by decide)) (vr_bd (by decide)) (by rw [h2]; exact hw.drop _) (by rw [h2]; exact hw.drop _) (by rw [h2]; exact hp) fun e os ne' h => fin_of hl ?_
  have := h.val
  rw [h2] at this
  exact this
theorem mulY_ok : KOk Tryd.prog AA kMulY := k_of (L := [kMul64, kSmall]) lMul (by kernel_rfl) (by kernel_rfl) (T := mulA prime qi (vr 4 4) (vr 0 4) 8 fun os _ => .fin (enc os) st0) (by kernel_rfl) fun env hl hw hp => by
  have hl' : env.length = 8 := hl
  have h1 : (vr 0 4).map (·.val env) = env.take 4 := by rw [vr_vals (by omega), List.drop_zero]
  have h2 : (vr 4 4).map (·.val env) = env.drop 4 := by rw [vr_vals (by omega), List.take_of_length_le (by simp; omega)]
  refine mulA_ok (wask (A := AA.to kMulY) rfl rfl) (pask (A := AA.to kMulY) rfl rfl) wq qinv (by decide) vr_length vr_length hl'.symm (vr_bd (by decide)) (vr_bd (by decide)) (by rw [h2]; exact hw.drop _) (by rw [h1]; exact hw.take _) (by rw [h1]; exact hp) fun e os ne' h => fin_of hl ?_
  have := h.val
  rw [h1, h2] at this
  exact this
/-- A contract under another asking. -/
theorem kok_conv {P : Program} {A B : Eng.Ask} {κ : K} (h : KOk P A κ) (h1 : ∀ xs, B.pre κ.id xs → A.pre κ.id xs) (h2 : ∀ xs ys, A.post κ.id xs ys → B.post κ.id xs ys) : KOk P B κ := by
  intro env β vs w hl hM ha hp
  refine (h env β vs w hl hM ha (h1 _ hp)).mono ?_
  rintro e w' ⟨ys, β', v, a1, a2, a3⟩
  exact ⟨ys, β', v, a1, h2 _ _ a2, a3⟩
theorem reg_ok : KOk Tryd.prog AA kReg := kok_conv R.reg_ok (fun _ h => h.1 (by decide)) (fun _ _ h => h)
theorem plus_ok : KOk Tryd.prog AA kPlus := kok_conv R.plus_ok (fun _ h => h.1 (by decide)) (fun _ _ h => h)
theorem lExp : ∀ κ ∈ [kMulE, kMulZ, kMulY, kSqE, kSqZ], KOk Tryd.prog AA κ := by
  intro κ h
  simp only [List.mem_cons, List.not_mem_nil, or_false] at h
  rcases h with rfl | rfl | rfl | rfl | rfl
  · exact mulE_ok
  · exact mulZ_ok
  · exact mulY_ok
  · exact sqE_ok
  · exact sqZ_ok
noncomputable def trE : Tree := xcall (CC [kMulE, kMulZ, kMulY, kSqE, kSqZ]) (fun f => xcode (CC [kMulE, kMulZ, kMulY, kSqE, kSqZ]) 1500 f 0) kExp.f kExp.args kExp.st kExp.end
theorem exp_ok : KOk Tryd.prog AA kExp := kok_of (C := CC [kMulE, kMulZ, kMulY, kSqE, kSqZ]) mixed ext0 (conOf_ok lExp) (fun _ _ _ _ _ _ h => by cases h) 1500 (by kernel_rfl) fun env hl _ hp => by
  have hp := hp.2
  have hl' : env.length = 8 := hl
  have ht : pw 4 40770029410420498293352137776570907027550720424234931066070132305055 trE 8 [(4, 1), (0, 0)] = true := by kernel_rfl
  refine pw_ok (eask (A := AA.to kExp) rfl rfl) (env0 := env) (X := env.drop 4) (fun e os h => fin_of hl h) _ _ _ env ⟨[], by simp⟩ hl'.symm ?_ ht
  intro i e hi
  have h2 : (vr 4 4).map (·.val env) = env.drop 4 := by rw [vr_vals (by omega), List.take_of_length_le (by simp; omega)]
  have h1 : (vr 0 4).map (·.val env) = env.take 4 := by rw [vr_vals (by omega), List.drop_zero]
  by_cases hN : 4 = i
  · subst hN
    rw [lk_cons_same] at hi
    cases hi
    rw [h2]
    exact ⟨by omega, hp.1.drop _, fun _ => pow_self (by simp; omega) (hp.1.drop _) hp.2⟩
  · rw [lk_cons_ne _ _ hN] at hi
    by_cases h0 : 0 = i
    · subst h0
      rw [lk_cons_same] at hi
      cases hi
      rw [h1]
      exact ⟨by omega, hp.1.take _, fun h => absurd rfl h⟩
    · rw [lk_cons_ne _ _ h0] at hi
      cases hi
end Go.Proofs.YtajhellohcibiaaDoor
