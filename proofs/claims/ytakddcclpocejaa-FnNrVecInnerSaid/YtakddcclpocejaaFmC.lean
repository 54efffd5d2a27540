/-
  The contracts of the products of two and of the square: each is shown from the tree of facts that the walk by reckoning gives. No conditions.
-/
import Derived.Test.YtakddcclpocejaaEngC
import Derived.Test.YtakddcclpocejaaEngB
import Derived.Test.YtakddcclpocejaaProg
namespace Go.Proofs.Ytakddcclpocejaa
open Go Eng Go.RowKit
set_option maxRecDepth 100000
def prime : List Int := [4891460686036598785, 2896914383306846353, 13281191951274694749, 3486998266802970665]
def one : List Int := [12436184717236109307, 3962172157175319849, 7381016538464732718, 1011752739694698287]
def qi : Int := 14042775128853446655
def rsq : List Int := [1997599621687373223, 6052339484930628067, 10108755138030829701, 150537098327114917]
noncomputable def CC (L : List K) : Cfg := ⟨Try.prog, mkExt 32 34 3 40, conOf L, fun _ _ _ => none⟩
noncomputable def tr (L : List K) (κ : K) : Tree := xcall (CC L) (fun f => xcode (CC L) 60 f 0) κ.f κ.args κ.st κ.end
def r2 : List (List SC × Bool) := [(us 0 4, false), (us 4 4, false)]
def w1 (x : Nat) : SV := .ww (.cc (u x))
def kLess : K := { f := 8, args := [sl 0 4, sl 1 4], mem := r2, m := 8, id := 0, mout := 1, ret := bo 8, mem1 := r2 }
def kSmall : K := { f := 33, args := [pt 0], mem := [(us 0 4, false)], m := 4, id := 7, mout := 1, ret := bo 4, mem1 := [(us 0 4, false)] }
def kMul64 : K := { f := 31, args := [w1 0, w1 1], mem := [], m := 2, id := 20, mout := 2, ret := .tt [.cc (u 2), .cc (u 3)], mem1 := [] }
def kMulE : K := { f := 20, args := [pt 0, pt 1, pt 2], mem := [(us 0 4, true), (us 4 4, false), (us 8 4, false)], m := 12, id := 30, mout := 4, ret := pt 0, mem1 := [(us 12 4, true), (us 4 4, false), (us 8 4, false)] }
def kMulA : K := { f := 10, args := [ar 0 4, ar 4 4], mem := [], m := 8, id := 31, mout := 4, ret := ar 8 4, mem1 := [] }
def kSqE : K := { f := 30, args := [pt 0, pt 1], mem := [(us 0 4, true), (us 4 4, false)], m := 8, id := 32, mout := 4, ret := pt 0, mem1 := [(us 8 4, true), (us 4 4, false)] }
def kSqA : K := { f := 19, args := [ar 0 4], mem := [], m := 4, id := 33, mout := 4, ret := ar 4 4, mem1 := [] }

def post (id : Nat) (xs ys : List Int) : Prop := match id with
  | 0 => ys = [b01 (decide (vw (xs.take 4) < vw (xs.drop 4)))]
  | 7 => ys = [b01 (decide (vw xs < vw prime))]
  | 13 => ys = [1]
  | 20 => Mul64 xs ys
  | 30 => MulM 4 prime ((xs.drop 4).take 4) (xs.drop 8) ys
  | 31 => MulM 4 prime (xs.take 4) (xs.drop 4) ys
  | 32 => MulM 4 prime (xs.drop 4) (xs.drop 4) ys
  | 33 => MulM 4 prime xs xs ys
  | 34 => NegM 4 prime xs ys
  | 35 => MulM 4 prime (xs.take 4) (xs.drop 4) ys
  | 36 => MulM 4 prime (w0 4 (xs.headD 0)) rsq ys
  | 37 => ∃ s, MulM 4 prime (w0 4 (ab (xs.headD 0))) rsq s ∧ (if xs.headD 0 < 0 then NegM 4 prime s ys else ys = s)
  | 39 => ys = [1]
  | 68 => ys = []
  | 40 => SumMod (xs.take 4) (xs.drop 4) prime ys
  | 41 => SumMod (xs.take 4) (xs.drop 4) prime ys
  | _ => False
def preX (id : Nat) (xs : List Int) : Prop := match id with
  | 30 => vw (xs.drop 8) < vw prime
  | 31 => vw (xs.drop 4) < vw prime
  | 32 => vw (xs.drop 4) < vw prime
  | 33 => vw xs < vw prime
  | 34 => vw xs < vw prime
  | 35 => vw (xs.drop 4) < vw prime
  | 37 => ∃ x, xs = [x] ∧ I63 x
  | 39 => ∃ x, xs = [x] ∧ -9223372036854775808 ≤ x ∧ x < 9223372036854775808
  | _ => True
theorem preX_of {id : Nat} {xs : List Int} (h : id < 30) : preX id xs := by
  unfold preX
  split <;> first | omega | trivial
def AA : Eng.Ask := { pre := fun id xs => (id < 37 → Wds xs) ∧ preX id xs, post := post, leaf := fun _ _ _ => False, fin := fun _ _ _ => False }
theorem wask (κ : K) : WAsk (AA.to κ) 4 prime := ⟨fun id _ h w => ⟨fun _ => w, preX_of (by omega)⟩, fun _ _ h => h, fun _ _ h => absurd h id, fun _ _ h => absurd h id, fun _ _ h => absurd h id, fun _ _ h => absurd h id, fun _ _ h => h, fun _ _ h => absurd h id, fun _ _ h => absurd h id, fun _ _ h => absurd h id, fun _ _ h => absurd h id, fun _ _ h => absurd h id, fun _ _ h => absurd h id⟩
theorem pask (κ : K) : PAsk (AA.to κ) := ⟨fun _ w => ⟨fun _ => w, trivial⟩, fun _ _ h => h⟩
theorem xask (κ : K) : XAsk (AA.to κ) 4 prime := ⟨fun _ w h => ⟨fun _ => w, h⟩, fun _ _ h => h, fun _ w h => ⟨fun _ => w, h⟩, fun _ _ h => h, fun _ w h => ⟨fun _ => w, h⟩, fun _ _ h => h, fun _ w h => ⟨fun _ => w, h⟩, fun _ _ h => h⟩
theorem zask (κ : K) : ZAsk (AA.to κ) 4 prime rsq := ⟨fun _ w h => ⟨fun _ => w, h⟩, fun _ _ h => h, fun _ w h => ⟨fun _ => w, h⟩, fun _ _ h => h, fun _ w => ⟨fun _ => wds_cons w wds_nil, trivial⟩, fun _ _ h => h, fun x h => ⟨fun k => absurd k (by decide), x, rfl, h⟩, fun _ _ h => h⟩
theorem wq : WQ 4 prime := ⟨by
  intro x hx
  simp only [prime, List.mem_cons, List.not_mem_nil, or_false] at hx
  rcases hx with h | h | h | h <;> subst h <;> exact ⟨by decide, by decide⟩, rfl, by decide⟩
theorem qinv : QInv prime qi := ⟨⟨by decide, by decide⟩, by decide⟩
theorem q_pos : 0 < vw prime := by decide
theorem q_odd : vw prime % 2 = 1 := by decide
theorem one_wd : Wds one := by
  intro x hx
  simp only [one, List.mem_cons, List.not_mem_nil, or_false] at hx
  rcases hx with h | h | h | h <;> subst h <;> exact ⟨by decide, by decide⟩
theorem one_lt : vw one < vw prime := by decide
theorem one_is : vw prime ∣ vw one - BW ^ 4 := by decide +kernel
theorem one_ne : one ≠ List.replicate 4 0 := by decide

theorem mixed : Try.prog.follows .mixedOrders = true := by kernel_rfl
theorem ext0 : Ext Try.prog (mkExt 32 34 3 40) :=
  ext_of (P := Try.prog) (fa := Try.f32) (fs := Try.f34) (by kernel_rfl) (by kernel_rfl) (by kernel_rfl) (by kernel_rfl) (by kernel_rfl) (by kernel_rfl) (by kernel_rfl) (by kernel_rfl) (by kernel_rfl) (by kernel_rfl) (by kernel_rfl)
theorem k_of {L : List K} (h : ∀ κ ∈ L, KOk Try.prog AA κ) {κ : K} {T : Tree} (hx : mkExt 32 34 3 40 κ.f = 0) (hb : allB κ.m (rngA κ.args ++ rngM κ.mem) = true) (ht : tr L κ = T)
    (hh : ∀ env : List Int, env.length = κ.m → Wds env → preX κ.id env → T.holds (AA.to κ) env) : KOk Try.prog AA κ :=
  kok_of (C := CC L) mixed ext0 (conOf_ok h) (fun _ _ _ _ _ _ h => by cases h) 60 hx fun env hl hr hp => by
    have := hh env hl (wds_of hl hr hb) hp.2
    rw [← ht] at this
    exact this
theorem k_of' {L : List K} (h : ∀ κ ∈ L, KOk Try.prog AA κ) {κ : K} {T : Tree} (hx : mkExt 32 34 3 40 κ.f = 0) (ht : tr L κ = T)
    (hh : ∀ env : List Int, env.length = κ.m → preX κ.id env → T.holds (AA.to κ) env) : KOk Try.prog AA κ :=
  kok_of (C := CC L) mixed ext0 (conOf_ok h) (fun _ _ _ _ _ _ h => by cases h) 60 hx fun env hl hr hp => by
    have := hh env hl hp.2
    rw [← ht] at this
    exact this
theorem less_ok : KOk Try.prog AA kLess := k_of (L := []) (by simp) (by kernel_rfl) (by kernel_rfl) (T := lessR (vr 0 4).reverse (vr 4 4).reverse 8) (by kernel_rfl) fun env hl hw _ => lessF_ok (n := 4) hl hw fun e o ho => fin_of hl (congrArg (fun x => [x]) ho)
theorem small_ok : KOk Try.prog AA kSmall := k_of (L := []) (by simp) (by kernel_rfl) (by kernel_rfl) (T := smallR (vr 0 4).reverse (ls prime).reverse 4) (by kernel_rfl) fun env hl hw _ => smallF_ok wq (by decide) hl hw fun e o ho => fin_of hl (congrArg (fun x => [x]) ho)
theorem mul64_ok : KOk Try.prog AA kMul64 := k_of (L := []) (by simp) (by kernel_rfl) (by kernel_rfl) (T := mulT) (by kernel_rfl) fun env hl hw _ => mulT_ok hl hw fun e os h => fin_of hl h
theorem lMul : ∀ κ ∈ [kMul64, kSmall], KOk Try.prog AA κ := by
  intro κ h
  simp only [List.mem_cons, List.not_mem_nil, or_false] at h
  rcases h with rfl | rfl
  · exact mul64_ok
  · exact small_ok
theorem mulE_ok : KOk Try.prog AA kMulE := k_of (L := [kMul64, kSmall]) lMul (by kernel_rfl) (by kernel_rfl) (T := mulA prime qi (vr 4 4) (vr 8 4) 12 fun os _ => .fin (enc os) st0) (by kernel_rfl) fun env hl hw hp => by
  have hl' : env.length = 12 := hl
  have h1 : (vr 4 4).map (·.val env) = (env.drop 4).take 4 := vr_vals (by omega)
  have h2 : (vr 8 4).map (·.val env) = env.drop 8 := by rw [vr_vals (by omega), List.take_of_length_le (by simp; omega)]
  refine mulA_ok (wask kMulE) (pask kMulE) wq qinv (by decide) vr_length vr_length hl'.symm (vr_bd (by decide)) (vr_bd (by decide)) (by rw [h1]; exact (hw.drop _).take _) (by rw [h2]; exact hw.drop _) (by rw [h2]; exact hp) fun e os ne' h => fin_of hl ?_
  have := h.val
  rw [h1, h2] at this
  exact this
theorem sqE_ok : KOk Try.prog AA kSqE := k_of (L := [kMul64, kSmall]) lMul (by kernel_rfl) (by kernel_rfl) (T := mulA prime qi (vr 4 4) (vr 4 4) 8 fun os _ => .fin (enc os) st0) (by kernel_rfl) fun env hl hw hp => by
  have hl' : env.length = 8 := hl
  have h2 : (vr 4 4).map (·.val env) = env.drop 4 := by rw [vr_vals (by omega), List.take_of_length_le (by simp; omega)]
  refine mulA_ok (wask kSqE) (pask kSqE) wq qinv (by decide) vr_length vr_length hl'.symm (vr_bd (by decide)) (vr_bd (by decide)) (by rw [h2]; exact hw.drop _) (by rw [h2]; exact hw.drop _) (by rw [h2]; exact hp) fun e os ne' h => fin_of hl ?_
  have := h.val
  rw [h2] at this
  exact this
theorem lE : ∀ κ ∈ [kMulE, kSqE], KOk Try.prog AA κ := by
  intro κ h
  simp only [List.mem_cons, List.not_mem_nil, or_false] at h
  rcases h with rfl | rfl
  · exact mulE_ok
  · exact sqE_ok
theorem mulA_ok' : KOk Try.prog AA kMulA := k_of (L := [kMulE, kSqE]) lE (by kernel_rfl) (by kernel_rfl) (T := .both (mulW 4) (mulW 4)) (by kernel_rfl) fun env hl hw hp => by
  have : (mulW 4).holds (AA.to kMulA) env := mulW_ok (xask kMulA) hl hw hp fun e os h => fin_of hl h
  exact ⟨this, this⟩
theorem sqA_ok : KOk Try.prog AA kSqA := k_of (L := [kMulE, kSqE]) lE (by kernel_rfl) (by kernel_rfl) (T := sqW 4) (by kernel_rfl) fun env hl hw hp => sqW_ok (xask kSqA) hl hw hp fun e os h => fin_of hl h
theorem lA : ∀ κ ∈ [kLess, kMulA, kSqA], KOk Try.prog AA κ := by
  intro κ h
  simp only [List.mem_cons, List.not_mem_nil, or_false] at h
  rcases h with rfl | rfl | rfl
  · exact less_ok
  · exact mulA_ok'
  · exact sqA_ok
end Go.Proofs.Ytakddcclpocejaa
