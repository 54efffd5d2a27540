/-
  The contracts of the functions that the laws without products reach: each is shown from the tree of facts that the walk by reckoning gives. No conditions.
-/
import Derived.Test.YtjjmlliiclfpeaaWV
import Derived.Test.YtjjmlliiclfpeaaWE
import Derived.Test.YtjjmlliiclfpeaaWR
import Derived.Test.YtjjmlliiclfpeaaEng22
import Derived.Test.YtjjmlliiclfpeaaProg
namespace Go.Proofs.Ytjjmlliiclfpeaa
open Go Eng Go.RowKit
set_option maxRecDepth 100000
def prime : List Int := [13402431016077863595, 2210141511517208575, 7435674573564081700, 7239337960414712511, 5412103778470702295, 1873798617647539866]
noncomputable def CC (L : List K) : Cfg := ⟨Try.prog, mkExt 37 36 3 48, conOf L, fun _ _ _ => none⟩
noncomputable def tr (L : List K) (κ : K) : Tree := xcall (CC L) (fun f => xcode (CC L) 60 f 0) κ.f κ.args κ.st κ.end
def r2 : List (List SC × Bool) := [(us 0 6, false), (us 6 6, false)]
def r3 : List (List SC × Bool) := [(us 0 6, false), (us 6 6, false), (us 12 6, false)]
def kLess : K := { f := 9, args := [sl 0 6, sl 1 6], mem := r2, m := 12, id := 0, mout := 1, ret := bo 12, mem1 := r2 }
def kSame : K := { f := 14, args := [sl 0 6, sl 1 6], mem := r2, m := 12, id := 1, mout := 1, ret := bo 12, mem1 := r2 }
def kEq : K := { f := 11, args := [ar 0 6, ar 6 6], mem := [], m := 12, id := 2, mout := 1, ret := bo 12, mem1 := [] }
def kNe : K := { f := 12, args := [ar 0 6, ar 6 6], mem := [], m := 12, id := 3, mout := 1, ret := .ww (.cc (u 12)), mem1 := [] }
def kPlus : K := { f := 29, args := [sl 0 6, sl 1 6], mem := r2, m := 12, id := 4, mout := 7, ret := .tt [.cc (.ss 2 0 6 6), .cc (.bb (.var 18))], mem1 := r2 ++ [(us 12 6, true)] }
def kLessen : K := { f := 28, args := [sl 0 6, sl 1 6], mem := r2, m := 12, id := 5, mout := 7, ret := .tt [.cc (.ss 2 0 6 6), .cc (.bb (.var 18))], mem1 := r2 ++ [(us 12 6, true)] }
def kSub : K := { f := 13, args := [ar 0 6, ar 6 6], mem := [], m := 12, id := 6, mout := 6, ret := ar 12 6, mem1 := [] }
def kSmall : K := { f := 38, args := [pt 0], mem := [(us 0 6, false)], m := 6, id := 7, mout := 1, ret := bo 6, mem1 := [(us 0 6, false)] }
def kDouble : K := { f := 16, args := [ar 0 6], mem := [], m := 6, id := 8, mout := 6, ret := ar 6 6, mem1 := [] }
def kBy3 : K := { f := 18, args := [ar 0 6], mem := [], m := 6, id := 9, mout := 6, ret := ar 6 6, mem1 := [] }
def kFly : K := { f := 20, args := [ar 0 6, ar 6 6], mem := [], m := 12, id := 10, mout := 12, ret := .tt [.aa (us 12 6), .aa (us 18 6)], mem1 := [] }
def kAddW : K := { f := 17, args := [sl 0 6, sl 1 6, sl 2 6], mem := r3, m := 18, id := 11, mout := 6, ret := sl 3 6, mem1 := r3 ++ [(us 18 6, true)] }
def kSubW : K := { f := 15, args := [sl 0 6, sl 1 6, sl 2 6], mem := r3, m := 18, id := 12, mout := 6, ret := sl 3 6, mem1 := r3 ++ [(us 18 6, true)] }
def kTimes : K := { f := 19, args := [.ww (.cc (.ii .i64 (.lit 3))), sl 0 6, sl 1 6], mem := r2, m := 12, id := 14, mout := 6, ret := sl 2 6, mem1 := r2 ++ [(us 12 6, true)] }

def post (id : Nat) (xs ys : List Int) : Prop := match id with
  | 0 => ys = [b01 (decide (vw (xs.take 6) < vw (xs.drop 6)))]
  | 1 => ys = [b01 (decide (xs.take 6 = xs.drop 6))]
  | 2 => ys = [b01 (decide (xs.take 6 = xs.drop 6))]
  | 3 => ∃ y, ys = [y] ∧ (y = 0 ↔ xs.take 6 = xs.drop 6)
  | 4 => Plus (xs.take 6) (xs.drop 6) ys
  | 5 => Lessen (xs.take 6) (xs.drop 6) ys
  | 6 => DifMod (xs.take 6) (xs.drop 6) prime ys
  | 7 => ys = [b01 (decide (vw xs < vw prime))]
  | 8 => SumMod xs xs prime ys
  | 9 => ∃ d, SumMod xs xs prime d ∧ SumMod d xs prime ys
  | 10 => SumMod (xs.take 6) (xs.drop 6) prime (ys.take 6) ∧ DifMod (xs.take 6) (xs.drop 6) prime (ys.drop 6)
  | 11 => SumMod (xs.take 6) ((xs.drop 6).take 6) (xs.drop 12) ys
  | 12 => DifMod (xs.take 6) ((xs.drop 6).take 6) (xs.drop 12) ys
  | 13 => ys = [1]
  | 20 => Mul64 xs ys
  | 21 => Madd0 xs ys
  | 22 => Madd2 xs ys
  | 23 => Mont 6 prime xs ys
  | 24 => Half xs ys
  | 25 => ∃ z, Mont 6 prime xs z ∧ ys = beB z
  | 26 => ys = beB xs
  | 27 => ys = [b01 (decide (xs.take (8 * 6) = xs.drop (8 * 6)))]
  | 28 => RegI (xs.drop 6) (xs.take 6) (64 * 6) ys
  | 29 => RegI (xs.drop 6) (xs.take 6) (64 * 6) ys
  | 14 => ∃ z1 z2, SumMod (List.replicate 6 0) (xs.take 6) (xs.drop 6) z1 ∧ SumMod z1 (xs.take 6) (xs.drop 6) z2 ∧ SumMod z2 (xs.take 6) (xs.drop 6) ys
  | _ => False
def AA : Eng.Ask := { pre := fun _ xs => Wds xs, post := post, leaf := fun _ _ _ => False, fin := fun _ _ _ => False }
theorem wask (κ : K) : WAsk (AA.to κ) 6 prime := ⟨fun _ _ _ h => h, fun _ _ h => h, fun _ _ h => h, fun _ _ h => h, fun _ _ h => h, fun _ _ h => h, fun _ _ h => h, fun _ _ h => h, fun _ _ h => h, fun _ _ h => h, fun _ _ h => h, fun _ _ h => h, fun _ _ h => h⟩
theorem weq (κ : K) : WEq (AA.to κ) 6 := ⟨fun _ _ h => h, fun _ _ h => h⟩
theorem wq : WQ 6 prime := ⟨by
  intro x hx
  simp only [prime, List.mem_cons, List.not_mem_nil, or_false] at hx
  rcases hx with h | h | h | h | h | h <;> subst h <;> exact ⟨by decide, by decide⟩, rfl, by decide⟩

theorem mixed : Try.prog.follows .mixedOrders = true := by kernel_rfl
theorem ext0 : Ext Try.prog (mkExt 37 36 3 48) :=
  ext_of (P := Try.prog) (fa := Try.f37) (fs := Try.f36) (by kernel_rfl) (by kernel_rfl) (by kernel_rfl) (by kernel_rfl) (by kernel_rfl) (by kernel_rfl) (by kernel_rfl) (by kernel_rfl) (by kernel_rfl) (by kernel_rfl) (by kernel_rfl)
theorem k_of {L : List K} (h : ∀ κ ∈ L, KOk Try.prog AA κ) {κ : K} {T : Tree} (hx : mkExt 37 36 3 48 κ.f = 0) (hb : allB κ.m (rngA κ.args ++ rngM κ.mem) = true) (ht : tr L κ = T)
    (hh : ∀ env : List Int, env.length = κ.m → Wds env → T.holds (AA.to κ) env) : KOk Try.prog AA κ :=
  kok_of (C := CC L) mixed ext0 (conOf_ok h) (fun _ _ _ _ _ _ h => by cases h) 60 hx fun env hl hr _ => by
    have := hh env hl (wds_of hl hr hb)
    rw [← ht] at this
    exact this
theorem less_ok : KOk Try.prog AA kLess := k_of (L := []) (by simp) (by kernel_rfl) (by kernel_rfl) (T := lessR (vr 0 6).reverse (vr 6 6).reverse 12) (by kernel_rfl) fun env hl hw => lessF_ok (n := 6) hl hw fun e o ho => fin_of hl (congrArg (fun x => [x]) ho)
theorem same_ok : KOk Try.prog AA kSame := k_of (L := []) (by simp) (by kernel_rfl) (by kernel_rfl) (T := sameT (vr 0 6) (vr 6 6) 12) (by kernel_rfl) fun env hl _ => sameF_ok (n := 6) hl fun e o ho => fin_of hl (congrArg (fun x => [x]) ho)
theorem small_ok : KOk Try.prog AA kSmall := k_of (L := []) (by simp) (by kernel_rfl) (by kernel_rfl) (T := smallR (vr 0 6).reverse (ls prime).reverse 6) (by kernel_rfl) fun env hl hw => smallF_ok wq (by decide) hl hw fun e o ho => fin_of hl (congrArg (fun x => [x]) ho)
theorem plus_ok : KOk Try.prog AA kPlus := k_of (L := []) (by simp) (by kernel_rfl) (by kernel_rfl) (T := plusT 6 6 0 0 12 []) (by kernel_rfl) fun env hl hw => plusF_ok (n := 6) hl hw fun e os h => fin_of hl h
theorem lessen_ok : KOk Try.prog AA kLessen := k_of (L := []) (by simp) (by kernel_rfl) (by kernel_rfl) (T := lessenT 6 6 0 0 12 []) (by kernel_rfl) fun env hl hw => lessenF_ok (n := 6) hl hw fun e os h => fin_of hl h
theorem l3 : ∀ κ ∈ [kLess, kPlus, kLessen], KOk Try.prog AA κ := by
  intro κ h
  simp only [List.mem_cons, List.not_mem_nil, or_false] at h
  rcases h with rfl | rfl | rfl
  · exact less_ok
  · exact plus_ok
  · exact lessen_ok
theorem l1 : ∀ κ ∈ [kSmall], KOk Try.prog AA κ := by
  intro κ h
  simp only [List.mem_cons, List.not_mem_nil, or_false] at h
  rcases h with rfl
  exact small_ok
theorem addW_ok : KOk Try.prog AA kAddW := k_of (L := [kLess, kPlus, kLessen]) l3 (by kernel_rfl) (by kernel_rfl) (T := addWT 6) (by kernel_rfl) fun env hl hw => addWT_ok (wask kAddW) hl hw fun e os h => fin_of hl h
theorem subW_ok : KOk Try.prog AA kSubW := k_of (L := [kLess, kPlus, kLessen]) l3 (by kernel_rfl) (by kernel_rfl) (T := subWT 6) (by kernel_rfl) fun env hl hw => subWT_ok (wask kSubW) hl hw fun e os h => fin_of hl h
theorem sub_ok : KOk Try.prog AA kSub := k_of (L := [kSmall]) l1 (by kernel_rfl) (by kernel_rfl) (T := .both (subF 6 prime) (subF 6 prime)) (by kernel_rfl) fun env hl hw =>
  ⟨subF_ok wq hl hw fun e os h => fin_of hl h, subF_ok wq hl hw fun e os h => fin_of hl h⟩
end Go.Proofs.Ytjjmlliiclfpeaa
