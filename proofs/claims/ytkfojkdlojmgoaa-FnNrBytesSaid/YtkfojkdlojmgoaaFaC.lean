/-
  The contracts of the functions that the laws without products reach: each is shown from the tree of facts that the walk by reckoning gives. No conditions.
-/
import Derived.Test.YtkfojkdlojmgoaaWV
import Derived.Test.YtkfojkdlojmgoaaWE
import Derived.Test.YtkfojkdlojmgoaaWR
import Derived.Test.YtkfojkdlojmgoaaEng22
import Derived.Test.YtkfojkdlojmgoaaProg
namespace Go.Proofs.Ytkfojkdlojmgoaa
open Go Eng Go.RowKit
set_option maxRecDepth 100000
def prime : List Int := [4891460686036598785, 2896914383306846353, 13281191951274694749, 3486998266802970665]
noncomputable def CC (L : List K) : Cfg := ⟨Try.prog, mkExt 37 36 3 48, conOf L, fun _ _ _ => none⟩
noncomputable def tr (L : List K) (κ : K) : Tree := xcall (CC L) (fun f => xcode (CC L) 60 f 0) κ.f κ.args κ.st κ.end
def r2 : List (List SC × Bool) := [(us 0 4, false), (us 4 4, false)]
def r3 : List (List SC × Bool) := [(us 0 4, false), (us 4 4, false), (us 8 4, false)]
def kLess : K := { f := 9, args := [sl 0 4, sl 1 4], mem := r2, m := 8, id := 0, mout := 1, ret := bo 8, mem1 := r2 }
def kSame : K := { f := 14, args := [sl 0 4, sl 1 4], mem := r2, m := 8, id := 1, mout := 1, ret := bo 8, mem1 := r2 }
def kEq : K := { f := 11, args := [ar 0 4, ar 4 4], mem := [], m := 8, id := 2, mout := 1, ret := bo 8, mem1 := [] }
def kNe : K := { f := 12, args := [ar 0 4, ar 4 4], mem := [], m := 8, id := 3, mout := 1, ret := .ww (.cc (u 8)), mem1 := [] }
def kPlus : K := { f := 29, args := [sl 0 4, sl 1 4], mem := r2, m := 8, id := 4, mout := 5, ret := .tt [.cc (.ss 2 0 4 4), .cc (.bb (.var 12))], mem1 := r2 ++ [(us 8 4, true)] }
def kLessen : K := { f := 28, args := [sl 0 4, sl 1 4], mem := r2, m := 8, id := 5, mout := 5, ret := .tt [.cc (.ss 2 0 4 4), .cc (.bb (.var 12))], mem1 := r2 ++ [(us 8 4, true)] }
def kSub : K := { f := 13, args := [ar 0 4, ar 4 4], mem := [], m := 8, id := 6, mout := 4, ret := ar 8 4, mem1 := [] }
def kSmall : K := { f := 38, args := [pt 0], mem := [(us 0 4, false)], m := 4, id := 7, mout := 1, ret := bo 4, mem1 := [(us 0 4, false)] }
def kDouble : K := { f := 16, args := [ar 0 4], mem := [], m := 4, id := 8, mout := 4, ret := ar 4 4, mem1 := [] }
def kBy3 : K := { f := 18, args := [ar 0 4], mem := [], m := 4, id := 9, mout := 4, ret := ar 4 4, mem1 := [] }
def kFly : K := { f := 20, args := [ar 0 4, ar 4 4], mem := [], m := 8, id := 10, mout := 8, ret := .tt [.aa (us 8 4), .aa (us 12 4)], mem1 := [] }
def kAddW : K := { f := 17, args := [sl 0 4, sl 1 4, sl 2 4], mem := r3, m := 12, id := 11, mout := 4, ret := sl 3 4, mem1 := r3 ++ [(us 12 4, true)] }
def kSubW : K := { f := 15, args := [sl 0 4, sl 1 4, sl 2 4], mem := r3, m := 12, id := 12, mout := 4, ret := sl 3 4, mem1 := r3 ++ [(us 12 4, true)] }
def kTimes : K := { f := 19, args := [.ww (.cc (.ii .i64 (.lit 3))), sl 0 4, sl 1 4], mem := r2, m := 8, id := 14, mout := 4, ret := sl 2 4, mem1 := r2 ++ [(us 8 4, true)] }

def post (id : Nat) (xs ys : List Int) : Prop := match id with
  | 0 => ys = [b01 (decide (vw (xs.take 4) < vw (xs.drop 4)))]
  | 1 => ys = [b01 (decide (xs.take 4 = xs.drop 4))]
  | 2 => ys = [b01 (decide (xs.take 4 = xs.drop 4))]
  | 3 => ∃ y, ys = [y] ∧ (y = 0 ↔ xs.take 4 = xs.drop 4)
  | 4 => Plus (xs.take 4) (xs.drop 4) ys
  | 5 => Lessen (xs.take 4) (xs.drop 4) ys
  | 6 => DifMod (xs.take 4) (xs.drop 4) prime ys
  | 7 => ys = [b01 (decide (vw xs < vw prime))]
  | 8 => SumMod xs xs prime ys
  | 9 => ∃ d, SumMod xs xs prime d ∧ SumMod d xs prime ys
  | 10 => SumMod (xs.take 4) (xs.drop 4) prime (ys.take 4) ∧ DifMod (xs.take 4) (xs.drop 4) prime (ys.drop 4)
  | 11 => SumMod (xs.take 4) ((xs.drop 4).take 4) (xs.drop 8) ys
  | 12 => DifMod (xs.take 4) ((xs.drop 4).take 4) (xs.drop 8) ys
  | 13 => ys = [1]
  | 20 => Mul64 xs ys
  | 21 => Madd0 xs ys
  | 22 => Madd2 xs ys
  | 23 => Mont 4 prime xs ys
  | 24 => Half xs ys
  | 25 => ∃ z, Mont 4 prime xs z ∧ ys = beB z
  | 26 => ys = beB xs
  | 27 => ys = [b01 (decide (xs.take (8 * 4) = xs.drop (8 * 4)))]
  | 28 => RegI (xs.drop 4) (xs.take 4) (64 * 4) ys
  | 29 => RegI (xs.drop 4) (xs.take 4) (64 * 4) ys
  | 14 => ∃ z1 z2, SumMod (List.replicate 4 0) (xs.take 4) (xs.drop 4) z1 ∧ SumMod z1 (xs.take 4) (xs.drop 4) z2 ∧ SumMod z2 (xs.take 4) (xs.drop 4) ys
  | _ => False
def AA : Eng.Ask := { pre := fun _ xs => Wds xs, post := post, leaf := fun _ _ _ => False, fin := fun _ _ _ => False }
theorem wask (κ : K) : WAsk (AA.to κ) 4 prime := ⟨fun _ _ _ h => h, fun _ _ h => h, fun _ _ h => h, fun _ _ h => h, fun _ _ h => h, fun _ _ h => h, fun _ _ h => h, fun _ _ h => h, fun _ _ h => h, fun _ _ h => h, fun _ _ h => h, fun _ _ h => h, fun _ _ h => h⟩
theorem weq (κ : K) : WEq (AA.to κ) 4 := ⟨fun _ _ h => h, fun _ _ h => h⟩
theorem wq : WQ 4 prime := ⟨by
  intro x hx
  simp only [prime, List.mem_cons, List.not_mem_nil, or_false] at hx
  rcases hx with h | h | h | h <;> subst h <;> exact ⟨by decide, by decide⟩, rfl, by decide⟩

theorem mixed : Try.prog.follows .mixedOrders = true := by kernel_rfl
theorem ext0 : Ext Try.prog (mkExt 37 36 3 48) :=
  ext_of (P := Try.prog) (fa := Try.f37) (fs := Try.f36) (by kernel_rfl) (by kernel_rfl) (by kernel_rfl) (by kernel_rfl) (by kernel_rfl) (by kernel_rfl) (by kernel_rfl) (by kernel_rfl) (by kernel_rfl) (by kernel_rfl) (by kernel_rfl)
theorem k_of {L : List K} (h : ∀ κ ∈ L, KOk Try.prog AA κ) {κ : K} {T : Tree} (hx : mkExt 37 36 3 48 κ.f = 0) (hb : allB κ.m (rngA κ.args ++ rngM κ.mem) = true) (ht : tr L κ = T)
    (hh : ∀ env : List Int, env.length = κ.m → Wds env → T.holds (AA.to κ) env) : KOk Try.prog AA κ :=
  kok_of (C := CC L) mixed ext0 (conOf_ok h) (fun _ _ _ _ _ _ h => by cases h) 60 hx fun env hl hr _ => by
    have := hh env hl (wds_of hl hr hb)
    rw [← ht] at this
    exact this
theorem less_ok : KOk Try.prog AA kLess := k_of (L := []) (by simp) (by kernel_rfl) (by kernel_rfl) (T := lessR (vr 0 4).reverse (vr 4 4).reverse 8) (by kernel_rfl) fun env hl hw => lessF_ok (n := 4) hl hw fun e o ho => fin_of hl (congrArg (fun x => [x]) ho)
theorem same_ok : KOk Try.prog AA kSame := k_of (L := []) (by simp) (by kernel_rfl) (by kernel_rfl) (T := sameT (vr 0 4) (vr 4 4) 8) (by kernel_rfl) fun env hl _ => sameF_ok (n := 4) hl fun e o ho => fin_of hl (congrArg (fun x => [x]) ho)
theorem small_ok : KOk Try.prog AA kSmall := k_of (L := []) (by simp) (by kernel_rfl) (by kernel_rfl) (T := smallR (vr 0 4).reverse (ls prime).reverse 4) (by kernel_rfl) fun env hl hw => smallF_ok wq (by decide) hl hw fun e o ho => fin_of hl (congrArg (fun x => [x]) ho)
theorem plus_ok : KOk Try.prog AA kPlus := k_of (L := []) (by simp) (by kernel_rfl) (by kernel_rfl) (T := plusT 4 4 0 0 8 []) (by kernel_rfl) fun env hl hw => plusF_ok (n := 4) hl hw fun e os h => fin_of hl h
theorem lessen_ok : KOk Try.prog AA kLessen := k_of (L := []) (by simp) (by kernel_rfl) (by kernel_rfl) (T := lessenT 4 4 0 0 8 []) (by kernel_rfl) fun env hl hw => lessenF_ok (n := 4) hl hw fun e os h => fin_of hl h
theorem l3 : ∀ κ ∈ [kLess, kPlus, kLessen], KOk Try.prog AA κ := by
  intro κ h
  simp only [List.mem_cons, List.not_mem_nil, or_false] at h
  rcases h with rfl | rfl | rfl
  · exact less_ok
  · exact plus_ok
  · exact lessen_ok
theorem l1 : ∀ κ ∈ [kSmall], KOk Try.prog AA κ := by
  intro κ h
  simp only [List.mem_cons, List.not_mem_nil, or_false] at h
  rcases h with rfl
  exact small_ok
theorem addW_ok : KOk Try.prog AA kAddW := k_of (L := [kLess, kPlus, kLessen]) l3 (by kernel_rfl) (by kernel_rfl) (T := addWT 4) (by kernel_rfl) fun env hl hw => addWT_ok (wask kAddW) hl hw fun e os h => fin_of hl h
theorem subW_ok : KOk Try.prog AA kSubW := k_of (L := [kLess, kPlus, kLessen]) l3 (by kernel_rfl) (by kernel_rfl) (T := subWT 4) (by kernel_rfl) fun env hl hw => subWT_ok (wask kSubW) hl hw fun e os h => fin_of hl h
theorem sub_ok : KOk Try.prog AA kSub := k_of (L := [kSmall]) l1 (by kernel_rfl) (by kernel_rfl) (T := .both (subF 4 prime) (subF 4 prime)) (by kernel_rfl) fun env hl hw =>
  ⟨subF_ok wq hl hw fun e os h => fin_of hl h, subF_ok wq hl hw fun e os h => fin_of hl h⟩
end Go.Proofs.Ytkfojkdlojmgoaa
