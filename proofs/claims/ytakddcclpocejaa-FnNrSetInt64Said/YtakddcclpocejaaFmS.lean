/-
  The contracts of the opposite and of the elements of numbers of 64 bits: each is shown from the tree of facts that the walk by reckoning gives. No conditions.
-/
import Derived.Test.YtakddcclpocejaaFmC
namespace Go.Proofs.Ytakddcclpocejaa
open Go Eng Go.RowKit
set_option maxRecDepth 100000
def kNegA : K := { f := 17, args := [ar 0 4], mem := [], m := 4, id := 34, mout := 4, ret := ar 4 4, mem1 := [] }
def kMulZ : K := { f := 20, args := [pt 0, pt 0, pt 1], mem := [(us 0 4, true), (us 4 4, false)], m := 8, id := 35, mout := 4, ret := pt 0, mem1 := [(us 8 4, true), (us 4 4, false)] }
def kSU : K := { f := 18, args := [w1 0], mem := [], m := 1, id := 36, mout := 4, ret := ar 1 4, mem1 := [] }
def kSI : K := { f := 16, args := [.ww (.cc (.ii .i64 (.var 0)))], mem := [], m := 1, id := 37, mout := 4, ret := ar 1 4, mem1 := [] }
theorem rsq_wd : Wds rsq := by
  intro x hx
  simp only [rsq, List.mem_cons, List.not_mem_nil, or_false] at hx
  rcases hx with h | h | h | h <;> subst h <;> exact ⟨by decide, by decide⟩
theorem rsq_lt : vw rsq < vw prime := by decide
theorem rsq_inv : ∃ w, vw prime ∣ vw rsq * w - 1 := ⟨8519677608991584271437967308266649112183478179623991153221810821821888926024, by decide +kernel⟩
theorem q_big : BW ≤ vw prime := by decide
theorem negA_ok : KOk Try.prog AA kNegA := k_of (L := []) (by simp) (by kernel_rfl) (by kernel_rfl) (T := negT 4 prime (vr 0 4) 4) (by kernel_rfl) fun env hl hw hp => negT_ok wq (by decide) vr_length hl.symm (vr_bd (by decide)) (one_vr hl) hw hp fun e os h => fin_of hl h
theorem mulZ_ok : KOk Try.prog AA kMulZ := k_of (L := [kMul64, kSmall]) lMul (by kernel_rfl) (by kernel_rfl) (T := mulA prime qi (vr 0 4) (vr 4 4) 8 fun os _ => .fin (enc os) st0) (by kernel_rfl) fun env hl hw hp => by
  have hl' : env.length = 8 := hl
  have h1 : (vr 0 4).map (·.val env) = env.take 4 := by rw [vr_vals (by omega), List.drop_zero]
  have h2 : (vr 4 4).map (·.val env) = env.drop 4 := by rw [vr_vals (by omega), List.take_of_length_le (by simp; omega)]
  refine mulA_ok (wask kMulZ) (pask kMulZ) wq qinv (by decide) vr_length vr_length hl'.symm (vr_bd (by decide)) (vr_bd (by decide)) (by rw [h1]; exact hw.take _) (by rw [h2]; exact hw.drop _) (by rw [h2]; exact hp) fun e os ne' h => fin_of hl ?_
  have := h.val
  rw [h1, h2] at this
  exact this
theorem lZ : ∀ κ ∈ [kMulZ], KOk Try.prog AA κ := by
  intro κ h
  simp only [List.mem_cons, List.not_mem_nil, or_false] at h
  rcases h with rfl
  exact mulZ_ok
theorem len1 {l : List Int} (h : l.length = 1) : ∃ x, l = [x] := by
  match l, h with
  | [x], _ => exact ⟨x, rfl⟩
theorem su_ok : KOk Try.prog AA kSU := k_of (L := [kMulZ]) lZ (by kernel_rfl) (by kernel_rfl) (T := setUT 4 rsq) (by kernel_rfl) fun env hl hw _ => by
  obtain ⟨v, rfl⟩ := len1 hl
  exact setUT_ok (zask kSU) (by decide) rsq_wd rsq_lt (hw v (List.mem_cons_self ..)) fun e os h => fin_of hl h
theorem si_ok : KOk Try.prog AA kSI := k_of' (L := [kMulZ]) lZ (by kernel_rfl) (T := setIT 4 prime rsq) (by kernel_rfl) fun env hl hp => by
  obtain ⟨x, rfl, hx⟩ := hp
  exact setIT_ok (zask kSI) wq (by decide) rsq_wd rsq_lt hx fun e os h => fin_of hl h
theorem lS : ∀ κ ∈ [kNegA, kSU, kSI], KOk Try.prog AA κ := by
  intro κ h
  simp only [List.mem_cons, List.not_mem_nil, or_false] at h
  rcases h with rfl | rfl | rfl
  · exact negA_ok
  · exact su_ok
  · exact si_ok
end Go.Proofs.Ytakddcclpocejaa
