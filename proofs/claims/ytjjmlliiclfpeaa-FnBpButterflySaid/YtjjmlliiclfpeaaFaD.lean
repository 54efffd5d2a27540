/-
  The contracts of doubling, of 3 times and of the butterfly, and of 3 times by the reference. No conditions.
-/
import Derived.Test.YtjjmlliiclfpeaaFaC
namespace Go.Proofs.Ytjjmlliiclfpeaa
open Go Eng Go.RowKit
set_option maxRecDepth 100000
theorem double_ok : KOk Try.prog AA kDouble := k_of (L := [kSmall]) l1 (by kernel_rfl) (by kernel_rfl) (T := doubleF 6 prime) (by kernel_rfl) fun env hl hw => doubleF_ok (wask kDouble) wq hl hw fun e os h => fin_of hl h
theorem by3_ok : KOk Try.prog AA kBy3 := k_of (L := [kSmall]) l1 (by kernel_rfl) (by kernel_rfl) (T := by3F 6 prime) (by kernel_rfl) fun env hl hw => by3F_ok (wask kBy3) wq hl hw fun e os h => fin_of hl h
theorem fly_ok : KOk Try.prog AA kFly := k_of (L := [kSmall]) l1 (by kernel_rfl) (by kernel_rfl) (T := .both (flyF 6 prime) (flyF 6 prime)) (by kernel_rfl) fun env hl hw => by
  have : (flyF 6 prime).holds (AA.to kFly) env := flyF_ok (wask kFly) wq hl hw fun e os ds lo h1 h2 => fin_of hl (by
    show SumMod _ _ _ (((os ++ ds).map _).take 6) ∧ DifMod _ _ _ (((os ++ ds).map _).drop 6)
    rw [List.map_append, List.take_left' (by simpa using lo), List.drop_left' (by simpa using lo)]
    exact ⟨h1, h2⟩)
  exact ⟨this, this⟩
theorem times_ok : KOk Try.prog AA kTimes := k_of (L := [kAddW]) (by
  intro κ h
  simp only [List.mem_cons, List.not_mem_nil, or_false] at h
  rcases h with rfl
  exact addW_ok) (by kernel_rfl) (by kernel_rfl) (T := timesT 6) (by kernel_rfl) fun env hl hw => timesT_ok (wask kTimes) hl hw fun e os h => fin_of hl h
end Go.Proofs.Ytjjmlliiclfpeaa
