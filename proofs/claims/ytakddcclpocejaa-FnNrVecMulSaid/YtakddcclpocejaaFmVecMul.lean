/-
  For every input the law FnNrVecMul returns true, and each argument reads afterwards as it read before. No conditions.
   The way: the function over lists is walked by hand, its calls by contracts; these by the walk by reckoning, loops by invariants.
-/
import Derived.Test.YtakddcclpocejaaFmN
import Derived.Test.YtakddcclpocejaaRows
namespace Go.Proofs.Ytakddcclpocejaa
open Go Eng Go.RowKit
open Go.ChangeShapes Go.WideShapes Go.ChangeAt
set_option maxRecDepth 100000
theorem cellsA : Try.prog.cellsOf 23 = 4 := by kernel_rfl
theorem cellsW : Try.prog.cellsOf 22 = 1 := by kernel_rfl
theorem laidOut : laidOutB Try.prog = true := by kernel_rfl
theorem Try.own : ownKnob Try.prog.godebug = none := by kernel_rfl
theorem law_lifted (os : Os) (started : os.Started) (H : Type) (enc : TypeId × Value → H) :
    ReturnsInHanded {} Try.checked os 4 .any (Rows.fnNrVecMulSpec.pre6 enc Try.prog Try.f4 Rows.fnNrVecMulRow.domain false) (Rows.fnNrVecMulSpec.post enc Try.prog Try.f4 false true false false) := by
  refine returnsInHanded_of_change (C := Try.checked) Try.own started (by kernel_rfl) Try.func4
    (ChangeSpec.witness6 (enc := enc) (C := Try.checked) false ⟨#[], #[.slice none 0 0, .slice none 0 0], []⟩ 8 (by kernel_rfl) (by kernel_rfl) (by kernel_rfl) (by kernel_rfl)) ?_
  intro W base args ds gs before hval0 hW hcnd _
  have hval : ∀ (j : Nat) t v, Try.f4.params[j]? = some t → args[j]? = some v → Value.okWide Try.prog W .any base t v := hval0
  have hW' := hW
  obtain ⟨p, q, hA0, hV, rfl, hfz, hnd⟩ := hW
  have hA : DataW.TrodAll enc Try.prog W 0 (fun _ => true) true Try.f4.params.toList args.toList ds p := hA0
  rw [Try.params4] at hA hval
  obtain ⟨v0, v1, d0, d1, p0, p1, rfl, rfl, rfl, h0, h1⟩ := trodAll_two hA
  obtain ⟨rfl, rfl⟩ := trodVars_none hV
  have h0k := h0
  obtain ⟨o0, b0, off0, len0, cap0, X0, rfl, had0, hel0, hc0⟩ := open_arrs (n := 4) (by decide) Try.underlying30 Try.underlying23 Try.underlying22 cellsA cellsW (hval 0 30 v0 rfl rfl) h0
  have hL0 : Lies W o0 b0 off0 len0 X0 := ⟨had0, hel0, hc0⟩
  have h1k := h1
  obtain ⟨o1, b1, off1, len1, cap1, X1, rfl, had1, hel1, hc1⟩ := open_arrs (n := 4) (by decide) Try.underlying30 Try.underlying23 Try.underlying22 cellsA cellsW (hval 1 30 v1 rfl rfl) h1
  have hL1 : Lies W o1 b1 off1 len1 X1 := ⟨had1, hel1, hc1⟩
  clear hA0 hval0
  simp only [List.append_nil] at hW'
  have hlt0 : ∀ x ∈ p0, x.block < W.heap.size := fun x hx => hW'.lt x (List.mem_append_left _ hx)
  have hlt1 : ∀ x ∈ p1, x.block < W.heap.size := fun x hx => hW'.lt x (List.mem_append_right _ hx)
  refine (law_walk hL0 hL1).mono fun e W' ⟨he, hb⟩ => ?_
  subst he
  exact ⟨_, rfl, post_of_below (pa := p0 ++ p1) (pv := []) hW' (fun _ _ _ => trodAll_mk1 (shut_bool Try.underlying4 true)) (fun sp hsp => trodAll_mk2 (again_below laidOut (by kernel_rfl) (of_decide_eq_true (by kernel_rfl)) h0k hb hlt0 (fun x hx => hsp x (List.mem_append_left _ hx))) (again_below laidOut (by kernel_rfl) (of_decide_eq_true (by kernel_rfl)) h1k hb hlt1 (fun x hx => hsp x (List.mem_append_right _ hx)))) (fun _ _ => rfl) (by simp)
    hb (ok_one (by kernel_rfl) rfl (okWide_bool_mk Try.underlying4 true))⟩

theorem law_holds : Rows.FnNrVecMulSaid :=
  OpenClaim.holds_of_wide 4 Try.f4 rfl rfl rfl rfl rfl rfl rfl ⟨rfl, rfl, rfl, rfl, rfl⟩ rfl rfl rfl rfl rfl (by kernel_rfl) Try.func4 (by kernel_rfl)
    (of_decide_eq_true (by kernel_rfl)) (by unfold Func.isWrapper; first | (rw [if_pos (by decide +kernel)]; kernel_rfl) | (rw [if_neg (by decide +kernel)]; exact ⟨rfl, rfl⟩))
    (fun os started H enc _ => law_lifted os started H enc)
#print axioms law_holds
end Go.Proofs.Ytakddcclpocejaa
