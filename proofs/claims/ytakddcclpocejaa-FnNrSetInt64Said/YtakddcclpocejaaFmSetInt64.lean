/-
  For every input the law FnNrSetInt64 returns true, and the argument reads afterwards as it read before. No conditions.
   The way: the walk by reckoning gives for each function a tree of facts, checked by the kernel; the trees are shown to hold for any number of words.
-/
import Derived.Test.YtakddcclpocejaaFmS
import Derived.Test.YtakddcclpocejaaRows
namespace Go.Proofs.Ytakddcclpocejaa
open Go Eng Go.RowKit
open Go.ChangeShapes Go.WideShapes Go.ChangeAt
set_option maxRecDepth 100000
def kLaw : K := { f := 6, args := [.ww (.cc (.ii .i64 (.var 0)))], mem := [], m := 1, id := 39, mout := 1, ret := bo 1, mem1 := [] }
theorem law_ok : KOk Try.prog AA kLaw := k_of' (L := [kNegA, kSU, kSI]) lS (by kernel_rfl) (T := lawSetT 4 one) (by kernel_rfl) fun env hl hp => by
  obtain ⟨x, rfl, hx⟩ := hp
  exact lawSetT_ok (zask kLaw) q_odd q_big rsq_inv (by decide) one_ne hx fun e o ho => fin_of hl (congrArg (fun x => [x]) ho)
theorem Try.own : ownKnob Try.prog.godebug = none := by kernel_rfl
theorem law_lifted (os : Os) (started : os.Started) (H : Type) (enc : TypeId × Value → H) :
    ReturnsInHanded {} Try.checked os 6 .any (Rows.fnNrSetInt64Spec.pre6 enc Try.prog Try.f6 Rows.fnNrSetInt64Row.domain false) (Rows.fnNrSetInt64Spec.post enc Try.prog Try.f6 false true false false) := by
  refine returnsInHanded_of_change (C := Try.checked) Try.own started (by kernel_rfl) Try.func6
    (ChangeSpec.witness6 (enc := enc) (C := Try.checked) false ⟨#[], #[.int .i64 0], []⟩ 8 (by kernel_rfl) (by kernel_rfl) (by kernel_rfl) (by kernel_rfl)) ?_
  intro W base args ds gs before hval0 hW hcnd _
  have hval : ∀ (j : Nat) t v, Try.f6.params[j]? = some t → args[j]? = some v → Value.okWide Try.prog W .any base t v := hval0
  have hW' := hW
  obtain ⟨p, q, hA0, hV, rfl, hfz, hnd⟩ := hW
  have hA : DataW.TrodAll enc Try.prog W 0 (fun _ => true) true Try.f6.params.toList args.toList ds p := hA0
  rw [Try.params6] at hA hval
  obtain ⟨v0, d0, rfl, rfl, h0⟩ := trodAll_one hA
  obtain ⟨rfl, rfl⟩ := trodVars_none hV
  obtain ⟨x, rfl⟩ := okWide_int Try.underlying3 (hval 0 3 v0 rfl rfl)
  obtain ⟨fuel, hf⟩ := h0
  obtain ⟨y, hy, hx, hwf⟩ := DataW.trod_int Try.underlying3 hf
  have hxy : x = y := by simpa [Value.cells] using hy
  subst hxy
  obtain ⟨rfl, rfl⟩ := Prod.mk.inj hx
  clear hA0 hval0
  simp only [List.append_nil] at hW'
  have hb := bounds_i64 hwf
  have hfit : fits .i64 x := (fits_iff _ _).2 ⟨by simp [kMin]; omega, by simp [kMax]; omega⟩
  have walk := law_calls law_ok rfl rfl (fun _ _ h => h) (env := [x]) rfl (vs := [.int .i64 x]) ⟨⟨x, rfl, hfit, rfl⟩, trivial⟩ ⟨fun k => absurd k (by decide), x, rfl, by omega, by omega⟩ W
  refine walk.mono fun e W' ⟨he, hb⟩ => ?_
  subst he
  exact ⟨_, rfl, post_of_below (pa := []) (pv := []) hW' (fun _ _ _ => trodAll_mk1 (shut_bool Try.underlying4 true)) (fun sp _ => trodAll_mk1 (shut_int Try.underlying3 hwf)) (fun _ _ => rfl) rfl
    hb (ok_one (by kernel_rfl) rfl (okWide_bool_mk Try.underlying4 true))⟩

theorem law_holds : Rows.FnNrSetInt64Said :=
  OpenClaim.holds_of_wide 6 Try.f6 rfl rfl rfl rfl rfl rfl rfl ⟨rfl, rfl, rfl, rfl, rfl⟩ rfl rfl rfl rfl rfl (by kernel_rfl) Try.func6 (by kernel_rfl)
    (of_decide_eq_true (by kernel_rfl)) (by unfold Func.isWrapper; first | (rw [if_pos (by decide +kernel)]; kernel_rfl) | (rw [if_neg (by decide +kernel)]; exact ⟨rfl, rfl⟩))
    (fun os started H enc _ => law_lifted os started H enc)
#print axioms law_holds
end Go.Proofs.Ytakddcclpocejaa
