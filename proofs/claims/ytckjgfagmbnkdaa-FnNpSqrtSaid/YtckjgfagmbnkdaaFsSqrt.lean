/-
  For every input the law FnNpSqrt returns true, and the argument reads afterwards as it read before. No conditions.
   The way: the root is walked by hand, all else by contracts from the walk by reckoning; the power by its chain of products; Euler by the prime.
-/
import Derived.Test.YtckjgfagmbnkdaaFsL
import Derived.Test.YtckjgfagmbnkdaaRows
namespace Go.Proofs.Ytckjgfagmbnkdaa
open Go Eng Go.RowKit
open Go.ChangeShapes Go.WideShapes Go.ChangeAt
set_option maxRecDepth 100000
theorem cellsA : Try.prog.cellsOf 23 = 4 := by kernel_rfl
theorem cellsW : Try.prog.cellsOf 22 = 1 := by kernel_rfl
theorem shutA {H : Type} (enc : TypeId × Value → H) {x0 x1 x2 x3 : Int} (h0 : (Lit.int .u64 x0).wf = true) (h1 : (Lit.int .u64 x1).wf = true) (h2 : (Lit.int .u64 x2).wf = true) (h3 : (Lit.int .u64 x3).wf = true) (W : World) (n : Nat) (sp : Nat → Bool) (hd : Bool) :
    DataW.Trod enc Try.prog W n sp hd 23 (.agg #[.int .u64 x0, .int .u64 x1, .int .u64 x2, .int .u64 x3]) (.agg [.lit (.int .u64 x0), .lit (.int .u64 x1), .lit (.int .u64 x2), .lit (.int .u64 x3)]) [] :=
  ⟨2, by simp [DataW.trod, Value.cells, Try.underlying23, Try.underlying22, cellsA, cellsW, h0, h1, h2, h3, show List.range 4 = [0, 1, 2, 3] from rfl]⟩
theorem lenA {l : List Int} (h : l.length = 4) : ∃ x0 x1 x2 x3, l = [x0, x1, x2, x3] := by
  match l, h with
  | [x0, x1, x2, x3], _ => exact ⟨_, _, _, _, rfl⟩
theorem Try.own : ownKnob Try.prog.godebug = none := by kernel_rfl
theorem law_lifted (os : Os) (started : os.Started) (H : Type) (enc : TypeId × Value → H) :
    ReturnsInHanded {} Try.checked os 3 .any (Rows.fnNpSqrtSpec.pre6 enc Try.prog Try.f3 Rows.fnNpSqrtRow.domain false) (Rows.fnNpSqrtSpec.post enc Try.prog Try.f3 false true false false) := by
  refine returnsInHanded_of_change (C := Try.checked) Try.own started (by kernel_rfl) Try.func3
    (ChangeSpec.witness6 (enc := enc) (C := Try.checked) false ⟨#[], #[.agg #[.int .u64 0, .int .u64 0, .int .u64 0, .int .u64 0]], []⟩ 8 (by kernel_rfl) (by kernel_rfl) (by kernel_rfl) (by kernel_rfl)) ?_
  intro W base args ds gs before hval0 hW hcnd _
  have hval : ∀ (j : Nat) t v, Try.f3.params[j]? = some t → args[j]? = some v → Value.okWide Try.prog W .any base t v := hval0
  have hW' := hW
  obtain ⟨p, q, hA0, hV, rfl, hfz, hnd⟩ := hW
  have hA : DataW.TrodAll enc Try.prog W 0 (fun _ => true) true Try.f3.params.toList args.toList ds p := hA0
  rw [Try.params3] at hA hval
  obtain ⟨v0, d0, rfl, rfl, h0⟩ := trodAll_one hA
  obtain ⟨rfl, rfl⟩ := trodVars_none hV
  obtain ⟨xs, lx, rfl, rfl, rfl, wx⟩ := open_words Try.underlying23 Try.underlying22 cellsA cellsW (hval 0 23 v0 rfl rfl) h0
  obtain ⟨x0, x1, x2, x3, rfl⟩ := lenA lx
  clear hA0 hval0
  simp only [List.append_nil] at hW'
  have a1 : ∀ W' sp, DataW.Trod enc Try.prog W' 0 sp true 23 _ _ [] := fun W' sp => shutA enc (wx x0 (by simp)) (wx x1 (by simp)) (wx x2 (by simp)) (wx x3 (by simp)) W' 0 sp true
  have hw : Wds [x0, x1, x2, x3] := by
    intro z hz
    have hz : z ∈ [x0, x1, x2, x3] := hz
    exact wd_wf (wx z hz)
  have walk := law_calls law_ok rfl rfl (fun _ _ h => h) (env := [x0, x1, x2, x3]) rfl (vs := [.agg #[.int .u64 x0, .int .u64 x1, .int .u64 x2, .int .u64 x3]]) ⟨⟨_, rfl, us_is (i := 0) (n := 4) (by simp) hw⟩, trivial⟩ ⟨fun _ => hw, trivial⟩ W
  refine walk.mono fun e W' ⟨he, hb⟩ => ?_
  subst he
  exact ⟨_, rfl, post_of_below (pa := []) (pv := []) hW' (fun _ _ _ => trodAll_mk1 (shut_bool Try.underlying4 true)) (fun sp _ => trodAll_mk1 (a1 W' sp)) (fun _ _ => rfl) rfl
    hb (ok_one (by kernel_rfl) rfl (okWide_bool_mk Try.underlying4 true))⟩

theorem law_holds : Rows.FnNpSqrtSaid :=
  OpenClaim.holds_of_wide 3 Try.f3 rfl rfl rfl rfl rfl rfl rfl ⟨rfl, rfl, rfl, rfl, rfl⟩ rfl rfl rfl rfl rfl (by kernel_rfl) Try.func3 (by kernel_rfl)
    (of_decide_eq_true (by kernel_rfl)) (by unfold Func.isWrapper; first | (rw [if_pos (by decide +kernel)]; kernel_rfl) | (rw [if_neg (by decide +kernel)]; exact ⟨rfl, rfl⟩))
    (fun os started H enc _ => law_lifted os started H enc)
