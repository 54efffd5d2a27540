/-
  For every input the law FnNrSqrt returns true, and the argument and the two listed tables read afterwards as they read before; the tables are tied to the program. No conditions.
   The way: the root by tables is walked by hand (roots of unity, one bit after another), all else by contracts from the walk by reckoning; Euler by the prime.
-/
import Derived.Test.YtajhellohcibiaaDoorFsL
import Derived.Test.YtajhellohcibiaaDoorRows
import Derived.Test.YtajhellohcibiaaDoorTie
import Derived.Test.YtajhellohcibiaaDoorCards
import Derived.ChangeSame
import Derived.ChangeVars
import Derived.JoinedOf
import Derived.RowKit
import Derived.RowKitTokens
import Derived.LaidLaws
import Derived.Handed
import Derived.Stop.LaidErr
import Derived.Lib.LaidTab
import Derived.SevenTiedAt
namespace Go.Proofs.YtajhellohcibiaaDoor
open Go Eng Go.RowKit
open Go.ChangeShapes Go.WideShapes Go.ChangeAt
set_option maxRecDepth 100000
theorem cellsA : Tryd.prog.cellsOf 23 = 4 := by kernel_rfl
theorem cellsW : Tryd.prog.cellsOf 22 = 1 := by kernel_rfl
theorem cellsL : Tryd.prog.cellsOf 48 = 5 := by kernel_rfl
theorem cellsG : Tryd.prog.cellsOf 33 = 4 := by kernel_rfl
theorem shutA {H : Type} (enc : TypeId × Value → H) {x0 x1 x2 x3 : Int} (h0 : (Lit.int .u64 x0).wf = true) (h1 : (Lit.int .u64 x1).wf = true) (h2 : (Lit.int .u64 x2).wf = true) (h3 : (Lit.int .u64 x3).wf = true) (W : World) (n : Nat) (sp : Nat → Bool) (hd : Bool) :
    DataW.Trod enc Tryd.prog W n sp hd 23 (.agg #[.int .u64 x0, .int .u64 x1, .int .u64 x2, .int .u64 x3]) (.agg [.lit (.int .u64 x0), .lit (.int .u64 x1), .lit (.int .u64 x2), .lit (.int .u64 x3)]) [] :=
  ⟨2, by simp [DataW.trod, Value.cells, Tryd.underlying23, Tryd.underlying22, cellsA, cellsW, h0, h1, h2, h3, show List.range 4 = [0, 1, 2, 3] from rfl]⟩
theorem Tryd.own : ownKnob Tryd.prog.godebug = none := by kernel_rfl
theorem Tryd.varL : Tryd.prog.globalNamed "loop.example/pub-g03342/pub/gnarkcrypto/ecc/bn254/fr.sarkarL" = some 0 := by kernel_rfl
theorem Tryd.varG : Tryd.prog.globalNamed "loop.example/pub-g03342/pub/gnarkcrypto/ecc/bn254/fr.sarkarG" = some 1 := by kernel_rfl
theorem Tryd.typeL : (Tryd.prog.globals[0]?).map (·.type) = some 48 := by kernel_rfl
theorem Tryd.typeG : (Tryd.prog.globals[1]?).map (·.type) = some 33 := by kernel_rfl
def lsI : List Int := [5, 5, 5, 6, 6]
def gwI : List Int := [7164790868263648668, 11685701338293206998, 6216421865291908056, 1756667274303109607]
noncomputable def laidWorld (os : Os) : World :=
  let w0 := World.holding Tryd.prog os ⟨#[], #[], []⟩
  { w0 with heap := (w0.heap.modify 0 fun
      | .cells _ t frozen => .cells (lsI.map fun z => Value.int .u64 z).toArray t frozen
      | o => o).modify 1 fun
      | .cells _ t frozen => .cells (gwI.map fun z => Value.int .u64 z).toArray t frozen
      | o => o }
theorem laidWorld_met (os : Os) (args : Array Value) : laidMet Tryd.prog Rows.fnNrSqrtRow.laid ((laidWorld os).forCall (fun _ _ => 0) ⟨#[], args, []⟩).memory :=
  laidMet_of_run' 8 (by kernel_rfl) (by kernel_rfl)
/-- The two variables, read in whatever world holds them so. -/
theorem vars_read {H : Type} (enc : TypeId × Value → H) {W : World} (hL : W.var? Tryd.prog "loop.example/pub-g03342/pub/gnarkcrypto/ecc/bn254/fr.sarkarL" = some (lsI.map fun z => Value.int .u64 z).toArray) (hG : W.var? Tryd.prog "loop.example/pub-g03342/pub/gnarkcrypto/ecc/bn254/fr.sarkarG" = some (gwI.map fun z => Value.int .u64 z).toArray) (sp : Nat → Bool) :
    DataW.TrodVars enc Tryd.prog W sp ["loop.example/pub-g03342/pub/gnarkcrypto/ecc/bn254/fr.sarkarL", "loop.example/pub-g03342/pub/gnarkcrypto/ecc/bn254/fr.sarkarG"] [Lib.tabData .u64 lsI, Lib.tabData .u64 gwI] (MemPlace.row ⟨0, 0, none⟩ 5 ++ [] ++ (MemPlace.row ⟨1, 0, none⟩ 4 ++ [] ++ [])) :=
  ⟨0, 48, _, 2, [], _, Tryd.varL, Tryd.typeL, hL, by kernel_rfl, ⟨1, 33, _, 2, [], [], Tryd.varG, Tryd.typeG, hG, by kernel_rfl, rfl, rfl⟩, rfl⟩
theorem var_below {n : String} {g : Nat} (hg : Tryd.prog.globalNamed n = some g) {W W' : World} {cs : Array Value} (h : W.var? Tryd.prog n = some cs) (hb : Below W.heap.size W W') (hlt : g < W.heap.size) : W'.var? Tryd.prog n = some cs := by
  have e := hb.block g hlt
  unfold World.var? at h ⊢
  rw [hg] at h ⊢
  simp only [Option.bind_some] at h ⊢
  rw [e]
  exact h
theorem law_lifted (os : Os) (started : os.Started) (H : Type) (enc : TypeId × Value → H) :
    ReturnsInHanded {} Tryd.checked os 3 .any (fun w args => (Rows.fnNrSqrtSpec.pre enc Tryd.prog Tryd.f3 [] false w args ∧ laidMet Tryd.prog Rows.fnNrSqrtRow.laid w) ∧ sizedMet enc Tryd.prog Tryd.f3 (OpenSpec.ofChange Rows.fnNrSqrtSpec) false w args)
      (Rows.fnNrSqrtSpec.post enc Tryd.prog Tryd.f3 false true false false) := by
  refine returnsInHanded_of_change_and (C := Tryd.checked) (X := fun w _ => laidMet Tryd.prog Rows.fnNrSqrtRow.laid w) (fun _ _ _ hh h => h.of_heap hh) Tryd.own started (by kernel_rfl) Tryd.func3
    (ChangeSpec.witness_at (enc := enc) (C := Tryd.checked) (os := os) (X := fun w _ => laidMet Tryd.prog Rows.fnNrSqrtRow.laid w) false (laidWorld os) #[.agg #[.int .u64 0, .int .u64 0, .int .u64 0, .int .u64 0]] 8 rfl (by kernel_rfl) (by kernel_rfl) (by kernel_rfl) (by kernel_rfl) (by kernel_rfl) (laidWorld_met os _)) ?_
  intro W base args ds gs before hval0 hW _ _ hL _
  have hval : ∀ (j : Nat) t v, Tryd.f3.params[j]? = some t → args[j]? = some v → Value.okWide Tryd.prog W .any base t v := hval0
  have hW' := hW
  obtain ⟨p, q, hA0, hV0, rfl, hfz, hnd⟩ := hW
  have hA : DataW.TrodAll enc Tryd.prog W 0 (fun _ => true) true Tryd.f3.params.toList args.toList ds p := hA0
  have hV : DataW.TrodVars enc Tryd.prog W (fun _ => true) ["loop.example/pub-g03342/pub/gnarkcrypto/ecc/bn254/fr.sarkarL", "loop.example/pub-g03342/pub/gnarkcrypto/ecc/bn254/fr.sarkarG"] gs q := hV0
  rw [Tryd.params3] at hA hval
  obtain ⟨v0, d0, rfl, rfl, h0⟩ := trodAll_one hA
  have tL : W.var? Tryd.prog "loop.example/pub-g03342/pub/gnarkcrypto/ecc/bn254/fr.sarkarL" = some (lsI.map fun z => Value.int .u64 z).toArray := Lib.tabIs_of_head (k := .u64) (zs := lsI) Tryd.varL Tryd.typeL Tryd.underlying48 Tryd.underlying22 cellsW cellsL hL
  have tG : W.var? Tryd.prog "loop.example/pub-g03342/pub/gnarkcrypto/ecc/bn254/fr.sarkarG" = some (gwI.map fun z => Value.int .u64 z).toArray := Lib.tabIs_of_head (k := .u64) (zs := gwI) Tryd.varG Tryd.typeG Tryd.underlying33 Tryd.underlying22 cellsW cellsG (laidMet.tail hL)
  obtain ⟨rfl, rfl⟩ := hV.unique (vars_read enc tL tG _)
  obtain ⟨xs, lx, rfl, rfl, rfl, wx⟩ := open_words Tryd.underlying23 Tryd.underlying22 cellsA cellsW (hval 0 23 v0 rfl rfl) h0
  obtain ⟨x0, x1, x2, x3, rfl⟩ := lenX lx
  clear hA0 hV0 hV hval0
  have hg : GOk W := ⟨fun j hj => by
    have e := Lib.TabIs.cell (k := .u64) (zs := gwI) tG Tryd.varG j (by simpa [gwI] using hj)
    rw [Nat.zero_add]
    exact e, fun i hi => Lib.TabIs.cell (k := .u64) (zs := lsI) tL Tryd.varL i (by simpa [lsI] using hi)⟩
  have a1 : ∀ W' sp, DataW.Trod enc Tryd.prog W' 0 sp true 23 _ _ [] := fun W' sp => shutA enc (wx x0 (by simp)) (wx x1 (by simp)) (wx x2 (by simp)) (wx x3 (by simp)) W' 0 sp true
  have hw : Wds [x0, x1, x2, x3] := by
    intro z hz
    have hz : z ∈ [x0, x1, x2, x3] := hz
    exact wd_wf (wx z hz)
  have walk := lawW_calls law_in rfl rfl (fun _ _ h => h) (env := [x0, x1, x2, x3]) rfl (vs := [.agg #[.int .u64 x0, .int .u64 x1, .int .u64 x2, .int .u64 x3]]) ⟨⟨_, rfl, us_is (i := 0) (n := 4) (by simp) hw⟩, trivial⟩ ⟨fun _ => hw, trivial⟩ W hg
  refine walk.mono fun e W' ⟨he, hb⟩ => ?_
  subst he
  have vL := var_below Tryd.varL tL hb hg.lt'
  have vG := var_below Tryd.varG tG hb hg.lt
  exact ⟨_, rfl, post_of_below (pa := []) (pv := MemPlace.row ⟨0, 0, none⟩ 5 ++ [] ++ (MemPlace.row ⟨1, 0, none⟩ 4 ++ [] ++ [])) hW' (fun _ _ _ => trodAll_mk1 (shut_bool Tryd.underlying4 true)) (fun sp _ => trodAll_mk1 (a1 W' sp)) (fun sp _ => vars_read enc vL vG sp) rfl
    hb (ok_one (by kernel_rfl) rfl (okWide_bool_mk Tryd.underlying4 true))⟩
theorem law_holds : Rows.FnNrSqrtSaid :=
  OpenClaim.holds_of_wide 3 Tryd.f3 rfl rfl rfl rfl rfl rfl rfl ⟨rfl, rfl, rfl, rfl, rfl⟩ rfl rfl rfl rfl rfl (by kernel_rfl) Tryd.func3 (by kernel_rfl)
    (of_decide_eq_true (by kernel_rfl)) (by unfold Func.isWrapper; first | (rw [if_pos (by decide +kernel)]; kernel_rfl) | (rw [if_neg (by decide +kernel)]; exact ⟨rfl, rfl⟩))
    (fun os started H enc _ => law_lifted os started H enc)
theorem card_holds : Rows.FnNrSqrtCardSaid :=
  Claim7.holds_tied_plain_at .later [] [.data, .data] true (true, "5ae40d92ddcca4d0f564044a529c408249b8dd70aa0568bdcdd971ab1b6c31d0") false
    law_holds (fun _ h => by cases h) (by kernel_rfl) (fun _ h => by cases h) fnNrSqrt_row_tie rfl ⟨rfl, rfl⟩ (by kernel_rfl) rfl
    (fun f fn hf hfn => by
      obtain rfl : f = 3 := Option.some.inj ((show Tryd.prog.funcNamed "loop.example/pub-g03342/laws.FnNrSqrt" = some 3 by kernel_rfl).symm.trans hf) |>.symm
      obtain rfl : fn = Tryd.f3 := (Option.some.inj (Tryd.func3.symm.trans hfn)).symm
      exact ⟨by kernel_rfl, fun j t ht => by
        rw [Tryd.params3] at ht
        have h3 : t = 23 := by
          rcases j with _ | j
          · simpa using ht.symm
          · simp at ht
        subst h3
        exact (show Tryd.prog.wantsStandIn 23 = false by kernel_rfl)⟩)
    (by kernel_rfl)
#print axioms card_holds
end Go.Proofs.YtajhellohcibiaaDoor
