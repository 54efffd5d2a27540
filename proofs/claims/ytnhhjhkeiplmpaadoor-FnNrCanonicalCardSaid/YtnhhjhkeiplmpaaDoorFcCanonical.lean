/-
  For every input the law FnNrCanonical returns true, and the argument and the listed variable read afterwards as they read before; the variable is tied to the program. No conditions.
   The way: the functions that make errors and slices are walked by hand, all others by contracts from the walk by reckoning.
-/
import Derived.Test.YtnhhjhkeiplmpaaDoorFcL
import Derived.Test.YtnhhjhkeiplmpaaDoorRows
import Derived.Test.YtnhhjhkeiplmpaaDoorTie
import Derived.Test.YtnhhjhkeiplmpaaDoorCards
import Derived.ChangeSame
import Derived.ChangeVars
import Derived.JoinedOf
import Derived.RowKit
import Derived.RowKitTokens
import Derived.LaidLaws
import Derived.Handed
import Derived.Stop.LaidErr
import Derived.SevenTiedAt
namespace Go.Proofs.YtnhhjhkeiplmpaaDoor
open Go Eng Go.RowKit
open Go.ChangeShapes Go.WideShapes Go.ChangeAt
set_option maxRecDepth 100000
section
variable {H : Type} {enc : TypeId × Value → H} {P : Program} {w : World} {base : Nat} {held : Bool}
theorem open_bytes {t e : TypeId} (ht : P.underlying t = some (.slice e)) (he : P.underlying e = some (.int .u8)) (hce : P.cellsOf e = 1) {v : Value} {d : DataW H} {p : List MemPlace} {r : Reach} {b0 : Nat} (hval : Value.okWide P w r b0 t v) (h : DataW.Trod enc P w base (fun _ => true) held t v d p) :
    ∃ (o : Option Addr) (b off len cap : Nat) (l : List Int), v = .slice o len cap ∧ l.length = len ∧ (∀ x ∈ l, By x) ∧ CellsB w b off len l ∧ (o = none ∧ len = 0 ∧ cap = 0 ∨ len = 0 ∧ o.isSome = true ∨ o = some ⟨b, off, none⟩) := by
  obtain ⟨o, len, cap, rfl⟩ := okWide_slice ht hval
  obtain ⟨fuel, hf⟩ := h
  rcases open_ints ht he hce hf with ⟨h0, _⟩ | ⟨a, len', cap', zs, hcs, _, hl, _, hz, _, hx, hw⟩
  · simp [Value.cells] at h0
    obtain ⟨rfl, rfl, rfl⟩ := h0
    exact ⟨none, 0, 0, 0, 0, [], rfl, rfl, (fun x hx => by cases hx), fun j hj => absurd hj (by omega), Or.inl ⟨rfl, rfl, rfl⟩⟩
  · simp [Value.cells] at hcs
    obtain ⟨rfl, rfl, rfl⟩ := hcs
    simp only [if_true] at hz
    obtain ⟨b, off, spot⟩ := a
    have hby : ∀ x ∈ zs.take len, By x := fun x hx => by
      have h : IntKind.u8.min ≤ x ∧ x ≤ IntKind.u8.max := by simpa [Lit.wf] using hw x (List.mem_of_mem_take hx)
      have h2 : IntKind.u8.min = 0 := by decide
      have h3 : IntKind.u8.max = 255 := by decide
      exact ⟨by omega, by omega⟩
    have hcell : ∀ j, j < len → w.cell? ((⟨b, off, spot⟩ : Addr).add j) = some (.int .u8 ((zs.take len).getD j 0)) := fun j hj => by
      rw [hx j (by omega), List.getD_eq_getElem?_getD, List.getD_eq_getElem?_getD, List.getElem?_take, if_pos hj]
    by_cases h0 : len = 0
    · subst h0
      exact ⟨_, 0, 0, 0, cap, [], rfl, rfl, (fun x hx => by cases hx), fun j hj => absurd hj (by omega), Or.inr (Or.inl ⟨rfl, rfl⟩)⟩
    · have hs : spot = none := by
        have := hcell 0 (by omega)
        simpa [Addr.add] using World.cell?_spot this
      subst hs
      refine ⟨_, b, off, len, cap, zs.take len, rfl, by simp; omega, hby, fun j hj => ?_, Or.inr (Or.inr rfl)⟩
      have := hcell j hj
      by_cases hj0 : j = 0
      · subst hj0; simpa [Addr.add] using this
      · simpa [Addr.add, hj0] using this
end
theorem Tryd.own : ownKnob Tryd.prog.godebug = none := by kernel_rfl
theorem Tryd.var : Tryd.prog.globalNamed "loop.example/pub-g03342/pub/gnarkcrypto/ecc/bn254/fr.errInvalidEncoding" = some 0 := by kernel_rfl
theorem Tryd.varType : (Tryd.prog.globals[0]?).map (·.type) = some 36 := by kernel_rfl
theorem Tryd.star : "*" ++ "errors.errorString" = "*errors.errorString" := by decide
theorem Tryd.rowE (u : TypeId) (h : Tryd.prog.typeName? 3 u = some "*errors.errorString") : u = 55 :=
  typeName_ptr_named (nm := "errors.errorString") (by rw [Tryd.star]; kernel_rfl) (by kernel_rfl) (by decide) u (by rw [Tryd.star]; exact h)
theorem cellsU8 : Tryd.prog.cellsOf 5 = 1 := by kernel_rfl
theorem cellsES : Tryd.prog.cellsOf 57 = 1 := by kernel_rfl
theorem cellsStr : Tryd.prog.cellsOf 9 = 1 := by kernel_rfl
theorem laidOut : laidOutB Tryd.prog = true := by kernel_rfl
abbrev badS : ByteArray := { data := #[105, 110, 118, 97, 108, 105, 100, 32, 102, 114, 46, 69, 108, 101, 109, 101, 110, 116, 32, 101, 110, 99, 111, 100, 105, 110, 103] }
noncomputable def low : Nat := (World.holding Tryd.prog default ⟨#[], #[], []⟩).heap.size
noncomputable def laidWorld (os : Os) : World :=
  let w0 := World.holding Tryd.prog os ⟨#[.cells #[.string badS] 57], #[], []⟩
  { w0 with heap := w0.heap.modify 0 fun
      | .cells _ t frozen => .cells #[.iface 55 (.pointer (some ⟨low, 0, none⟩))] t frozen
      | o => o }
theorem laidWorld_met (os : Os) (args : Array Value) : laidMet Tryd.prog Rows.fnNrCanonicalRow.laid ((laidWorld os).forCall (fun _ _ => 0) ⟨#[], args, []⟩).memory :=
  laidMet_of_run (ps := [.cell 0 0, .cell low 0]) 8 (by kernel_rfl) (by kernel_rfl) (by kernel_rfl)
theorem law_lifted (os : Os) (started : os.Started) (H : Type) (enc : TypeId × Value → H) :
    ReturnsInHanded {} Tryd.checked os 3 .any (fun w args => (Rows.fnNrCanonicalSpec.pre enc Tryd.prog Tryd.f3 [] false w args ∧ laidMet Tryd.prog Rows.fnNrCanonicalRow.laid w) ∧ sizedMet enc Tryd.prog Tryd.f3 (OpenSpec.ofChange Rows.fnNrCanonicalSpec) false w args)
      (Rows.fnNrCanonicalSpec.post enc Tryd.prog Tryd.f3 false true false false) := by
  refine returnsInHanded_of_change_and (C := Tryd.checked) (X := fun w _ => laidMet Tryd.prog Rows.fnNrCanonicalRow.laid w) (fun _ _ _ hh h => h.of_heap hh) Tryd.own started (by kernel_rfl) Tryd.func3
    (ChangeSpec.witness_at (enc := enc) (C := Tryd.checked) (os := os) (X := fun w _ => laidMet Tryd.prog Rows.fnNrCanonicalRow.laid w) false (laidWorld os) #[.slice none 0 0] 8 rfl (by kernel_rfl) (by kernel_rfl) (by kernel_rfl) (by kernel_rfl) (by kernel_rfl) (laidWorld_met os _)) ?_
  intro W base args ds gs before hval0 hW _ _ hL _
  have hval : ∀ (j : Nat) t v, Tryd.f3.params[j]? = some t → args[j]? = some v → Value.okWide Tryd.prog W .any base t v := hval0
  have hW' := hW
  obtain ⟨p, q, hA0, hV0, rfl, hfz, hnd⟩ := hW
  have hA : DataW.TrodAll enc Tryd.prog W 0 (fun _ => true) true Tryd.f3.params.toList args.toList ds p := hA0
  have hV : DataW.TrodVars enc Tryd.prog W (fun _ => true) ["loop.example/pub-g03342/pub/gnarkcrypto/ecc/bn254/fr.errInvalidEncoding"] gs q := hV0
  rw [Tryd.params3] at hA hval
  obtain ⟨v0, d0, rfl, rfl, h0⟩ := trodAll_one hA
  have h0k := h0
  obtain ⟨o, b, off, len, cap, l, rfl, hl, hby, hc, ho⟩ := open_bytes Tryd.underlying22 Tryd.underlying5 cellsU8 (hval 0 22 v0 rfl rfl) h0
  obtain ⟨a0, s0, hv0, _, _, _⟩ := laid_sentinel hL Tryd.var Tryd.varType Tryd.underlying36 Tryd.rowE Tryd.underlying55 Tryd.underlying57 rfl rfl Tryd.underlying9 cellsES cellsStr
  have hR := fun (W' : World) (h : W'.var? Tryd.prog "loop.example/pub-g03342/pub/gnarkcrypto/ecc/bn254/fr.errInvalidEncoding" = some #[.iface 55 (.pointer (some a0))]) (sp : Nat → Bool) => vars_read1 enc Tryd.var Tryd.varType Tryd.underlying36 h (show IsIface (.iface 55 (.pointer (some a0))) from trivial) sp
  obtain ⟨rfl, rfl⟩ := hV.unique (hR W hv0 _)
  clear hA0 hV0 hval0
  have hg : W.cell? ⟨0, 0, none⟩ = some (.iface 55 (.pointer (some a0))) := by simpa using World.var?_cell Tryd.var hv0 0
  have h00 : 0 < W.heap.size := World.block_lt_of_cell? W _ hg
  have hlt : ∀ x ∈ p, x.block < W.heap.size := fun x hx => hW'.lt x (List.mem_append_left _ hx)
  refine (law_walk hby hg hl hc ho).mono fun e W' ⟨he, hb⟩ => ?_
  subst he
  have hv1 : W'.var? Tryd.prog "loop.example/pub-g03342/pub/gnarkcrypto/ecc/bn254/fr.errInvalidEncoding" = some #[.iface 55 (.pointer (some a0))] := by
    have e := hb.block 0 h00
    unfold World.var? at hv0 ⊢
    rw [Tryd.var] at hv0 ⊢
    simp only [Option.bind_some] at hv0 ⊢
    rw [e]
    exact hv0
  exact ⟨_, rfl, post_of_below (pa := p) (pv := [.cell 0 0]) hW' (fun _ _ _ => trodAll_mk1 (shut_bool Tryd.underlying4 true)) (fun sp hsp => trodAll_mk1 (again_below laidOut (by kernel_rfl) (of_decide_eq_true (by kernel_rfl)) h0k hb hlt (fun x hx => hsp x (List.mem_append_left _ hx)))) (fun sp _ => hR W' hv1 sp) rfl
    hb (ok_one (by kernel_rfl) rfl (okWide_bool_mk Tryd.underlying4 true))⟩
theorem law_holds : Rows.FnNrCanonicalSaid :=
  OpenClaim.holds_of_wide 3 Tryd.f3 rfl rfl rfl rfl rfl rfl rfl ⟨rfl, rfl, rfl, rfl, rfl⟩ rfl rfl rfl rfl rfl (by kernel_rfl) Tryd.func3 (by kernel_rfl)
    (of_decide_eq_true (by kernel_rfl)) (by unfold Func.isWrapper; first | (rw [if_pos (by decide +kernel)]; kernel_rfl) | (rw [if_neg (by decide +kernel)]; exact ⟨rfl, rfl⟩))
    (fun os started H enc _ => law_lifted os started H enc)
theorem card_holds : Rows.FnNrCanonicalCardSaid :=
  Claim7.holds_tied_plain_at .later [] [.sentinel] true (true, "3b5a3590ade5d25267d206cea97e6f8551ea0460ce16e4800a459a35dfab4336") false
    law_holds (fun _ h => by cases h) (by kernel_rfl) (fun _ h => by cases h) fnNrCanonical_row_tie rfl ⟨rfl, rfl⟩ (by kernel_rfl) rfl
    (fun f fn hf hfn => by
      obtain rfl : f = 3 := Option.some.inj ((show Tryd.prog.funcNamed "loop.example/pub-g03342/laws.FnNrCanonical" = some 3 by kernel_rfl).symm.trans hf) |>.symm
      obtain rfl : fn = Tryd.f3 := (Option.some.inj (Tryd.func3.symm.trans hfn)).symm
      exact ⟨by kernel_rfl, fun j t ht => by
        rw [Tryd.params3] at ht
        have h3 : t = 22 := by
          rcases j with _ | j
          · simpa using ht.symm
          · simp at ht
        subst h3
        exact (show Tryd.prog.wantsStandIn 22 = false by kernel_rfl)⟩)
    (by kernel_rfl)
#print axioms card_holds
end Go.Proofs.YtnhhjhkeiplmpaaDoor
