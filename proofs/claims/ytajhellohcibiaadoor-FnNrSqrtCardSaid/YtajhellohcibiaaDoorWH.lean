/-
  A list of arrays of words that came in, opened at every element; read again behind a call that left what is below. No conditions.
-/
import Derived.Test.YtajhellohcibiaaDoorEngC
import Derived.Deep.Slices
import Derived.Carry
namespace Eng
open Go Go.RowKit Go.ChangeShapes Go.WideShapes
section
variable {H : Type} {enc : TypeId × Value → H} {P : Program} {w : World} {base : Nat} {spare : Nat → Bool} {held : Bool}
theorem open_arrs {n : Nat} (hn : 0 < n) {t e el : TypeId} (ht : P.underlying t = some (.slice e)) (he : P.underlying e = some (.array n el)) (hel : P.underlying el = some (.int .u64)) (hce : P.cellsOf e = n) (hcel : P.cellsOf el = 1)
    {v : Value} {d : DataW H} {p : List MemPlace} {r : Reach} {b0 : Nat} (hval : Value.okWide P w r b0 t v) (h : DataW.Trod enc P w base spare held t v d p) :
    ∃ (o : Option Addr) (b off len cap : Nat) (X : Nat → List Int), v = .slice o len cap ∧ (0 < len → o = some ⟨b, off, none⟩) ∧ (∀ i, i < len → (X i).length = n ∧ Wds (X i)) ∧
      ∀ i, i < len → ∀ j, j < n → w.cell? ⟨b, off + i * n + j, none⟩ = some (.int .u64 ((X i).getD j 0)) := by
  obtain ⟨o, len, cap, rfl⟩ := okWide_slice ht hval
  obtain ⟨fuel, hf⟩ := h
  rcases Go.Deep.open_slice ht hf with ⟨h0, _⟩ | ⟨a, len', cap', m, k, D, Pl, hcs, _, hl, _, hm, _, hx⟩
  · simp [Value.cells] at h0
    obtain ⟨rfl, rfl, rfl⟩ := h0
    exact ⟨none, 0, 0, 0, 0, fun _ => [], rfl, fun h => absurd h (by omega), fun i hi => absurd hi (by omega), fun i hi => absurd hi (by omega)⟩
  · simp [Value.cells] at hcs
    obtain ⟨rfl, rfl, rfl⟩ := hcs
    have hlm : len ≤ m := by rw [hm]; split <;> omega
    have each : ∀ i, i < len → ∃ zs : List Int, zs.length = n ∧ Wds zs ∧ ∀ j, j < n → w.cell? ((a.add (i * n)).add j) = some (.int .u64 (zs.getD j 0)) := fun i hi => by
      obtain ⟨cs', h1, h2⟩ := hx i (by omega)
      rw [hce] at h1
      obtain ⟨_, hlen, hcell⟩ := World.cells?_some h1
      obtain ⟨xs, m', _, hxx, hl', hxl, hi'⟩ := DataW.trod_array he h2
      obtain ⟨zs, e1, _, e3⟩ := words_of hel cs' xs (by rw [hxl, hlen]) (fun j hj => by
        have := hi' j (by rw [← hlen]; exact hj)
        simpa [hcel] using this)
      subst e1
      have hzl : zs.length = n := by simpa using hlen
      refine ⟨zs, hzl, fun z hz => wd_wf (e3 z hz), fun j hj => ?_⟩
      have := hcell j hj
      rw [this, List.getElem?_map, List.getD_eq_getElem?_getD, List.getElem?_eq_getElem (by omega)]
      rfl
    obtain ⟨X, hX⟩ := Go.Deep.choose_lt each
    obtain ⟨b, off, spot⟩ := a
    have plain : 0 < len → spot = none := fun hp => by
      have := (hX 0 hp).2.2 0 hn
      simpa [Addr.add] using World.cell?_spot this
    refine ⟨some ⟨b, off, spot⟩, b, off, len, cap, X, rfl, fun hp => by rw [plain hp], fun i hi => ⟨(hX i hi).1, (hX i hi).2.1⟩, fun i hi j hj => ?_⟩
    have := (hX i hi).2.2 j hj
    have hs := plain (by omega)
    subst hs
    rw [add_plain, add_plain] at this
    exact this
/-- Read again. -/
theorem again_below {t : TypeId} (hl : laidOutB P = true) (hr : P.readableRec t = true) (hrow : t < P.types.size) {W W' : World} {v : Value} {d : DataW H} {ps : List MemPlace}
    (h : DataW.Trod enc P W 0 (fun _ => true) true t v d ps) (hb : Below W.heap.size W W') (hlt : ∀ x ∈ ps, x.block < W.heap.size) {sp : Nat → Bool} (hsp : ∀ x ∈ ps, sp x.block = true) :
    DataW.Trod enc P W' 0 sp true t v d ps :=
  WideElems.Trod_stays hl hr hrow h (fun x hx => hb.same (hlt x hx)) hsp
end
end Eng
