/-
  Bytes read as an element, or an error; walked by hand, its calls by their contracts. No conditions.
-/
import Derived.Test.YtnhhjhkeiplmpaaDoorFcG
import Derived.Laws.Cover3
namespace Go.Proofs.YtnhhjhkeiplmpaaDoor
open Go Eng Go.RowKit
set_option maxRecDepth 100000
/-! ### SetBytesCanonical -/
theorem elem_ok {bk : Nat} {l : List Int} {w : World} {x : Value} (ll : l.length = 32) (hl : ∀ x ∈ l, By x) (hc : CellsB w bk 0 32 l) (hg : w.cell? ⟨0, 0, none⟩ = some x) (hs : vw (wsB l) < vw prime) :
    Calls Tryd.prog 17 #[.agg #[], .pointer (some ⟨bk, 0, none⟩)] w fun e w' => (∃ r0 r1 r2 r3, MulM 4 prime (wsB l) rsq [r0, r1, r2, r3] ∧ e = .returned (.tuple #[.agg #[Value.int IntKind.u64 r0, Value.int IntKind.u64 r1, Value.int IntKind.u64 r2, Value.int IntKind.u64 r3], .nilIface])) ∧ Below w.heap.size w w' :=
  (elem_call ll hl hc hg).mono fun e w' ⟨h, hb⟩ => by
    rcases h with ⟨r, _, hr, he⟩ | ⟨h, _⟩
    · obtain ⟨r0, r1, r2, r3, rfl⟩ := lenX hr.1
      exact ⟨⟨r0, r1, r2, r3, hr, he⟩, hb⟩
    · exact absurd hs h
theorem elem_no {bk : Nat} {l : List Int} {w : World} {x : Value} (ll : l.length = 32) (hl : ∀ x ∈ l, By x) (hc : CellsB w bk 0 32 l) (hg : w.cell? ⟨0, 0, none⟩ = some x) (hs : ¬ vw (wsB l) < vw prime) :
    Calls Tryd.prog 17 #[.agg #[], .pointer (some ⟨bk, 0, none⟩)] w fun e w' => e = .returned (.tuple #[.agg #[Value.int IntKind.u64 0, Value.int IntKind.u64 0, Value.int IntKind.u64 0, Value.int IntKind.u64 0], x]) ∧ Below w.heap.size w w' :=
  (elem_call ll hl hc hg).mono fun e w' ⟨h, hb⟩ => by
    rcases h with ⟨r, h, _⟩ | ⟨_, he⟩
    · exact absurd h hs
    · exact ⟨he, hb⟩
theorem touch_of_below {w w' : World} {b o n : Nat} (h : Below w.heap.size w w') : Eng.Touch w b o n w' :=
  ⟨h.os, h.tape, h.output, h.size, fun k hk _ => h.block k hk, fun _ _ hb _ => h.cell hb, fun _ _ hb => h.frozen hb⟩
theorem Touch.trans {w w1 w2 : World} {b o n : Nat} (h1 : Eng.Touch w b o n w1) (h2 : Eng.Touch w1 b o n w2) : Eng.Touch w b o n w2 := by
  have s1 := h1.size
  exact ⟨h2.os.trans h1.os, h2.tape.trans h1.tape, h2.output.trans h1.output, Nat.le_trans h1.size h2.size, fun k hk hh => (h2.block k (by omega) hh).trans (h1.block k hk hh), fun b' o' hb hh => (h2.cell b' o' (by omega) hh).trans (h1.cell b' o' hb hh), fun b' o' hb => (h2.frozen b' o' (by omega)).trans (h1.frozen b' o' hb)⟩
theorem setB_long {bz len cap : Nat} {o : Option Addr} {w : World} (hn : len ≠ 32) :
    Calls Tryd.prog 10 #[.pointer (some ⟨bz, 0, none⟩), .slice o len cap] w fun e w' => (∃ t a, e = .returned (.iface t (.pointer (some a)))) ∧ Below w.heap.size w w' := by
  have h0 : ((len : Int) == 32) = false := by
    rw [beq_eq_false_iff_ne]
    omega
  go_enter Tryd.func10, Tryd.ntmps10
  go_wp2_with go_in
  go_ret
  exact ⟨⟨_, _, rfl⟩, (Below.refl _ _).alloc (Nat.le_refl _) _⟩
theorem setB_no {bz bk cap t : Nat} {a : Addr} {l : List Int} {w : World} (ll : l.length = 32) (hl : ∀ x ∈ l, By x) (hc : CellsB w bk 0 32 l) (hg : w.cell? ⟨0, 0, none⟩ = some (.iface t (.pointer (some a)))) (hs : ¬ vw (wsB l) < vw prime) :
    Calls Tryd.prog 10 #[.pointer (some ⟨bz, 0, none⟩), .slice (some ⟨bk, 0, none⟩) 32 cap] w fun e w' => e = .returned (.iface t (.pointer (some a))) ∧ Below w.heap.size w w' := by
  have hA : ∀ w : World, (Instr.arrayAt 42 (.slice (some ⟨bk, 0, none⟩) 32 cap)).run Tryd.prog w = .ok (.pointer (some ⟨bk, 0, none⟩)) w := fun w => run_arrayAt w 42 _ 32 _ _ _ Tryd.underlying42 (Nat.le_refl _)
  go_enter Tryd.func10, Tryd.ntmps10
  have hl' := Lib.hid hl
  have hc' := Lib.hid hc
  clear hl hc
  go_upto_region 4 with (go_at_call 17; refine (elem_no ll hl'.out hc'.out hg hs).mono ?_; rintro e w1 ⟨rfl, hb⟩)
  have hb2 : Below w.heap.size w (w1.alloc (.cells #[Value.int IntKind.u64 0, Value.int IntKind.u64 0, Value.int IntKind.u64 0, Value.int IntKind.u64 0] 34)) := hb.trans (((Below.refl w1.heap.size w1).alloc (Nat.le_refl _) _).mono hb.size)
  go_wp2
  go_ret
  exact ⟨rfl, hb2⟩
theorem setB_ok {bz bk cap : Nat} {x : Value} {l zs : List Int} {w : World} (ll : l.length = 32) (hl : ∀ x ∈ l, By x) (hc : CellsB w bk 0 32 l) (hg : w.cell? ⟨0, 0, none⟩ = some x) (hs : vw (wsB l) < vw prime) (hz : Cells w bz 0 4 zs) (hf : Froz w bz 0) :
    Calls Tryd.prog 10 #[.pointer (some ⟨bz, 0, none⟩), .slice (some ⟨bk, 0, none⟩) 32 cap] w fun e w' => (∃ r0 r1 r2 r3, MulM 4 prime (wsB l) rsq [r0, r1, r2, r3] ∧ Cells w' bz 0 4 [r0, r1, r2, r3]) ∧ e = .returned .nilIface ∧ Eng.Touch w bz 0 4 w' := by
  have hA : ∀ w : World, (Instr.arrayAt 42 (.slice (some ⟨bk, 0, none⟩) 32 cap)).run Tryd.prog w = .ok (.pointer (some ⟨bk, 0, none⟩)) w := fun w => run_arrayAt w 42 _ 32 _ _ _ Tryd.underlying42 (Nat.le_refl _)
  go_enter Tryd.func10, Tryd.ntmps10
  have hl' := Lib.hid hl
  have hc' := Lib.hid hc
  have hz' := Lib.hid hz
  have hf' := Lib.hid hf
  have hbz := cells_lt (by decide) hz
  clear hl hc hz hf
  go_upto_region 4 with (go_at_call 17; refine (elem_ok ll hl'.out hc'.out hg hs).mono ?_; rintro e w1 ⟨⟨r0, r1, r2, r3, hr, rfl⟩, hb⟩)
  have hR := Lib.hid hr
  clear hr hA
  have hb1 : Below w1.heap.size w1 (w1.alloc (.cells #[Value.int IntKind.u64 r0, Value.int IntKind.u64 r1, Value.int IntKind.u64 r2, Value.int IntKind.u64 r3] 34)) := (Below.refl w1.heap.size w1).alloc (Nat.le_refl _) _
  have hcr : Cells (w1.alloc (.cells #[Value.int IntKind.u64 r0, Value.int IntKind.u64 r1, Value.int IntKind.u64 r2, Value.int IntKind.u64 r3] 34)) w1.heap.size 0 4 [r0, r1, r2, r3] := fun j hj => by
    rw [Nat.zero_add, World.cell?_alloc_new]
    match j, hj with
    | 0, _ | 1, _ | 2, _ | 3, _ => rfl
  have hs1 := hb.size
  generalize w1.alloc (.cells #[Value.int IntKind.u64 r0, Value.int IntKind.u64 r1, Value.int IntKind.u64 r2, Value.int IntKind.u64 r3] 34) = w2 at *
  have hb2 : Below w.heap.size w w2 := hb.trans (hb1.mono hs1)
  have hrg : w2.rangeAt w1.heap.size 0 [Value.int IntKind.u64 r0, Value.int IntKind.u64 r1, Value.int IntKind.u64 r2, Value.int IntKind.u64 r3] := range_of (r := [r0, r1, r2, r3]) rfl hcr
  have hcz : Cells w2 bz 0 4 zs := cells_below hb2 hbz hz'.out
  have hth : w2.there bz 0 4 := fun j hj => ⟨by rw [hcz j hj]; rfl, by rw [hb2.frozen hbz]; exact hf'.out j hj⟩
  have hT : Eng.Touch w bz 0 4 (w2.setCells bz 0 [Value.int IntKind.u64 r0, Value.int IntKind.u64 r1, Value.int IntKind.u64 r2, Value.int IntKind.u64 r3]) := Touch.trans (touch_of_below hb2) (touch_setCells [Value.int IntKind.u64 r0, Value.int IntKind.u64 r1, Value.int IntKind.u64 r2, Value.int IntKind.u64 r3] _ _ (Nat.le_refl _) (by simp) (Kept.refl _ _))
  have hcs : Cells (w2.setCells bz 0 [Value.int IntKind.u64 r0, Value.int IntKind.u64 r1, Value.int IntKind.u64 r2, Value.int IntKind.u64 r3]) bz 0 4 [r0, r1, r2, r3] := setCells_cells (r := [r0, r1, r2, r3]) rfl hcz
  have hT' := Lib.hid hT
  have hcs' := Lib.hid hcs
  clear hb hb1 hcr hcz hb2 hT hcs
  go_wp2_with (first
    | (refine wpList_load_mid rfl 34 (.tmp 5) rfl w1.heap.size 0 rfl [Value.int IntKind.u64 r0, Value.int IntKind.u64 r1, Value.int IntKind.u64 r2, Value.int IntKind.u64 r3] _ hrg Tryd.underlying34 rfl (by kernel_rfl) ?_)
    | (refine wpList_store_mid rfl 34 (.tmp 23) (.tmp 22) rfl bz 0 #[Value.int IntKind.u64 r0, Value.int IntKind.u64 r1, Value.int IntKind.u64 r2, Value.int IntKind.u64 r3] rfl rfl hth (by kernel_rfl) (by simp [Value.oneCell']) ?_))
  go_ret
  exact ⟨⟨r0, r1, r2, r3, hR.out, hcs'.out⟩, rfl, hT'.out⟩
end Go.Proofs.YtnhhjhkeiplmpaaDoor
