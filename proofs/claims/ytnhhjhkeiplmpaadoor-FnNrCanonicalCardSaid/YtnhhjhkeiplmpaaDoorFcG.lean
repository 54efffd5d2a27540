/-
  A number read from bytes, walked by hand, its calls by their contracts. No conditions.
-/
import Derived.Test.YtnhhjhkeiplmpaaDoorFcF
namespace Go.Proofs.YtnhhjhkeiplmpaaDoor
open Go Eng Go.RowKit
set_option maxRecDepth 100000
def aggW (s : List Int) : Value := .agg (s.map (Value.int .u64)).toArray
def ElemR (l : List Int) (x : Value) (e : Ending) : Prop :=
  (∃ r, vw (wsB l) < vw prime ∧ MulM 4 prime (wsB l) rsq r ∧ e = .returned (.tuple #[aggW r, .nilIface])) ∨ (¬ vw (wsB l) < vw prime ∧ e = .returned (.tuple #[aggW (List.replicate 4 0), x]))
theorem wsB_wd {l : List Int} (ll : l.length = 32) (hl : ∀ x ∈ l, By x) : Wds (wsB l) := by
  rw [wsB_eq ll]
  exact (leW_ok 4 l.reverse (by simpa using ll) fun x hx => hl x (List.mem_reverse.1 hx)).1
theorem lenX {r : List Int} (h : r.length = 4) : ∃ r0 r1 r2 r3, r = [r0, r1, r2, r3] := by
  match r, h with
  | [r0, r1, r2, r3], _ => exact ⟨r0, r1, r2, r3, rfl⟩
theorem ret_arr {fn : Func} {p u : Tmp} {t : TypeId} {d : TypeDesc} {R : Ending → World → Prop} {a : Act} {w : World} {b : Nat} {r : List Int} {x : Value} (h : fn.results = #[.cell p t, .tmp u])
    (hp : a.tmps.getD p undef = .pointer (some ⟨b, 0, none⟩)) (lr : r.length = 4) (hc : Cells w b 0 4 r) (ht : Tryd.prog.underlying t = some d) (hd : d.isRow = true) (hi : (Tryd.prog.info? t).map (·.size) = some 4)
    (hu : a.tmps.getD u undef = x) (hf : a.defers = []) (hR : R (.returned (.tuple #[aggW r, x])) w) : bodyPost Tryd.prog fn R .ret a w :=
  bodyPost_ret (by
    rw [results_cell_tmp h, hp, hu]
    show ((loadVar t ⟨b, 0, none⟩).run Tryd.prog w).andThen _ = _
    rw [run_loadVar_mid w b 0 t (r.map (Value.int .u64)) d (range_of lr hc) ht hd (by rw [List.length_map, lr]; exact hi)]
    rfl) hf hR
theorem elem_call {bk : Nat} {l : List Int} {w : World} {x : Value} (ll : l.length = 32) (hl : ∀ x ∈ l, By x) (hc : CellsB w bk 0 32 l) (hg : w.cell? ⟨0, 0, none⟩ = some x) :
    Calls Tryd.prog 17 #[.agg #[], .pointer (some ⟨bk, 0, none⟩)] w fun e w' => ElemR l x e ∧ Below w.heap.size w w' := by
  have hbk := cellsB_lt (by decide) hc
  have h0 : 0 < w.heap.size := World.block_lt_of_cell? w _ hg
  have hl' := Lib.hid hl
  have hc' := Lib.hid hc
  go_enter Tryd.func17, Tryd.ntmps17
  go_upto_region 2 with fail
  have hM0 := zm_start w (.cells #[] 48) 34
  have q0 : w.heap.size + 1 + 1 < (((w.alloc (.cells #[] 48)).alloc (.cells #[Value.int IntKind.u64 0, Value.int IntKind.u64 0, Value.int IntKind.u64 0, Value.int IntKind.u64 0] 34)).alloc (.cells #[Value.int IntKind.u64 0, Value.int IntKind.u64 0, Value.int IntKind.u64 0, Value.int IntKind.u64 0] 34)).heap.size := by simp
  generalize ((w.alloc (.cells #[] 48)).alloc (.cells #[Value.int IntKind.u64 0, Value.int IntKind.u64 0, Value.int IntKind.u64 0, Value.int IntKind.u64 0] 34)).alloc (.cells #[Value.int IntKind.u64 0, Value.int IntKind.u64 0, Value.int IntKind.u64 0, Value.int IntKind.u64 0] 34) = w0 at *
  generalize hbz : w.heap.size + 1 + 1 = bz at *
  generalize hbr : w.heap.size + 1 = br at *
  go_upto_region 3 with (go_at_call 22; refine (be_call (l := (l.drop 24).take 8) (by simp; omega) (sub_by hl'.out) (sub_cells (cellsB_below hM0.below hbk hc'.out) (by decide))).mono ?_; rintro e w1 ⟨rfl, hb1⟩; have hM := hM0.more hb1; have hc2 := hM.at 0 (by decide); have hf2 := hM.fat 0 (by decide))
  have hM1 := (hM0.more hb1).setZ (by simp) 0 (by decide) (beV ((l.drop 24).take 8))
  clear hM0 hb1
  generalize w1.setCell ⟨bz, 0, none⟩ (.int .u64 (beV ((l.drop 24).take 8))) = v1 at *
  go_upto_region 4 with (go_at_call 22; refine (be_call (l := (l.drop 16).take 8) (by simp; omega) (sub_by hl'.out) (sub_cells (cellsB_below hM1.below hbk hc'.out) (by decide))).mono ?_; rintro e w2 ⟨rfl, hb2⟩; have hM := hM1.more hb2; have hc2 := hM.at 1 (by decide); have hf2 := hM.fat 1 (by decide))
  have hM2 := (hM1.more hb2).setZ (by simp) 1 (by decide) (beV ((l.drop 16).take 8))
  clear hM1 hb2
  generalize w2.setCell ⟨bz, 1, none⟩ (.int .u64 (beV ((l.drop 16).take 8))) = v2 at *
  go_upto_region 5 with (go_at_call 22; refine (be_call (l := (l.drop 8).take 8) (by simp; omega) (sub_by hl'.out) (sub_cells (cellsB_below hM2.below hbk hc'.out) (by decide))).mono ?_; rintro e w3 ⟨rfl, hb3⟩; have hM := hM2.more hb3; have hc2 := hM.at 2 (by decide); have hf2 := hM.fat 2 (by decide))
  have hM3 := (hM2.more hb3).setZ (by simp) 2 (by decide) (beV ((l.drop 8).take 8))
  clear hM2 hb3
  generalize w3.setCell ⟨bz, 2, none⟩ (.int .u64 (beV ((l.drop 8).take 8))) = v3 at *
  go_upto_region 6 with (go_at_call 22; refine (be_call (l := (l.drop 0).take 8) (by simp; omega) (sub_by hl'.out) (sub_cells (cellsB_below hM3.below hbk hc'.out) (by decide))).mono ?_; rintro e w4 ⟨rfl, hb4⟩; have hM := hM3.more hb4; have hc2 := hM.at 3 (by decide); have hf2 := hM.fat 3 (by decide))
  have hM4 := (hM3.more hb4).setZ (by simp) 3 (by decide) (beV ((l.drop 0).take 8))
  simp only [List.drop_zero] at hM4
  clear hM3 hb4
  generalize w4.setCell ⟨bz, 3, none⟩ (.int .u64 (beV (l.take 8))) = v4 at *
  have hM : ZM bz br w v4 (wsB l) (List.replicate 4 0) := hM4
  clear hM4
  have hw := wsB_wd ll hl
  have hgv : v4.cell? ⟨0, 0, none⟩ = some x := (hM.below.cell h0).trans hg
  have hcz := hM.cz
  have hcS := Lib.hid (fun (w' : World) (hb : Below v4.heap.size v4 w') => hM.more hb)
  by_cases hs : vw (wsB l) < vw prime
  · go_upto_region 8 with (go_at_call 23; refine (small_call (xs := wsB l) rfl hw hcz).mono ?_; rw [decide_eq_true hs]; rintro e w5 ⟨rfl, hb5⟩)
    have hM5 := hcS.out _ hb5
    have hcz5 := hM5.cz
    have hfz5 := hM5.fz
    go_upto_region 9 with (go_at_call 24; refine (toM_call (zs := wsB l) rfl hw hcz5 hfz5).mono ?_; rintro e w6 ⟨r, hr, rfl, hcr, hT⟩)
    have hM6 := hM5.touchZ hT hcr
    have hlr := hr.1
    have hR := Lib.hid hr
    clear hT hcr hM5 hcz5 hfz5 hb5 hr
    obtain ⟨r0, r1, r2, r3, rfl⟩ := lenX hlr
    have hrg : w6.rangeAt bz 0 [Value.int IntKind.u64 r0, Value.int IntKind.u64 r1, Value.int IntKind.u64 r2, Value.int IntKind.u64 r3] := range_of (r := [r0, r1, r2, r3]) rfl hM6.cz
    have hth := hM6.thereR
    go_wp2_with (first
      | (refine wpList_load_mid rfl 34 (.tmp 6) rfl bz 0 rfl [Value.int IntKind.u64 r0, Value.int IntKind.u64 r1, Value.int IntKind.u64 r2, Value.int IntKind.u64 r3] _ hrg Tryd.underlying34 rfl (by kernel_rfl) ?_)
      | (refine wpList_store_mid rfl 34 (.tmp 4) (.tmp 32) rfl br 0 #[Value.int IntKind.u64 r0, Value.int IntKind.u64 r1, Value.int IntKind.u64 r2, Value.int IntKind.u64 r3] rfl rfl hth (by kernel_rfl) (by simp [Value.oneCell']) ?_))
    have hM7 := hM6.setR (r := [r0, r1, r2, r3]) rfl
    exact ret_arr (p := 4) (u := 5) rfl rfl rfl hM7.cr Tryd.underlying34 rfl (by kernel_rfl) rfl rfl ⟨Or.inl ⟨_, hs, hR.out, rfl⟩, hM7.below⟩
  · go_upto_region 7 with (go_at_call 23; refine (small_call (xs := wsB l) rfl hw hcz).mono ?_; rw [decide_eq_false hs]; rintro e w5 ⟨rfl, hb5⟩)
    have hM5 := hcS.out _ hb5
    have hg5 : w5.cell? ⟨0, 0, none⟩ = some x := (hM5.below.cell h0).trans hg
    have hz5 := hM5.drew
    have d0 := hM5.rat 0 (by decide)
    have f0 := hM5.rfat 0 (by decide)
    have d1 := hM5.rat 1 (by decide)
    have f1 := hM5.rfat 1 (by decide)
    have d2 := hM5.rat 2 (by decide)
    have f2 := hM5.rfat 2 (by decide)
    have d3 := hM5.rat 3 (by decide)
    have f3 := hM5.rfat 3 (by decide)
    have hrl := hM5.hr
    have n1 : ¬ br = 0 := by omega
    have n2 : ¬ (0 = br) := by omega
    have hM7 : ZM bz br w (w5.setCells br 0 [Value.int IntKind.u64 0, Value.int IntKind.u64 0, Value.int IntKind.u64 0, Value.int IntKind.u64 0]).drew (wsB l) (List.replicate 4 0) := (hM5.setR (r := List.replicate 4 0) rfl).drew
    simp only [World.setCells, Nat.zero_add, Nat.reduceAdd] at hM7
    have hS := Lib.hid hM7
    clear hM7 hz5 hM5 hcS hcz hM hgv hb5 hrl q0 hbr hbz hl hc hg
    simp only [List.getD_cons_zero, List.getD_cons_succ, List.replicate] at d0 d1 d2 d3
    go_region_with fail
    all_goals
      go_wp2
      exact ret_arr (p := 4) (u := 5) rfl rfl rfl hS.out.cr Tryd.underlying34 rfl (by kernel_rfl) rfl rfl ⟨Or.inr ⟨by omega, rfl⟩, hS.out.below⟩
end Go.Proofs.YtnhhjhkeiplmpaaDoor
