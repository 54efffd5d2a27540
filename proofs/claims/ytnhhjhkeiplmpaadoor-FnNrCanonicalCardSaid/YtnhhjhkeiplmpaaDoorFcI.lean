/-
  Bytes read as an array, or not; walked by hand, its calls by their contracts. No conditions.
-/
import Derived.Test.YtnhhjhkeiplmpaaDoorFcH
namespace Go.Proofs.YtnhhjhkeiplmpaaDoor
open Go Eng Go.RowKit
set_option maxRecDepth 100000
theorem infoU8 : (Tryd.prog.info? 5).map (fun i => (i.zero, i.size, i.bytes)) = some (some (.int .u8 0), 1, 1) := by kernel_rfl
theorem clone_at {a : Addr} {len cap : Nat} {l : List Int} {w : World} (hl : l.length = len) (hc : ∀ j, j < len → w.cell? (a.add j) = some (.int .u8 (l.getD j 0))) (hlen : len ≤ 2147483647) :
    Calls Tryd.prog 11 #[.slice (some a) len cap] w fun e w' => ∃ o' g cap', e = .returned (.slice o' len cap') ∧ (0 < len → o' = some ⟨g, 0, none⟩ ∧ w.heap.size ≤ g) ∧ CellsB w' g 0 len l ∧ Below w.heap.size w w' := by
  obtain ⟨i0, hi, hz0, hz1, hz2⟩ := info_parts infoU8
  go_enter Tryd.func11, Tryd.ntmps11
  go_wp2
  rw [Lib.run_eql_slice_some_nil w _ _ _ Tryd.underlying22]
  go_wp2_with (first
    | (at_builtin; refine wpList_append_own _ rfl _ _ 22 rfl w.heap.size 5 i0 (.int .u8 0) 1 1 Tryd.underlying22 hi hz0 hz1 hz2 rfl (by decide) _ _ _ rfl (World.ownsRow_made w #[] 0 (Nat.le_refl _) (by unfold maxLen; omega) rfl) a len cap (l.map (.int .u8)) rfl ?c1 ?c2 ?c3 ?c4 ?c5 ?c6 ?rest)
    | go_in)
  case c1 => simp [hl]
  case c2 =>
    intro j u hj
    rw [List.getElem?_map] at hj
    have hjl : j < l.length := by
      rcases Nat.lt_or_ge j l.length with h | h
      · exact h
      · rw [List.getElem?_eq_none h] at hj; cases hj
    rw [List.getElem?_eq_getElem hjl] at hj
    obtain rfl := Option.some.inj hj
    have := hc j (by omega)
    rw [List.getD_eq_getElem?_getD, List.getElem?_eq_getElem hjl] at this
    have hb := World.block_lt_of_cell? w _ this
    have hB1 : Below w.heap.size w (w.alloc (.cells #[] 5)) := (Below.refl w.heap.size w).alloc (Nat.le_refl _) _
    have h6 := (hB1.cell hb).trans this
    by_cases h0 : j = 0
    · subst h0; simpa [Addr.add] using h6
    · simpa [Addr.add, h0] using h6
  case c3 =>
    intro u hu
    obtain ⟨x, _, rfl⟩ := List.mem_map.1 hu
    rfl
  case c4 => unfold maxLen; omega
  case c5 => omega
  case c6 => simp
  · intro v' w1 hown' hgrow _
    have hB : Below w.heap.size w w1 := ((Below.refl w.heap.size w).alloc (Nat.le_refl _) _).grown hgrow (by simp) (fun k hk => by
      have hk : some w.heap.size = some k := hk
      cases hk
      exact Nat.le_refl _)
    clear hgrow
    go_wp2
    go_ret
    rcases hown'.2 with ⟨rfl, h0⟩ | ⟨g, c', cur, rfl, hg, hcell, h1, h2, h3, h4⟩
    · have : len = 0 := by omega
      subst this
      exact ⟨none, 0, 0, rfl, fun h => absurd h (by omega), fun j hj => absurd hj (by omega), hB⟩
    · refine ⟨some ⟨g, 0, none⟩, g, c', by simp, fun _ => ⟨rfl, hg⟩, fun j hj => ?_, hB⟩
      have hjl : j < l.length := by omega
      have e : cur.toList[j]? = some (.int .u8 (l.getD j 0)) := by
        have h5 : (cur.toList.take (len * 1))[j]? = some (.int .u8 (l.getD j 0)) := by
          rw [h4, List.getElem?_map, List.getElem?_eq_getElem hjl, List.getD_eq_getElem?_getD, List.getElem?_eq_getElem hjl]
          rfl
        rw [List.getElem?_take] at h5
        split at h5
        · exact h5
        · cases h5
      rw [Nat.zero_add]
      simpa [World.cell?, hcell] using e
theorem clone_call {o : Option Addr} {b off len cap : Nat} {l : List Int} {w : World} (hl : l.length = len) (hc : CellsB w b off len l) (ho : o = none ∧ len = 0 ∧ cap = 0 ∨ len = 0 ∧ o.isSome = true ∨ o = some ⟨b, off, none⟩) (hlen : len ≤ 2147483647) :
    Calls Tryd.prog 11 #[.slice o len cap] w fun e w' => ∃ o' g cap', e = .returned (.slice o' len cap') ∧ (0 < len → o' = some ⟨g, 0, none⟩ ∧ w.heap.size ≤ g) ∧ CellsB w' g 0 len l ∧ Below w.heap.size w w' := by
  rcases ho with ⟨rfl, rfl, rfl⟩ | ⟨rfl, h0⟩ | rfl
  · go_enter Tryd.func11, Tryd.ntmps11
    go_wp2
    rw [Lib.run_eql_slice_nil_nil w _ _ Tryd.underlying22]
    go_wp2
    go_ret
    exact ⟨none, 0, 0, rfl, fun h => absurd h (by omega), fun j hj => absurd hj (by omega), Below.refl _ _⟩
  · obtain ⟨a, rfl⟩ := Option.isSome_iff_exists.1 h0
    exact clone_at hl (fun j hj => absurd hj (by omega)) hlen
  · exact clone_at hl (fun j hj => by
      have := hc j hj
      by_cases h0 : j = 0
      · subst h0; simpa [Addr.add] using this
      · simpa [Addr.add, h0] using this) hlen
theorem zm_start2 (w : World) (t t' : TypeId) : ZM (w.heap.size + 1) w.heap.size w ((w.alloc (.cells #[Value.int IntKind.u64 0, Value.int IntKind.u64 0, Value.int IntKind.u64 0, Value.int IntKind.u64 0] t)).alloc (.cells #[Value.int IntKind.u64 0, Value.int IntKind.u64 0, Value.int IntKind.u64 0, Value.int IntKind.u64 0] t')) (List.replicate 4 0) (List.replicate 4 0) := by
  have e1 : (w.alloc (.cells #[Value.int IntKind.u64 0, Value.int IntKind.u64 0, Value.int IntKind.u64 0, Value.int IntKind.u64 0] t)).heap.size = w.heap.size + 1 := by simp
  have c1 : Cells (w.alloc (.cells #[Value.int IntKind.u64 0, Value.int IntKind.u64 0, Value.int IntKind.u64 0, Value.int IntKind.u64 0] t)) w.heap.size 0 4 (List.replicate 4 0) := fun j hj => by
    rw [Nat.zero_add, World.cell?_alloc_new]
    match j, hj with
    | 0, _ | 1, _ | 2, _ | 3, _ => rfl
  have f1 : ∀ o, (w.alloc (.cells #[Value.int IntKind.u64 0, Value.int IntKind.u64 0, Value.int IntKind.u64 0, Value.int IntKind.u64 0] t)).frozen? ⟨w.heap.size, o, none⟩ = false := fun o => by simp
  have b1 := (Below.refl w.heap.size w).alloc (Nat.le_refl _) (.cells #[Value.int IntKind.u64 0, Value.int IntKind.u64 0, Value.int IntKind.u64 0, Value.int IntKind.u64 0] t)
  generalize w.alloc (.cells #[Value.int IntKind.u64 0, Value.int IntKind.u64 0, Value.int IntKind.u64 0, Value.int IntKind.u64 0] t) = w1 at *
  have c2 : Cells (w1.alloc (.cells #[Value.int IntKind.u64 0, Value.int IntKind.u64 0, Value.int IntKind.u64 0, Value.int IntKind.u64 0] t')) w1.heap.size 0 4 (List.replicate 4 0) := fun j hj => by
    rw [Nat.zero_add, World.cell?_alloc_new]
    match j, hj with
    | 0, _ | 1, _ | 2, _ | 3, _ => rfl
  have f2 : ∀ o, (w1.alloc (.cells #[Value.int IntKind.u64 0, Value.int IntKind.u64 0, Value.int IntKind.u64 0, Value.int IntKind.u64 0] t')).frozen? ⟨w1.heap.size, o, none⟩ = false := fun o => by simp
  have b2 := (Below.refl w1.heap.size w1).alloc (Nat.le_refl _) (.cells #[Value.int IntKind.u64 0, Value.int IntKind.u64 0, Value.int IntKind.u64 0, Value.int IntKind.u64 0] t')
  generalize w1.alloc (.cells #[Value.int IntKind.u64 0, Value.int IntKind.u64 0, Value.int IntKind.u64 0, Value.int IntKind.u64 0] t') = w2 at *
  rw [e1] at c2 f2
  refine ⟨b1.trans (b2.mono (by omega)), c2, fun j hj => f2 _, cells_below b2 (by omega) c1, fun j hj => ?_, by omega, by omega, by omega⟩
  rw [b2.frozen (show w.heap.size < w1.heap.size by omega)]
  exact f1 _
theorem set_long {o : Option Addr} {b off len cap : Nat} {l : List Int} {w : World} (hn : len ≠ 32)
    (hl : l.length = len) (hc : CellsB w b off len l) (ho : o = none ∧ len = 0 ∧ cap = 0 ∨ len = 0 ∧ o.isSome = true ∨ o = some ⟨b, off, none⟩) (hlen : len ≤ 2147483647) :
    Calls Tryd.prog 4 #[.slice o len cap] w fun e w' => e = .returned (.tuple #[.agg #[Value.int IntKind.u64 0, Value.int IntKind.u64 0, Value.int IntKind.u64 0, Value.int IntKind.u64 0], .bool false]) ∧ Below w.heap.size w w' := by
  have hc0 := Lib.hid hc
  clear hc
  go_enter Tryd.func4, Tryd.ntmps4
  go_upto_region 2 with fail
  have hM0 := zm_start2 w 24 34
  have q0 : w.heap.size + 1 < ((w.alloc (.cells #[Value.int IntKind.u64 0, Value.int IntKind.u64 0, Value.int IntKind.u64 0, Value.int IntKind.u64 0] 24)).alloc (.cells #[Value.int IntKind.u64 0, Value.int IntKind.u64 0, Value.int IntKind.u64 0, Value.int IntKind.u64 0] 34)).heap.size := by simp
  generalize (w.alloc (.cells #[Value.int IntKind.u64 0, Value.int IntKind.u64 0, Value.int IntKind.u64 0, Value.int IntKind.u64 0] 24)).alloc (.cells #[Value.int IntKind.u64 0, Value.int IntKind.u64 0, Value.int IntKind.u64 0, Value.int IntKind.u64 0] 34) = w0 at *
  generalize hbz : w.heap.size + 1 = bz at *
  generalize hbr : w.heap.size = br at *
  subst hbr
  have hc1 := Lib.hid (cellsB_more hM0.below hc0.out)
  go_wp2_with (first
    | (go_at_call 11; refine (clone_call hl hc1.out ho hlen).mono ?_; rintro e wc ⟨o', g, cap', rfl, -, -, hbc⟩)
    | (go_at_call 10; refine (setB_long hn).mono ?_; rintro e w2 ⟨⟨t, a, rfl⟩, hb2⟩; have hM := (hM0.more hbc).more hb2; have hth := hM.thereR; have hS := Lib.hid (hM.setR (r := List.replicate 4 0) rfl); clear hM hb2 hbc)
    | (refine wpList_store_mid rfl 24 (.tmp 2) (.tmp 9) rfl w.heap.size 0 #[Value.int IntKind.u64 0, Value.int IntKind.u64 0, Value.int IntKind.u64 0, Value.int IntKind.u64 0] rfl rfl hth (by kernel_rfl) (by simp [Value.oneCell']) ?_))
  exact ret_arr (p := 2) (u := 3) (r := List.replicate 4 0) rfl rfl rfl hS.out.cr Tryd.underlying24 rfl (by kernel_rfl) rfl rfl ⟨rfl, hS.out.below⟩
theorem set_no {o : Option Addr} {b off len cap : Nat} {l : List Int} {w : World} {t : TypeId} {a : Addr} (hb : ∀ x ∈ l, By x) (hn : len = 32) (hg : w.cell? ⟨0, 0, none⟩ = some (.iface t (.pointer (some a)))) (hs : ¬ vw (wsB l) < vw prime)
    (hl : l.length = len) (hc : CellsB w b off len l) (ho : o = none ∧ len = 0 ∧ cap = 0 ∨ len = 0 ∧ o.isSome = true ∨ o = some ⟨b, off, none⟩) (hlen : len ≤ 2147483647) :
    Calls Tryd.prog 4 #[.slice o len cap] w fun e w' => e = .returned (.tuple #[.agg #[Value.int IntKind.u64 0, Value.int IntKind.u64 0, Value.int IntKind.u64 0, Value.int IntKind.u64 0], .bool false]) ∧ Below w.heap.size w w' := by
  have hc0 := Lib.hid hc
  clear hc
  go_enter Tryd.func4, Tryd.ntmps4
  go_upto_region 2 with fail
  have hM0 := zm_start2 w 24 34
  have q0 : w.heap.size + 1 < ((w.alloc (.cells #[Value.int IntKind.u64 0, Value.int IntKind.u64 0, Value.int IntKind.u64 0, Value.int IntKind.u64 0] 24)).alloc (.cells #[Value.int IntKind.u64 0, Value.int IntKind.u64 0, Value.int IntKind.u64 0, Value.int IntKind.u64 0] 34)).heap.size := by simp
  generalize (w.alloc (.cells #[Value.int IntKind.u64 0, Value.int IntKind.u64 0, Value.int IntKind.u64 0, Value.int IntKind.u64 0] 24)).alloc (.cells #[Value.int IntKind.u64 0, Value.int IntKind.u64 0, Value.int IntKind.u64 0, Value.int IntKind.u64 0] 34) = w0 at *
  generalize hbz : w.heap.size + 1 = bz at *
  generalize hbr : w.heap.size = br at *
  subst hbr
  have hc1 := Lib.hid (cellsB_more hM0.below hc0.out)
  have h0 : 0 < w.heap.size := World.block_lt_of_cell? w _ hg
  have hg0 : w0.cell? ⟨0, 0, none⟩ = some (.iface t (.pointer (some a))) := (hM0.below.cell h0).trans hg
  have h00 : 0 < w0.heap.size := World.block_lt_of_cell? w0 _ hg0
  have hb' := Lib.hid hb
  clear hb
  subst hn
  have hs' := Lib.hid hs
  clear hs
  go_wp2_with (first
    | (go_at_call 11; refine (clone_call hl hc1.out ho hlen).mono ?_; rintro e wc ⟨o', g, cap', rfl, ho', hcc, hbc⟩; obtain ⟨rfl, hgw⟩ := ho' (by decide); have hgc := (hbc.cell h00).trans hg0)
    | (go_at_call 10; refine (setB_no hl hb'.out hcc hgc (by have := hs'.out; omega)).mono ?_; rintro e w2 ⟨rfl, hb2⟩; have hM := (hM0.more hbc).more hb2; have hth := hM.thereR; have hS := Lib.hid (hM.setR (r := List.replicate 4 0) rfl); clear hM hb2 hbc)
    | (refine wpList_store_mid rfl 24 (.tmp 2) (.tmp 9) rfl w.heap.size 0 #[Value.int IntKind.u64 0, Value.int IntKind.u64 0, Value.int IntKind.u64 0, Value.int IntKind.u64 0] rfl rfl hth (by kernel_rfl) (by simp [Value.oneCell']) ?_))
  exact ret_arr (p := 2) (u := 3) (r := List.replicate 4 0) rfl rfl rfl hS.out.cr Tryd.underlying24 rfl (by kernel_rfl) rfl rfl ⟨rfl, hS.out.below⟩
theorem set_ok {o : Option Addr} {b off len cap : Nat} {l : List Int} {w : World} {x : Value} (hb : ∀ x ∈ l, By x) (hn : len = 32) (hg : w.cell? ⟨0, 0, none⟩ = some x) (hs : vw (wsB l) < vw prime)
    (hl : l.length = len) (hc : CellsB w b off len l) (ho : o = none ∧ len = 0 ∧ cap = 0 ∨ len = 0 ∧ o.isSome = true ∨ o = some ⟨b, off, none⟩) (hlen : len ≤ 2147483647) :
    Calls Tryd.prog 4 #[.slice o len cap] w fun e w' => (∃ r0 r1 r2 r3, MulM 4 prime (wsB l) rsq [r0, r1, r2, r3] ∧ e = .returned (.tuple #[.agg #[Value.int IntKind.u64 r0, Value.int IntKind.u64 r1, Value.int IntKind.u64 r2, Value.int IntKind.u64 r3], .bool true])) ∧ Below w.heap.size w w' := by
  have hc0 := Lib.hid hc
  clear hc
  go_enter Tryd.func4, Tryd.ntmps4
  go_upto_region 2 with fail
  have hM0 := zm_start2 w 24 34
  have q0 : w.heap.size + 1 < ((w.alloc (.cells #[Value.int IntKind.u64 0, Value.int IntKind.u64 0, Value.int IntKind.u64 0, Value.int IntKind.u64 0] 24)).alloc (.cells #[Value.int IntKind.u64 0, Value.int IntKind.u64 0, Value.int IntKind.u64 0, Value.int IntKind.u64 0] 34)).heap.size := by simp
  generalize (w.alloc (.cells #[Value.int IntKind.u64 0, Value.int IntKind.u64 0, Value.int IntKind.u64 0, Value.int IntKind.u64 0] 24)).alloc (.cells #[Value.int IntKind.u64 0, Value.int IntKind.u64 0, Value.int IntKind.u64 0, Value.int IntKind.u64 0] 34) = w0 at *
  generalize hbz : w.heap.size + 1 = bz at *
  generalize hbr : w.heap.size = br at *
  subst hbr
  have hc1 := Lib.hid (cellsB_more hM0.below hc0.out)
  have h0 : 0 < w.heap.size := World.block_lt_of_cell? w _ hg
  have hg0 : w0.cell? ⟨0, 0, none⟩ = some x := (hM0.below.cell h0).trans hg
  have h00 : 0 < w0.heap.size := World.block_lt_of_cell? w0 _ hg0
  have hb' := Lib.hid hb
  clear hb
  subst hn
  go_upto_region 4 with (first
    | (go_at_call 11; refine (clone_call hl hc1.out ho hlen).mono ?_; rintro e wc ⟨o', g, cap', rfl, ho', hcc, hbc⟩; obtain ⟨rfl, hgw⟩ := ho' (by decide); have hgc := (hbc.cell h00).trans hg0; have hMc := hM0.more hbc; have hcz := hMc.cz; have hfz := hMc.fz)
    | (go_at_call 10; refine (setB_ok hl hb'.out hcc hgc hs hcz hfz).mono ?_; rintro e w2 ⟨⟨r0, r1, r2, r3, hr, hcr⟩, rfl, hT⟩; have hM := hMc.touchZ hT hcr; have hth := hM.thereR; have hrg : w2.rangeAt bz 0 [Value.int IntKind.u64 r0, Value.int IntKind.u64 r1, Value.int IntKind.u64 r2, Value.int IntKind.u64 r3] := range_of (r := [r0, r1, r2, r3]) rfl hM.cz; have hS := Lib.hid (hM.setR (r := [r0, r1, r2, r3]) rfl); have hR := Lib.hid hr; clear hM hbc hMc hcr hT hr))
  go_wp2_with (first
    | (refine wpList_load_mid rfl 34 (.tmp 4) rfl bz 0 rfl [Value.int IntKind.u64 r0, Value.int IntKind.u64 r1, Value.int IntKind.u64 r2, Value.int IntKind.u64 r3] _ hrg Tryd.underlying34 rfl (by kernel_rfl) ?_)
    | (refine wpList_store_mid rfl 24 (.tmp 2) (.tmp 10) rfl w.heap.size 0 #[Value.int IntKind.u64 r0, Value.int IntKind.u64 r1, Value.int IntKind.u64 r2, Value.int IntKind.u64 r3] rfl rfl hth (by kernel_rfl) (by simp [Value.oneCell']) ?_))
  exact ret_arr (p := 2) (u := 3) (r := [r0, r1, r2, r3]) rfl rfl rfl hS.out.cr Tryd.underlying24 rfl (by kernel_rfl) rfl rfl ⟨⟨r0, r1, r2, r3, hR.out, rfl⟩, hS.out.below⟩
end Go.Proofs.YtnhhjhkeiplmpaaDoor
