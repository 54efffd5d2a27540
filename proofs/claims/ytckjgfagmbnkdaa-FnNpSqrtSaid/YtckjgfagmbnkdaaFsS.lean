/-
  The root by a power, walked by hand, its calls by their contracts. No conditions.
-/
import Derived.Test.YtckjgfagmbnkdaaFsM
namespace Go.Proofs.Ytckjgfagmbnkdaa
open Go Eng Go.RowKit
set_option maxRecDepth 100000
def SqR (xs : List Int) (bz : Nat) (w : World) (e : Ending) (w' : World) : Prop := ∃ r s, PowM 4 prime xs 5472060717959818805561601436314318772174077789324455915672259473661306552146 r ∧ MulM 4 prime r r s ∧
  ((s = xs ∧ e = .returned (.pointer (some ⟨bz, 0, none⟩)) ∧ Cells w' bz 0 4 r ∧ Eng.Touch w bz 0 4 w') ∨ (s ≠ xs ∧ e = .returned (.pointer none) ∧ Below w.heap.size w w'))
theorem sqrtE_call {bz bx : Nat} {zs : List Int} {x0 x1 x2 x3 : Int} (wx : Wds [x0, x1, x2, x3]) (hx : vw [x0, x1, x2, x3] < vw prime) (lz : zs.length = 4) (wz : Wds zs) {w : World} (cz : Cells w bz 0 4 zs) (hf : Froz w bz 0) (cx : Cells w bx 0 4 [x0, x1, x2, x3]) :
    Calls Try.prog 12 #[.pointer (some ⟨bz, 0, none⟩), .pointer (some ⟨bx, 0, none⟩)] w fun e w' => SqR [x0, x1, x2, x3] bz w e w' := by
  have hbz := cells_lt (by decide) cz
  have hbx := cells_lt (by decide) cx
  have cz' := Lib.hid cz
  have cx' := Lib.hid cx
  have hf' := Lib.hid hf
  have wx' := Lib.hid wx
  have hx' := Lib.hid hx
  clear cz cx hf wx hx
  go_enter Try.func12, Try.ntmps12
  go_upto_region 2 with fail
  have hM0 := zm_start2 w 33 33
  generalize (w.alloc (.cells #[Value.int IntKind.u64 0, Value.int IntKind.u64 0, Value.int IntKind.u64 0, Value.int IntKind.u64 0] 33)).alloc (.cells #[Value.int IntKind.u64 0, Value.int IntKind.u64 0, Value.int IntKind.u64 0, Value.int IntKind.u64 0] 33) = w0 at *
  have hrg : w0.rangeAt bx 0 [Value.int IntKind.u64 x0, Value.int IntKind.u64 x1, Value.int IntKind.u64 x2, Value.int IntKind.u64 x3] := range_of (r := [x0, x1, x2, x3]) rfl (cells_below hM0.below hbx cx'.out)
  have hM0' := Lib.hid hM0
  clear hM0
  go_upto_region 3 with (first
    | (refine wpList_load_mid rfl 33 (.tmp 8) rfl bx 0 rfl [Value.int IntKind.u64 x0, Value.int IntKind.u64 x1, Value.int IntKind.u64 x2, Value.int IntKind.u64 x3] _ hrg Try.underlying33 rfl (by kernel_rfl) ?_)
    | (go_at_call 19; refine (exp_call (xs := [x0, x1, x2, x3]) (by rfl) rfl (wds_zeros 4) wx'.out hx'.out hM0'.out.cr hM0'.out.fr).mono ?_; rintro e w1 ⟨r, hr, rfl, hcr, hT⟩))
  have hM1 := hM0'.out.touchR hT hcr
  have hr' := Lib.hid hr
  have hM1' := Lib.hid hM1
  clear hT hcr hM1 hr hrg
  go_upto_region 4 with (go_at_call 20; refine (sqE_call (by rfl) hr'.out.1 (wds_zeros 4) hr'.out.2.1 hr'.out.2.2.1 hM1'.out.cz hM1'.out.cr hM1'.out.fz (Or.inl hM1'.out.ne)).mono ?_; rintro e w2 ⟨s, hs, rfl, hcs, hT2⟩)
  have hM2 := hM1'.out.touchZ hT2 hcs
  have hs' := Lib.hid hs
  have hM2' := Lib.hid hM2
  have hb2 := Lib.hid hM2.below
  clear hT2 hcs hM2 hs hM1' hM0'
  by_cases he : s = [x0, x1, x2, x3]
  · go_upto_region 5 with (go_at_call 21; refine (equal_call hs'.out.1 rfl hs'.out.2.1 wx'.out hM2'.out.cz (cells_below hb2.out hbx cx'.out)).mono ?_; rw [decide_eq_true he]; rintro e w3 ⟨rfl, hb3⟩)
    have hM3 := Lib.hid (hM2'.out.more hb3)
    go_wp2_with (go_at_call 22; refine (set_call lz hr'.out.1 wz hr'.out.2.1 (cells_below hM3.out.below hbz cz'.out) hM3.out.cr (froz_below hM3.out.below hbz hf'.out) (Or.inl (by omega))).mono ?_; rintro e w4 ⟨rfl, hc4, hT4⟩)
    go_ret
    exact ⟨r, s, hr'.out, hs'.out, Or.inl ⟨he, rfl, hc4, Touch.trans (touch_of_below hM3.out.below) hT4⟩⟩
  · go_wp2_with (go_at_call 21; refine (equal_call hs'.out.1 rfl hs'.out.2.1 wx'.out hM2'.out.cz (cells_below hb2.out hbx cx'.out)).mono ?_; rw [decide_eq_false he]; rintro e w3 ⟨rfl, hb3⟩)
    go_ret
    exact ⟨r, s, hr'.out, hs'.out, Or.inr ⟨he, rfl, hb2.out.trans (hb3.mono hb2.out.size)⟩⟩
def SqA (xs : List Int) (e : Ending) : Prop := ∃ r s, PowM 4 prime xs 5472060717959818805561601436314318772174077789324455915672259473661306552146 r ∧ MulM 4 prime r r s ∧
  (s = xs ∧ e = .returned (.tuple #[aggW r, .bool true]) ∨ s ≠ xs ∧ e = .returned (.tuple #[aggW (List.replicate 4 0), .bool false]))
theorem sqrtZ_call {bz br bx : Nat} {x0 x1 x2 x3 : Int} (wx : Wds [x0, x1, x2, x3]) (hx : vw [x0, x1, x2, x3] < vw prime) {w w1 : World} {rs : List Int} (hM : ZM bz br w w1 (List.replicate 4 0) rs) (cx : Cells w1 bx 0 4 [x0, x1, x2, x3]) :
    Calls Try.prog 12 #[.pointer (some ⟨bz, 0, none⟩), .pointer (some ⟨bx, 0, none⟩)] w1 fun e w2 => ∃ r s, Hid (PowM 4 prime [x0, x1, x2, x3] 5472060717959818805561601436314318772174077789324455915672259473661306552146 r) ∧ Hid (MulM 4 prime r r s) ∧
      ((s = [x0, x1, x2, x3] ∧ e = .returned (.pointer (some ⟨bz, 0, none⟩)) ∧ ∃ r0 r1 r2 r3, r = [r0, r1, r2, r3] ∧ w2.rangeAt bz 0 [Value.int IntKind.u64 r0, Value.int IntKind.u64 r1, Value.int IntKind.u64 r2, Value.int IntKind.u64 r3] ∧ w2.there br 0 4 ∧ Hid (ZM bz br w (w2.setCells br 0 [Value.int IntKind.u64 r0, Value.int IntKind.u64 r1, Value.int IntKind.u64 r2, Value.int IntKind.u64 r3]) [r0, r1, r2, r3] [r0, r1, r2, r3])) ∨
       (s ≠ [x0, x1, x2, x3] ∧ e = .returned (.pointer none) ∧ w2.there br 0 4 ∧ Hid (ZM bz br w (w2.setCells br 0 [Value.int IntKind.u64 0, Value.int IntKind.u64 0, Value.int IntKind.u64 0, Value.int IntKind.u64 0]) (List.replicate 4 0) (List.replicate 4 0)))) :=
  (sqrtE_call wx hx (by rfl) (wds_zeros 4) hM.cz hM.fz cx).mono fun e w2 ⟨r, s, hr, hs, h⟩ => by
    refine ⟨r, s, Lib.hid hr, Lib.hid hs, ?_⟩
    rcases h with ⟨he, rfl, hc2, hT2⟩ | ⟨he, rfl, hb2⟩
    · have hM2 := hM.touchZ hT2 hc2
      obtain ⟨r0, r1, r2, r3, rfl⟩ := lenX hr.1
      exact Or.inl ⟨he, rfl, r0, r1, r2, r3, rfl, range_of (r := [r0, r1, r2, r3]) rfl hM2.cz, hM2.thereR, Lib.hid (hM2.setR (r := [r0, r1, r2, r3]) rfl)⟩
    · have hM2 := hM.more hb2
      exact Or.inr ⟨he, rfl, hM2.thereR, Lib.hid (hM2.setR (r := List.replicate 4 0) rfl)⟩
theorem sqrtA_call {x0 x1 x2 x3 : Int} (wx : Wds [x0, x1, x2, x3]) (hx : vw [x0, x1, x2, x3] < vw prime) (w : World) :
    Calls Try.prog 6 #[.agg #[Value.int IntKind.u64 x0, Value.int IntKind.u64 x1, Value.int IntKind.u64 x2, Value.int IntKind.u64 x3]] w fun e w' => SqA [x0, x1, x2, x3] e ∧ Below w.heap.size w w' := by
  have wx' := Lib.hid wx
  have hx' := Lib.hid hx
  clear wx hx
  go_enter Try.func6, Try.ntmps6
  go_upto_region 3 with fail
  have hM0 := zm_start w (.cells #[Value.int IntKind.u64 x0, Value.int IntKind.u64 x1, Value.int IntKind.u64 x2, Value.int IntKind.u64 x3] 23) 23 33
  have hs0 : (((w.alloc (.cells #[Value.int IntKind.u64 x0, Value.int IntKind.u64 x1, Value.int IntKind.u64 x2, Value.int IntKind.u64 x3] 23)).alloc (.cells #[Value.int IntKind.u64 0, Value.int IntKind.u64 0, Value.int IntKind.u64 0, Value.int IntKind.u64 0] 23)).alloc (.cells #[Value.int IntKind.u64 0, Value.int IntKind.u64 0, Value.int IntKind.u64 0, Value.int IntKind.u64 0] 33)).heap.size = w.heap.size + 1 + 1 + 1 := by simp
  generalize ((w.alloc (.cells #[Value.int IntKind.u64 x0, Value.int IntKind.u64 x1, Value.int IntKind.u64 x2, Value.int IntKind.u64 x3] 23)).alloc (.cells #[Value.int IntKind.u64 0, Value.int IntKind.u64 0, Value.int IntKind.u64 0, Value.int IntKind.u64 0] 23)).alloc (.cells #[Value.int IntKind.u64 0, Value.int IntKind.u64 0, Value.int IntKind.u64 0, Value.int IntKind.u64 0] 33) = w0 at *
  have hcx : Cells (w0.alloc (.cells #[Value.int IntKind.u64 x0, Value.int IntKind.u64 x1, Value.int IntKind.u64 x2, Value.int IntKind.u64 x3] 33)) w0.heap.size 0 4 [x0, x1, x2, x3] := fun j hj => by
    rw [Nat.zero_add, World.cell?_alloc_new]
    match j, hj with
    | 0, _ | 1, _ | 2, _ | 3, _ => rfl
  have hM1 := hM0.more ((Below.refl w0.heap.size w0).alloc (Nat.le_refl _) (.cells #[Value.int IntKind.u64 x0, Value.int IntKind.u64 x1, Value.int IntKind.u64 x2, Value.int IntKind.u64 x3] 33))
  generalize w0.alloc (.cells #[Value.int IntKind.u64 x0, Value.int IntKind.u64 x1, Value.int IntKind.u64 x2, Value.int IntKind.u64 x3] 33) = w1 at *
  rw [hs0] at hcx
  have hM1' := Lib.hid hM1
  have hcx' := Lib.hid hcx
  clear hM0 hM1 hcx
  go_wp2_with (first
    | (go_at_call 12; refine (sqrtZ_call wx'.out hx'.out hM1'.out hcx'.out).mono ?_; rintro e w2 ⟨r, s, hr', hs', ⟨he, rfl, r0, r1, r2, r3, rfl, hrg, hth, hS⟩ | ⟨he, rfl, hth, hS⟩⟩)
    | (refine wpList_load_mid rfl 33 (.tmp 4) rfl (w.heap.size + 1 + 1) 0 rfl [Value.int IntKind.u64 r0, Value.int IntKind.u64 r1, Value.int IntKind.u64 r2, Value.int IntKind.u64 r3] _ hrg Try.underlying33 rfl (by kernel_rfl) ?_)
    | (refine wpList_store_mid rfl 23 (.tmp 2) (.tmp 10) rfl (w.heap.size + 1) 0 #[Value.int IntKind.u64 r0, Value.int IntKind.u64 r1, Value.int IntKind.u64 r2, Value.int IntKind.u64 r3] rfl rfl hth (by kernel_rfl) (by simp [Value.oneCell']) ?_)
    | (refine wpList_store_mid rfl 23 (.tmp 2) (.tmp 9) rfl (w.heap.size + 1) 0 #[Value.int IntKind.u64 0, Value.int IntKind.u64 0, Value.int IntKind.u64 0, Value.int IntKind.u64 0] rfl rfl hth (by kernel_rfl) (by simp [Value.oneCell']) ?_))
  · exact ret_arr (p := 2) (u := 3) (r := [r0, r1, r2, r3]) rfl rfl rfl hS.out.cr Try.underlying23 rfl (by kernel_rfl) rfl rfl ⟨⟨_, _, hr'.out, hs'.out, Or.inl ⟨he, rfl⟩⟩, hS.out.below⟩
  · exact ret_arr (p := 2) (u := 3) (r := List.replicate 4 0) rfl rfl rfl hS.out.cr Try.underlying23 rfl (by kernel_rfl) rfl rfl ⟨⟨_, _, hr'.out, hs'.out, Or.inr ⟨he, rfl⟩⟩, hS.out.below⟩
end Go.Proofs.Ytckjgfagmbnkdaa
