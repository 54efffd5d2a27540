/-
  The root of an array, walked by hand. No conditions.
-/
import Derived.Test.YtajhellohcibiaaDoorFsY
import Derived.Test.YtajhellohcibiaaDoorWW
namespace Go.Proofs.YtajhellohcibiaaDoor
open Go Eng Go.RowKit
set_option maxRecDepth 100000
/-- The package's two variables lie as they were laid. -/
def GOk (w : World) : Prop := Cells w 1 0 4 gW ∧ ∀ i, i < 5 → w.cell? ⟨0, i, none⟩ = some (.int .u64 ([5, 5, 5, 6, 6].getD i 0))
theorem GOk.lt {w : World} (h : GOk w) : 1 < w.heap.size := cells_lt (by decide) h.1
theorem GOk.lt' {w : World} (h : GOk w) : 0 < w.heap.size := World.block_lt_of_cell? w _ (h.2 0 (by decide))
theorem GOk.below {w w' : World} (h : GOk w) (hb : Below w.heap.size w w') : GOk w' :=
  ⟨cells_below hb h.lt h.1, fun i hi => (hb.cell h.lt').trans (h.2 i hi)⟩
def HasR (x : Int) : Prop := vw prime ∣ x ∨ Cg (x ^ 10944121435919637611123202872628637544274182200208017171849102093287904247808) 1
def IsR (R : List Int) (x : Int) : Prop := ∃ y, El R y ∧ Cg (y * y) x
theorem sarkarH_call {bz bx : Nat} {Z : List Int} {x0 x1 x2 x3 x : Int} {w : World} (lZ : Z.length = 4) (wZ : Wds Z) (aZ : At w bz 0 Z) (eX : El [x0, x1, x2, x3] x) (cX : Cells w bx 0 4 [x0, x1, x2, x3]) (hxz : bx ≠ bz) (hg : GOk w) :
    Calls Tryd.prog 19 #[.pointer (some ⟨bz, 0, none⟩), .pointer (some ⟨bx, 0, none⟩)] w fun e w' =>
      (e = .returned (.pointer (some ⟨bz, 0, none⟩)) ∧ Hid (HasR x ∧ (∃ R, IsR R x ∧ At w' bz 0 R) ∧ Eng.Touch w bz 0 4 w')) ∨ (e = .returned (.pointer none) ∧ Hid (¬ HasR x ∧ Below w.heap.size w w')) :=
  (sarkar_call lZ wZ aZ eX cX hxz hg.1 hg.2).mono fun _ _ h => by
    rcases h with ⟨h1, ⟨R, y, h2, h3, h4⟩, h5, h6⟩ | ⟨h1, h2, h3⟩
    · exact Or.inl ⟨h5, Lib.hid ⟨h1, ⟨R, ⟨y, h2, h3⟩, h4⟩, h6⟩⟩
    · exact Or.inr ⟨h2, Lib.hid ⟨h1, h3⟩⟩
theorem sqrtE_call {bz bx : Nat} {Z : List Int} {x0 x1 x2 x3 x : Int} {w : World} (lZ : Z.length = 4) (wZ : Wds Z) (aZ : At w bz 0 Z) (eX : El [x0, x1, x2, x3] x) (cX : Cells w bx 0 4 [x0, x1, x2, x3]) (hxz : bx ≠ bz) (hg : GOk w) :
    Calls Tryd.prog 12 #[.pointer (some ⟨bz, 0, none⟩), .pointer (some ⟨bx, 0, none⟩)] w fun e w' =>
      (e = .returned (.pointer (some ⟨bz, 0, none⟩)) ∧ Hid (HasR x ∧ (∃ R, IsR R x ∧ At w' bz 0 R) ∧ Eng.Touch w bz 0 4 w')) ∨ (e = .returned (.pointer none) ∧ Hid (¬ HasR x ∧ Below w.heap.size w w')) := by
  have aZ' := Lib.hid aZ
  have eX' := Lib.hid eX
  have cX' := Lib.hid cX
  have hg' := Lib.hid hg
  clear aZ eX cX hg
  go_enter Tryd.func12, Tryd.ntmps12
  go_wp2_with (go_at_call 19; refine (sarkarH_call lZ wZ aZ'.out eX'.out cX'.out hxz hg'.out).mono ?_; rintro e w1 (⟨rfl, h1⟩ | ⟨rfl, h1⟩))
  · go_ret
    exact Or.inl ⟨rfl, h1⟩
  · go_ret
    exact Or.inr ⟨rfl, h1⟩
def SqA (x : Int) (e : Ending) : Prop := (HasR x ∧ ∃ R, IsR R x ∧ e = .returned (.tuple #[aggW R, .bool true])) ∨ (¬ HasR x ∧ e = .returned (.tuple #[aggW (List.replicate 4 0), .bool false]))
theorem sqrtZ_call {bz br bx : Nat} {x0 x1 x2 x3 x : Int} (eX : El [x0, x1, x2, x3] x) {w w1 : World} {rs : List Int} (hM : ZM bz br w w1 (List.replicate 4 0) rs) (cx : Cells w1 bx 0 4 [x0, x1, x2, x3]) (hxz : bx ≠ bz) (hg : GOk w1) :
    Calls Tryd.prog 12 #[.pointer (some ⟨bz, 0, none⟩), .pointer (some ⟨bx, 0, none⟩)] w1 fun e w2 =>
      (e = .returned (.pointer (some ⟨bz, 0, none⟩)) ∧ Hid (HasR x) ∧ ∃ r0 r1 r2 r3, Hid (IsR [r0, r1, r2, r3] x) ∧ w2.rangeAt bz 0 [Value.int IntKind.u64 r0, Value.int IntKind.u64 r1, Value.int IntKind.u64 r2, Value.int IntKind.u64 r3] ∧ w2.there br 0 4 ∧ Hid (ZM bz br w (w2.setCells br 0 [Value.int IntKind.u64 r0, Value.int IntKind.u64 r1, Value.int IntKind.u64 r2, Value.int IntKind.u64 r3]) [r0, r1, r2, r3] [r0, r1, r2, r3])) ∨
       (e = .returned (.pointer none) ∧ Hid (¬ HasR x) ∧ w2.there br 0 4 ∧ Hid (ZM bz br w (w2.setCells br 0 [Value.int IntKind.u64 0, Value.int IntKind.u64 0, Value.int IntKind.u64 0, Value.int IntKind.u64 0]) (List.replicate 4 0) (List.replicate 4 0))) :=
  (sqrtE_call zeros_ln zeros_wd ⟨hM.cz, hM.fz⟩ eX cx hxz hg).mono fun e w2 h => by
    rcases h with ⟨rfl, h⟩ | ⟨rfl, h⟩
    · obtain ⟨h1, ⟨R, h2, h3⟩, h4⟩ := h.out
      have hM2 := hM.touchZ h4 h3.1
      have lR : R.length = 4 := by
        obtain ⟨y, hy, _⟩ := h2
        exact hy.1
      obtain ⟨r0, r1, r2, r3, rfl⟩ := lenX lR
      exact Or.inl ⟨rfl, Lib.hid h1, r0, r1, r2, r3, Lib.hid h2, range_of (r := [r0, r1, r2, r3]) rfl hM2.cz, hM2.thereR, Lib.hid (hM2.setR (r := [r0, r1, r2, r3]) rfl)⟩
    · obtain ⟨h1, h2⟩ := h.out
      have hM2 := hM.more h2
      exact Or.inr ⟨rfl, Lib.hid h1, hM2.thereR, Lib.hid (hM2.setR (r := List.replicate 4 0) rfl)⟩
theorem sqrtA_call {x0 x1 x2 x3 x : Int} (eX : El [x0, x1, x2, x3] x) {w : World} (hg : GOk w) :
    Calls Tryd.prog 6 #[.agg #[Value.int IntKind.u64 x0, Value.int IntKind.u64 x1, Value.int IntKind.u64 x2, Value.int IntKind.u64 x3]] w fun e w' => SqA x e ∧ Below w.heap.size w w' := by
  have eX' := Lib.hid eX
  have hg' := Lib.hid hg
  clear eX hg
  go_enter Tryd.func6, Tryd.ntmps6
  go_upto_region 3 with fail
  have hM0 := zm_start w (.cells #[Value.int IntKind.u64 x0, Value.int IntKind.u64 x1, Value.int IntKind.u64 x2, Value.int IntKind.u64 x3] 23) 23 33
  have hs0 : (((w.alloc (.cells #[Value.int IntKind.u64 x0, Value.int IntKind.u64 x1, Value.int IntKind.u64 x2, Value.int IntKind.u64 x3] 23)).alloc (.cells #[Value.int IntKind.u64 0, Value.int IntKind.u64 0, Value.int IntKind.u64 0, Value.int IntKind.u64 0] 23)).alloc (.cells #[Value.int IntKind.u64 0, Value.int IntKind.u64 0, Value.int IntKind.u64 0, Value.int IntKind.u64 0] 33)).heap.size = w.heap.size + 1 + 1 + 1 := by simp
  generalize ((w.alloc (.cells #[Value.int IntKind.u64 x0, Value.int IntKind.u64 x1, Value.int IntKind.u64 x2, Value.int IntKind.u64 x3] 23)).alloc (.cells #[Value.int IntKind.u64 0, Value.int IntKind.u64 0, Value.int IntKind.u64 0, Value.int IntKind.u64 0] 23)).alloc (.cells #[Value.int IntKind.u64 0, Value.int IntKind.u64 0, Value.int IntKind.u64 0, Value.int IntKind.u64 0] 33) = w0 at *
  have hcx : Cells (w0.alloc (.cells #[Value.int IntKind.u64 x0, Value.int IntKind.u64 x1, Value.int IntKind.u64 x2, Value.int IntKind.u64 x3] 33)) w0.heap.size 0 4 [x0, x1, x2, x3] := fun j hj => by
    rw [Nat.zero_add, World.cell?_alloc_new]
    match j, hj with
    | 0, _ | 1, _ | 2, _ | 3, _ => rfl
  have hM1 := hM0.more ((Below.refl w0.heap.size w0).alloc (Nat.le_refl _) (.cells #[Value.int IntKind.u64 x0, Value.int IntKind.u64 x1, Value.int IntKind.u64 x2, Value.int IntKind.u64 x3] 33))
  generalize w0.alloc (.cells #[Value.int IntKind.u64 x0, Value.int IntKind.u64 x1, Value.int IntKind.u64 x2, Value.int IntKind.u64 x3] 33) = w1 at *
  rw [hs0] at hcx
  have hM1' := Lib.hid hM1
  have hcx' := Lib.hid hcx
  have hg1 := Lib.hid (hg'.out.below hM1.below)
  have hxz : w.heap.size + 1 + 1 + 1 ≠ w.heap.size + 1 + 1 := by omega
  have hxz' := Lib.hid hxz
  clear hM0 hM1 hcx hs0 hxz
  go_wp2_with (first
    | (go_at_call 12; refine (sqrtZ_call eX'.out hM1'.out hcx'.out hxz'.out hg1.out).mono ?_; rintro e w2 (⟨rfl, hr, r0, r1, r2, r3, hi, hrg, hth, hS⟩ | ⟨rfl, hr, hth, hS⟩))
    | (refine wpList_load_mid rfl 33 (.tmp 4) rfl (w.heap.size + 1 + 1) 0 rfl [Value.int IntKind.u64 r0, Value.int IntKind.u64 r1, Value.int IntKind.u64 r2, Value.int IntKind.u64 r3] _ hrg Tryd.underlying33 rfl (by kernel_rfl) ?_)
    | (refine wpList_store_mid rfl 23 (.tmp 2) (.tmp 10) rfl (w.heap.size + 1) 0 #[Value.int IntKind.u64 r0, Value.int IntKind.u64 r1, Value.int IntKind.u64 r2, Value.int IntKind.u64 r3] rfl rfl hth (by kernel_rfl) (by simp [Value.oneCell']) ?_)
    | (refine wpList_store_mid rfl 23 (.tmp 2) (.tmp 9) rfl (w.heap.size + 1) 0 #[Value.int IntKind.u64 0, Value.int IntKind.u64 0, Value.int IntKind.u64 0, Value.int IntKind.u64 0] rfl rfl hth (by kernel_rfl) (by simp [Value.oneCell']) ?_))
  · exact ret_arr (p := 2) (u := 3) (r := [r0, r1, r2, r3]) rfl rfl rfl hS.out.cr Tryd.underlying23 rfl (by kernel_rfl) rfl rfl ⟨Or.inl ⟨hr.out, _, hi.out, rfl⟩, hS.out.below⟩
  · exact ret_arr (p := 2) (u := 3) (r := List.replicate 4 0) rfl rfl rfl hS.out.cr Tryd.underlying23 rfl (by kernel_rfl) rfl rfl ⟨Or.inr ⟨hr.out, rfl⟩, hS.out.below⟩
end Go.Proofs.YtajhellohcibiaaDoor
