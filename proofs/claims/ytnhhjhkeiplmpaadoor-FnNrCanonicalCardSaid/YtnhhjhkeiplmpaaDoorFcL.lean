/-
  The law on encodings, walked by hand, its calls by their contracts. No conditions.
-/
import Derived.Test.YtnhhjhkeiplmpaaDoorFcI
import Derived.Test.YtnhhjhkeiplmpaaDoorFcN
namespace Go.Proofs.YtnhhjhkeiplmpaaDoor
open Go Eng Go.RowKit
set_option maxRecDepth 100000
def kPrime : K := { f := 8, args := [], mem := [], m := 0, id := 42, mout := 0, ret := sl 0 4, mem1 := [((ls prime).map fun e => .ii .u64 e, true)] }
theorem prime_ok : KOk Tryd.prog AA kPrime := k_of (L := []) (by simp) (by kernel_rfl) (by kernel_rfl) (T := .fin (enc []) st0) (by kernel_rfl) fun env hl _ _ => by
  have hl : env.length = 0 := hl
  obtain rfl := List.eq_nil_of_length_eq_zero hl
  exact fin_of (κ := kPrime) (env := []) (e := []) (os := []) rfl rfl
theorem prime_call (w : World) : Calls Tryd.prog 8 #[] w fun e w' => (∃ g o, e = .returned (.slice (some ⟨g, o, none⟩) 4 4) ∧ w.heap.size ≤ g ∧ Cells w' g o 4 prime) ∧ Below w.heap.size w w' := by
  refine (ko_ro (κ := kPrime) prime_ok (env := []) (β := []) (vs := []) rfl rfl (by simp [kPrime]) (by simp [kPrime]) trivial ⟨wds_nil, trivial⟩).mono ?_
  rintro e w' ⟨zs, β', v, hl, hp, rfl, hL, hv, hM, hnew, hb⟩
  have hl : zs.length = 0 := hl
  obtain rfl := List.eq_nil_of_length_eq_zero hl
  obtain ⟨⟨g, o⟩, hx, rfl⟩ := hv
  refine ⟨⟨g, o, rfl, hnew 0 _ (by decide) hx, fun j hj => ?_⟩, hb⟩
  obtain ⟨v, hv, y, hy, _, rfl⟩ := hM.cells 0 _ _ _ rfl hx j (.ii .u64 (.lit (prime.getD j 0))) (by
    match j, hj with
    | 0, _ | 1, _ | 2, _ | 3, _ => rfl)
  have hy : y = prime.getD j 0 := by simpa [SI.is] using hy
  rw [hv, hy]
theorem bytes_of {W0 : World} {Tp : Nat → Nat → Prop} {env ys : List Int} {β' : List (Nat × Nat)} {mem : List (List SC × Bool)} {w' : World} {m r g o : Nat} {wr : Bool} (hM : MRel W0 Tp (env ++ ys) β' mem w') (h0 : mem[r]? = some (ub m 32, wr)) (hx : β'[r]? = some (g, o)) (hm : m = env.length) : CellsB w' g o 32 ys := fun j hj => by
  obtain ⟨v, hv, y, hy, _, rfl⟩ := hM.cells r _ _ _ h0 hx j (.ii .u8 (.var (m + j))) (by simp [ub, hj])
  have hy : (env ++ ys)[m + j]? = some y := hy
  rw [hm, List.getElem?_append_right (by omega), Nat.add_sub_cancel_left] at hy
  rw [hv, List.getD_eq_getElem?_getD, hy]
  rfl
theorem ofW_call {b o : Nat} {xs : List Int} (lx : xs.length = 4) (wx : Wds xs) {w : World} (h : Cells w b o 4 xs) :
    Calls Tryd.prog 6 #[.slice (some ⟨b, o, none⟩) 4 4] w fun e w' => (∃ g p, e = .returned (.slice (some ⟨g, p, none⟩) 32 32) ∧ w.heap.size ≤ g ∧ CellsB w' g p 32 (beB xs)) ∧ Below w.heap.size w w' := by
  have c1 := us_cell (env := xs) (β := [(b, o)]) (i := 0) (n := 4) (b := b) (o := o) (by omega) wx fun j hj => by
    rw [h j hj, Nat.zero_add]
  refine (ko_ro ofW_ok (env := xs) (β := [(b, o)]) (vs := [.slice (some ⟨b, o, none⟩) 4 4]) lx rfl (by decide) ?_ ⟨⟨_, rfl, rfl⟩, trivial⟩ ⟨wx, trivial⟩).mono ?_
  · intro r cs wr h'
    match r, h' with
    | 0, h' => cases h'; exact ⟨_, rfl, cells_lt (by decide) h, c1⟩
  · rintro e w' ⟨zs, β', v, hl, hp, rfl, hL, hv, hM, hnew, hb⟩
    have hp : zs = beB xs := hp
    subst hp
    obtain ⟨⟨g, p⟩, hx, rfl⟩ := hv
    exact ⟨⟨g, p, rfl, hnew 1 _ (by decide) hx, bytes_of hM rfl hx lx.symm⟩, hb⟩
theorem bytesA_call {xs : List Int} (lx : xs.length = 4) (wx : Wds xs) (w : World) :
    Calls Tryd.prog 9 #[aggW xs] w fun e w' => (∃ g p z, e = .returned (.slice (some ⟨g, p, none⟩) 32 32) ∧ w.heap.size ≤ g ∧ Mont 4 prime xs z ∧ CellsB w' g p 32 (beB z)) ∧ Below w.heap.size w w' := by
  have i1 := us_is (env := xs) (β := []) (i := 0) (n := 4) (by omega) wx
  rw [List.drop_zero, List.take_of_length_le (by omega)] at i1
  refine (ko_ro bytes_ok (env := xs) (β := []) (vs := [aggW xs]) lx rfl (by simp [kBytes]) (by simp [kBytes]) ⟨⟨_, rfl, i1⟩, trivial⟩ ⟨wx, trivial⟩).mono ?_
  rintro e w' ⟨zs, β', v, hl, hp, rfl, hL, hv, hM, hnew, hb⟩
  obtain ⟨z, hz, rfl⟩ := (hp : ∃ z, Mont 4 prime xs z ∧ zs = beB z)
  obtain ⟨⟨g, p⟩, hx, rfl⟩ := hv
  exact ⟨⟨g, p, z, rfl, hnew 0 _ (by decide) hx, hz, bytes_of hM rfl hx lx.symm⟩, hb⟩
theorem sameB_is {b1 o1 b2 o2 c1 c2 : Nat} {xs ys : List Int} {t : Bool} (hx : xs.length = 32) (hy : ys.length = 32) (bx : ∀ x ∈ xs, By x) (bY : ∀ x ∈ ys, By x) {w : World} (h1 : CellsB w b1 o1 32 xs) (h2 : CellsB w b2 o2 32 ys) (ht : decide (xs = ys) = t) :
    Calls Tryd.prog 5 #[.slice (some ⟨b1, o1, none⟩) 32 c1, .slice (some ⟨b2, o2, none⟩) 32 c2] w fun e w' => e = .returned (.bool t) ∧ w' = w :=
  (sameB_call hx hy h1 h2).mono fun e w' ⟨he, hw⟩ => ⟨by rw [he, str_dec bx bY, ht], hw⟩
/-! ### the law -/
theorem law_far {o : Option Addr} {len cap : Nat} {w : World} (h : ¬ len ≤ 2147483647) : Calls Tryd.prog 3 #[.slice o len cap] w fun e w' => e = .returned (.bool true) ∧ Below w.heap.size w w' := by
  go_enter Tryd.func3, Tryd.ntmps3
  go_upto_region 3 with fail
  go_ret
  exact ⟨rfl, Below.refl _ _⟩
theorem law_long {o : Option Addr} {b off len cap : Nat} {l : List Int} {w : World} (hn : len ≠ 32) (hl : l.length = len) (hc : CellsB w b off len l) (ho : o = none ∧ len = 0 ∧ cap = 0 ∨ len = 0 ∧ o.isSome = true ∨ o = some ⟨b, off, none⟩) (hlen : len ≤ 2147483647) :
    Calls Tryd.prog 3 #[.slice o len cap] w fun e w' => e = .returned (.bool true) ∧ Below w.heap.size w w' := by
  have hc' := Lib.hid hc
  have h0 : ((len : Int) == 32) = false := by
    rw [beq_eq_false_iff_ne]
    omega
  have hn' := Lib.hid hn
  clear hc hn
  go_enter Tryd.func3, Tryd.ntmps3
  go_wp2_with (go_at_call 4; refine (set_long hn'.out hl hc'.out ho hlen).mono ?_; rintro e w1 ⟨rfl, hb⟩)
  go_ret
  exact ⟨rfl, hb.alloc hb.size _⟩
theorem is_not {l ys : List Int} (ly : ys.length = 4) (wy : Wds ys) (hl : l.length = 32) (hb : ∀ x ∈ l, By x) (vy : vw ys = beV l % vw prime) (hs : ¬ vw (wsB l) < vw prime) : decide (beB ys = l) = false := by
  rw [wsB_eq hl] at hs
  exact decide_eq_false fun h => hs ((is_canon (n := 4) hl hb ly wy q_pos vy).1 h)
theorem is_yes {l ys : List Int} (ly : ys.length = 4) (wy : Wds ys) (hl : l.length = 32) (hb : ∀ x ∈ l, By x) (vy : vw ys = beV l % vw prime) (hs : vw (wsB l) < vw prime) : decide (beB ys = l) = true := by
  rw [wsB_eq hl] at hs
  exact decide_eq_true ((is_canon (n := 4) hl hb ly wy q_pos vy).2 hs)
theorem rsq_is : vw prime ∣ vw rsq - BW ^ 4 * BW ^ 4 := by decide
theorem back_yes {l r z : List Int} (hl : l.length = 32) (hb : ∀ x ∈ l, By x) (hs : vw (wsB l) < vw prime) (hr : MulM 4 prime (wsB l) rsq r) (hz : Mont 4 prime r z) : beB z = l := by
  have h1 := there_back (n := 4) (Z := wsB l) q_odd rfl (wsB_wd hl hb) hs rsq_is hr hz
  rw [h1, wsB_eq hl]
  exact beB_leW hl hb
theorem law_no {o : Option Addr} {b off len cap : Nat} {l : List Int} {w : World} {t : TypeId} {a : Addr} (hb : ∀ x ∈ l, By x) (hn : len = 32) (hg : w.cell? ⟨0, 0, none⟩ = some (.iface t (.pointer (some a)))) (hs : ¬ vw (wsB l) < vw prime) (hl : l.length = len) (hc : CellsB w b off len l) (ho : o = some ⟨b, off, none⟩) :
    Calls Tryd.prog 3 #[.slice o len cap] w fun e w' => e = .returned (.bool true) ∧ Below w.heap.size w w' := by
  have hN := Lib.hid (fun (ys : List Int) (ly : ys.length = 4) (wy : Wds ys) (vy : vw ys = beV l % vw prime) => is_not ly wy (hl.trans hn) hb vy hs)
  have hb' := Lib.hid hb
  have hc' := Lib.hid hc
  clear hb hc
  subst hn
  subst ho
  have hS := Lib.hid (set_no (cap := cap) hb'.out rfl hg hs hl hc'.out (Or.inr (Or.inr rfl)) (by decide))
  clear hs
  go_enter Tryd.func3, Tryd.ntmps3
  go_upto_region 4 with (go_at_call 4; refine hS.out.mono ?_; rintro e w1 ⟨rfl, hb1⟩)
  have hB := hb1.alloc hb1.size (.cells #[Value.int IntKind.u64 0, Value.int IntKind.u64 0, Value.int IntKind.u64 0, Value.int IntKind.u64 0] 24)
  generalize w1.alloc (.cells #[Value.int IntKind.u64 0, Value.int IntKind.u64 0, Value.int IntKind.u64 0, Value.int IntKind.u64 0] 24) = w2 at *
  have hsz := hB.size
  clear hb1
  go_upto_region 5 with (first
    | (go_at_call 8; refine (prime_call _).mono ?_; rintro e w3 ⟨⟨g3, o3, rfl, hg3, hc3⟩, hb3⟩; have hB3 := hB.trans (hb3.mono hsz))
    | (go_at_call 7; refine (modW_call hl hb'.out (cellsB_more hB3 hc'.out) hc3).mono ?_; rintro e w4 ⟨⟨g4, o4, ys, rfl, hg4, hc4, ly, wy, vy⟩, hb4⟩; have hB4 := hB3.trans (hb4.mono hB3.size))
    | (go_at_call 6; refine (ofW_call ly wy hc4).mono ?_; rintro e w5 ⟨⟨g5, o5, rfl, hg5, hc5⟩, hb5⟩; have hB5 := hB4.trans (hb5.mono hB4.size))
    | (go_at_call 5; refine (sameB_is (t := false) (by rw [beB_len, ly]) hl (beB_by wy) hb'.out hc5 (cellsB_more hB5 hc'.out) (hN.out _ ly wy vy)).mono ?_; rintro e w6 ⟨rfl, rfl⟩))
  go_wp2
  go_ret
  exact ⟨rfl, hB5⟩
theorem law_yes {o : Option Addr} {b off len cap : Nat} {l : List Int} {w : World} {x : Value} (hb : ∀ x ∈ l, By x) (hn : len = 32) (hg : w.cell? ⟨0, 0, none⟩ = some x) (hs : vw (wsB l) < vw prime) (hl : l.length = len) (hc : CellsB w b off len l) (ho : o = some ⟨b, off, none⟩) :
    Calls Tryd.prog 3 #[.slice o len cap] w fun e w' => e = .returned (.bool true) ∧ Below w.heap.size w w' := by
  have hN := Lib.hid (fun (ys : List Int) (ly : ys.length = 4) (wy : Wds ys) (vy : vw ys = beV l % vw prime) => is_yes ly wy (hl.trans hn) hb vy hs)
  have hY := Lib.hid (fun (r z : List Int) (hr : MulM 4 prime (wsB l) rsq r) (hz : Mont 4 prime r z) => back_yes (hl.trans hn) hb hs hr hz)
  have hb' := Lib.hid hb
  have hc' := Lib.hid hc
  clear hb hc
  subst hn
  subst ho
  have hS := Lib.hid (set_ok (cap := cap) hb'.out rfl hg hs hl hc'.out (Or.inr (Or.inr rfl)) (by decide))
  clear hs
  go_enter Tryd.func3, Tryd.ntmps3
  go_upto_region 4 with (go_at_call 4; refine hS.out.mono ?_; rintro e w1 ⟨⟨r0, r1, r2, r3, hr, rfl⟩, hb1⟩)
  have hB := hb1.alloc hb1.size (.cells #[Value.int IntKind.u64 r0, Value.int IntKind.u64 r1, Value.int IntKind.u64 r2, Value.int IntKind.u64 r3] 24)
  have hcr : Cells (w1.alloc (.cells #[Value.int IntKind.u64 r0, Value.int IntKind.u64 r1, Value.int IntKind.u64 r2, Value.int IntKind.u64 r3] 24)) w1.heap.size 0 4 [r0, r1, r2, r3] := fun j hj => by
    rw [Nat.zero_add, World.cell?_alloc_new]
    match j, hj with
    | 0, _ | 1, _ | 2, _ | 3, _ => rfl
  generalize w1.alloc (.cells #[Value.int IntKind.u64 r0, Value.int IntKind.u64 r1, Value.int IntKind.u64 r2, Value.int IntKind.u64 r3] 24) = w2 at *
  have hsz := hB.size
  have hlt := cells_lt (by decide) hcr
  have hcr' := Lib.hid hcr
  have hr' := Lib.hid hr
  clear hb1 hcr hr
  go_upto_region 5 with (first
    | (go_at_call 8; refine (prime_call _).mono ?_; rintro e w3 ⟨⟨g3, o3, rfl, hg3, hc3⟩, hb3⟩; have hB3 := hB.trans (hb3.mono hsz))
    | (go_at_call 7; refine (modW_call hl hb'.out (cellsB_more hB3 hc'.out) hc3).mono ?_; rintro e w4 ⟨⟨g4, o4, ys, rfl, hg4, hc4, ly, wy, vy⟩, hb4⟩; have hB4 := hB3.trans (hb4.mono hB3.size))
    | (go_at_call 6; refine (ofW_call ly wy hc4).mono ?_; rintro e w5 ⟨⟨g5, o5, rfl, hg5, hc5⟩, hb5⟩; have hB5 := hB4.trans (hb5.mono hB4.size))
    | (go_at_call 5; refine (sameB_is (t := true) (by rw [beB_len, ly]) hl (beB_by wy) hb'.out hc5 (cellsB_more hB5 hc'.out) (hN.out _ ly wy vy)).mono ?_; rintro e w6 ⟨rfl, rfl⟩))
  have hs3 := hb3.size
  have hs4 := hb4.size
  have h25 : Below w2.heap.size w2 w6 := (hb3.trans (hb4.mono hs3)).trans (hb5.mono (by omega))
  have hc6 : Cells w6 w1.heap.size 0 4 [r0, r1, r2, r3] := cells_below h25 hlt hcr'.out
  have d0 := hc6 0 (by decide)
  have d1 := hc6 1 (by decide)
  have d2 := hc6 2 (by decide)
  have d3 := hc6 3 (by decide)
  simp only [Nat.zero_add, List.getD_cons_zero, List.getD_cons_succ] at d0 d1 d2 d3
  have hsz6 := hB5.size
  have hB6 := Lib.hid hB5
  clear hb3 hb4 hb5 hB3 hB4 hB5 hB h25 hc6 hc5 hc4 hc3 vy wy
  go_wp2_with (first
    | (go_at_call 9; refine (bytesA_call (xs := [r0, r1, r2, r3]) rfl hr'.out.2.1 _).mono ?_; rintro e w7 ⟨⟨g7, o7, z, rfl, hg7, hz, hc7⟩, hb7⟩; have hB7 := hB6.out.trans (hb7.mono hsz6))
    | (go_at_call 5; refine (sameB_is (t := true) (by rw [beB_len, hz.1]) hl (beB_by hz.2.1) hb'.out hc7 (cellsB_more hB7 hc'.out) (decide_eq_true (hY.out _ _ hr'.out hz))).mono ?_; rintro e w8 ⟨rfl, rfl⟩))
  go_ret
  exact ⟨rfl, hB7⟩
theorem law_walk {o : Option Addr} {b off len cap : Nat} {l : List Int} {w : World} {t : TypeId} {a : Addr} (hb : ∀ x ∈ l, By x) (hg : w.cell? ⟨0, 0, none⟩ = some (.iface t (.pointer (some a)))) (hl : l.length = len) (hc : CellsB w b off len l) (ho : o = none ∧ len = 0 ∧ cap = 0 ∨ len = 0 ∧ o.isSome = true ∨ o = some ⟨b, off, none⟩) :
    Calls Tryd.prog 3 #[.slice o len cap] w fun e w' => e = .returned (.bool true) ∧ Below w.heap.size w w' := by
  by_cases h : len ≤ 2147483647
  · by_cases hn : len = 32
    · have ho' : o = some ⟨b, off, none⟩ := by
        rcases ho with ⟨_, h0, _⟩ | ⟨h0, _⟩ | h
        · omega
        · omega
        · exact h
      by_cases hs : vw (wsB l) < vw prime
      · exact law_yes hb hn hg hs hl hc ho'
      · exact law_no hb hn hg hs hl hc ho'
    · exact law_long hn hl hc ho h
  · exact law_far h
end Go.Proofs.YtnhhjhkeiplmpaaDoor
