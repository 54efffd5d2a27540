/-
  The contracts of the functions that the law on bytes reaches. No conditions.
-/
import Derived.Test.YtjjmlliiclfpeaaFaC
import Derived.Laws.BytesArg
import Derived.Deep.QuietTactic
import Derived.BigQuiet
namespace Go.Proofs.Ytjjmlliiclfpeaa
open Go Eng Go.RowKit
set_option maxRecDepth 100000
def w1 (x : Nat) : SV := .ww (.cc (u x))
def ub (i n : Nat) : List SC := (List.range n).map fun j => .ii .u8 (.var (i + j))
def kMul64 : K := { f := 48, args := [w1 0, w1 1], mem := [], m := 2, id := 20, mout := 2, ret := .tt [.cc (u 2), .cc (u 3)], mem1 := [] }
def kMadd0 : K := { f := 46, args := [w1 0, w1 1, w1 2], mem := [], m := 3, id := 21, mout := 1, ret := w1 3, mem1 := [] }
def kMadd2 : K := { f := 47, args := [w1 0, w1 1, w1 2, w1 3], mem := [], m := 4, id := 22, mout := 2, ret := .tt [.cc (u 4), .cc (u 5)], mem1 := [] }
def kFrom : K := { f := 45, args := [pt 0], mem := [(us 0 6, true)], m := 6, id := 23, mout := 6, ret := .tt [], mem1 := [(us 6 6, true)] }
def kHalf : K := { f := 35, args := [sl 0 6], mem := [(us 0 6, false)], m := 6, id := 24, mout := 6, ret := sl 1 6, mem1 := [(us 0 6, false), (us 6 6, true)] }
def kBytes : K := { f := 22, args := [ar 0 6], mem := [], m := 6, id := 25, mout := 48, ret := sl 0 48, mem1 := [(ub 6 48, true)] }
def kOfW : K := { f := 23, args := [sl 0 6], mem := [(us 0 6, false)], m := 6, id := 26, mout := 48, ret := sl 1 48, mem1 := [(us 0 6, false), (ub 6 48, true)] }
def kSameB : K := { f := 21, args := [sl 0 48, sl 1 48], mem := [(ub 0 48, false), (ub 48 48, false)], m := 96, id := 27, mout := 1, ret := bo 96, mem1 := [(ub 0 48, false), (ub 48 48, false)] }
def kReg : K := { f := 24, args := [sl 0 6, sl 1 6], mem := r2, m := 12, id := 28, mout := 6, ret := sl 2 6, mem1 := r2 ++ [(us 12 6, true)] }
def qi : Int := 9940570264628428797
theorem qinv : QInv prime qi := ⟨⟨by decide, by decide⟩, by decide⟩
theorem q_pos : 0 < vw prime := by decide
theorem q_odd : vw prime % 2 = 1 := by decide
theorem bask (κ : K) : BAsk (AA.to κ) 6 prime := ⟨fun _ _ _ h => h, fun _ _ h => h, fun _ _ h => h, fun _ _ h => h, fun _ _ h => h, fun _ _ h => h⟩
theorem mask (κ : K) : MAsk (AA.to κ) := ⟨fun _ _ _ _ h => h, fun _ _ h => h, fun _ _ h => h⟩
theorem mul64_ok : KOk Try.prog AA kMul64 := k_of (L := []) (by simp) (by kernel_rfl) (by kernel_rfl) (T := mulT) (by kernel_rfl) fun env hl hw => mulT_ok hl hw fun e os h => fin_of hl h
theorem l20 : ∀ κ ∈ [kMul64], KOk Try.prog AA κ := by
  intro κ h
  simp only [List.mem_cons, List.not_mem_nil, or_false] at h
  rcases h with rfl
  exact mul64_ok
theorem madd0_ok : KOk Try.prog AA kMadd0 := k_of (L := [kMul64]) l20 (by kernel_rfl) (by kernel_rfl) (T := madd0T) (by kernel_rfl) fun env hl hw => madd0T_ok (fun _ _ h => h) (fun _ h => h) hl hw fun e os h => fin_of hl h
theorem madd2_ok : KOk Try.prog AA kMadd2 := k_of (L := [kMul64]) l20 (by kernel_rfl) (by kernel_rfl) (T := madd2T) (by kernel_rfl) fun env hl hw => madd2T_ok (fun _ _ h => h) (fun _ h => h) hl hw fun e os h => fin_of hl h
theorem half_ok : KOk Try.prog AA kHalf := k_of (L := []) (by simp) (by kernel_rfl) (by kernel_rfl) (T := halfCh (vr 0 6) 6 []) (by kernel_rfl) fun env hl hw => halfT_ok (by decide) hl hw fun e os h => fin_of hl h
theorem from_ok : KOk Try.prog AA kFrom := k_of (L := [kMadd0, kMadd2, kSmall]) (by
  intro κ h
  simp only [List.mem_cons, List.not_mem_nil, or_false] at h
  rcases h with rfl | rfl | rfl
  · exact madd0_ok
  · exact madd2_ok
  · exact small_ok) (by kernel_rfl) (by kernel_rfl) (T := fromT 6 prime qi) (by kernel_rfl) fun env hl hw => fromT_ok (wask kFrom) (mask kFrom) wq q_pos qinv (by decide) hl hw fun e os h => fin_of hl h
theorem bytes_ok : KOk Try.prog AA kBytes := k_of (L := [kFrom]) (by
  intro κ h
  simp only [List.mem_cons, List.not_mem_nil, or_false] at h
  rcases h with rfl
  exact from_ok) (by kernel_rfl) (by kernel_rfl) (T := bytesT 6) (by kernel_rfl) fun env hl hw => bytesT_ok (bask kBytes) hl hw fun e os h => fin_of hl h
theorem ofW_ok : KOk Try.prog AA kOfW := k_of (L := []) (by simp) (by kernel_rfl) (by kernel_rfl) (T := ofWT 6) (by kernel_rfl) fun env hl _ => ofWT_ok hl fun e os h => fin_of hl h

/-! ### the regular form: a loop -/
def pReg : PC := { nt := 43, sl := [0, 1, 5], args := [.cc (.ss 0 0 6 6), .cc (.ss 1 0 6 6), .cc (.ii .i64 (.lit 0))], mem := r2, m := 12, ex := [{ e := .exit 0, out := [0], id := 29, mout := 6, ret := [.cc (.ss 2 0 6 6)], mem1 := r2 ++ [(us 12 6, true)] }] }
def hReg : Nat → HS
  | 0 => pReg.h0
  | i + 1 => { mout := 6, ret := [.cc (.ss 2 0 6 6), .cc (.ss 1 0 6 6), .cc (.ii .i64 (.lit ((i + 1 : Nat) : Int)))], mem1 := r2 ++ [(us 12 6, true)] }
def curReg : Nat → List SI
  | 0 => vr 0 6
  | _ + 1 => vr 12 6
def neReg : Nat → Nat
  | 0 => 12
  | _ + 1 => 18
def exReg (i : Nat) : Tree := bif Nat.beq i 384 then .fin (enc (curReg i)) { st0 with fn := 1 } else regT 6 (curReg i) (neReg i)
noncomputable def rdReg (i : Nat) : Tree := xcode (CC [kPlus, kHalf]) 60 24 0 (bodyOf Try.prog 24 0) (headSt pReg (hReg i)) (kend pReg (hReg (i + 1)))
theorem rdReg_eq0 : (List.range 33).all (fun j => Tree.beq (rdReg (0 + j)) (exReg (0 + j))) = true := by kernel_rfl
theorem rdReg_eq1 : (List.range 33).all (fun j => Tree.beq (rdReg (33 + j)) (exReg (33 + j))) = true := by kernel_rfl
theorem rdReg_eq2 : (List.range 33).all (fun j => Tree.beq (rdReg (66 + j)) (exReg (66 + j))) = true := by kernel_rfl
theorem rdReg_eq3 : (List.range 33).all (fun j => Tree.beq (rdReg (99 + j)) (exReg (99 + j))) = true := by kernel_rfl
theorem rdReg_eq4 : (List.range 33).all (fun j => Tree.beq (rdReg (132 + j)) (exReg (132 + j))) = true := by kernel_rfl
theorem rdReg_eq5 : (List.range 33).all (fun j => Tree.beq (rdReg (165 + j)) (exReg (165 + j))) = true := by kernel_rfl
theorem rdReg_eq6 : (List.range 33).all (fun j => Tree.beq (rdReg (198 + j)) (exReg (198 + j))) = true := by kernel_rfl
theorem rdReg_eq7 : (List.range 33).all (fun j => Tree.beq (rdReg (231 + j)) (exReg (231 + j))) = true := by kernel_rfl
theorem rdReg_eq8 : (List.range 33).all (fun j => Tree.beq (rdReg (264 + j)) (exReg (264 + j))) = true := by kernel_rfl
theorem rdReg_eq9 : (List.range 33).all (fun j => Tree.beq (rdReg (297 + j)) (exReg (297 + j))) = true := by kernel_rfl
theorem rdReg_eq10 : (List.range 33).all (fun j => Tree.beq (rdReg (330 + j)) (exReg (330 + j))) = true := by kernel_rfl
theorem rdReg_eq11 : (List.range 22).all (fun j => Tree.beq (rdReg (363 + j)) (exReg (363 + j))) = true := by kernel_rfl
theorem rdReg_use {k m i : Nat} (h : (List.range m).all (fun j => Tree.beq (rdReg (k + j)) (exReg (k + j))) = true) (hi : k ≤ i ∧ i < k + m) : rdReg i = exReg i := by
  have := all_trees (f := fun j => rdReg (k + j)) (g := fun j => exReg (k + j)) h (show i - k < m by omega)
  have e : k + (i - k) = i := by omega
  simp only [e] at this
  exact this
theorem rdReg_eq {i : Nat} (hi : i < 385) : rdReg i = exReg i := by
  rcases (show (0 ≤ i ∧ i < 0 + 33) ∨ (33 ≤ i ∧ i < 33 + 33) ∨ (66 ≤ i ∧ i < 66 + 33) ∨ (99 ≤ i ∧ i < 99 + 33) ∨ (132 ≤ i ∧ i < 132 + 33) ∨ (165 ≤ i ∧ i < 165 + 33) ∨ (198 ≤ i ∧ i < 198 + 33) ∨ (231 ≤ i ∧ i < 231 + 33) ∨ (264 ≤ i ∧ i < 264 + 33) ∨ (297 ≤ i ∧ i < 297 + 33) ∨ (330 ≤ i ∧ i < 330 + 33) ∨ (363 ≤ i ∧ i < 363 + 22) by omega) with h | h | h | h | h | h | h | h | h | h | h | h
  · exact rdReg_use rdReg_eq0 h
  · exact rdReg_use rdReg_eq1 h
  · exact rdReg_use rdReg_eq2 h
  · exact rdReg_use rdReg_eq3 h
  · exact rdReg_use rdReg_eq4 h
  · exact rdReg_use rdReg_eq5 h
  · exact rdReg_use rdReg_eq6 h
  · exact rdReg_use rdReg_eq7 h
  · exact rdReg_use rdReg_eq8 h
  · exact rdReg_use rdReg_eq9 h
  · exact rdReg_use rdReg_eq10 h
  · exact rdReg_use rdReg_eq11 h
def invReg (i : Nat) (env ys : List Int) : Prop := i ≤ 384 ∧ Wds env ∧ RegI (env.drop 6) (env.take 6) i (match i with | 0 => env.take 6 | _ + 1 => ys)
theorem waskR (p : PC) (i : Nat) (h : HS) (Inv : Nat → List Int → List Int → Prop) (μ : Nat → List Int → List Int → Nat) : WAsk (AA.rnd p i h Inv μ) 6 prime := ⟨fun _ _ _ h => h, fun _ _ h => h, fun _ _ h => h, fun _ _ h => h, fun _ _ h => h, fun _ _ h => h, fun _ _ h => h, fun _ _ h => h, fun _ _ h => h, fun _ _ h => h, fun _ _ h => h, fun _ _ h => h, fun _ _ h => h⟩
theorem baskR (p : PC) (i : Nat) (h : HS) (Inv : Nat → List Int → List Int → Prop) (μ : Nat → List Int → List Int → Nat) : BAsk (AA.rnd p i h Inv μ) 6 prime := ⟨fun _ _ _ h => h, fun _ _ h => h, fun _ _ h => h, fun _ _ h => h, fun _ _ h => h, fun _ _ h => h⟩
theorem reg_round (i : Nat) (env ys : List Int) (hl : env.length = 12) (hy : ys.length = (hReg i).mout) (hi : invReg i env ys) : (rdReg i).holds (AA.rnd pReg i (hReg i) invReg (fun i _ _ => 385 - i)) (env ++ ys) := by
  obtain ⟨hi, hw, hr⟩ := hi
  rw [rdReg_eq (show i < 385 by omega)]
  -- what stands at the head
  have hc : ∃ c, (curReg i).map (·.val (env ++ ys)) = c ∧ RegI (env.drop 6) (env.take 6) i c ∧ neReg i = (env ++ ys).length ∧ (curReg i).length = 6 ∧ (∀ x ∈ curReg i, Bd (neReg i) x) := by
    match i, hy, hr with
    | 0, hy, hr =>
      have hy : ys.length = 0 := hy
      exact ⟨_, by rw [show curReg 0 = vr 0 6 from rfl, vals_more (vr_bd (by omega)), vr_vals (by omega), List.drop_zero], hr, by simp [neReg, hl, hy], rfl, vr_bd (by decide)⟩
    | i + 1, hy, hr =>
      have hy : ys.length = 6 := hy
      exact ⟨ys, by
        have := vals_new hl.symm hy.symm
        exact this, hr, by simp [neReg, hl, hy], rfl, vr_bd (show 12 + 6 ≤ 18 by decide)⟩
  obtain ⟨c, kc, hr, hne, lc, bc⟩ := hc
  have htake : ∀ e, (env ++ ys ++ e).take pReg.m = env := fun e => by rw [List.append_assoc]; exact List.take_left' hl
  unfold exReg
  cases hb : Nat.beq i 384
  · rw [cond_false]
    have hne64 : i ≠ 384 := fun e => by subst e; simp at hb
    have hm : (vr 6 6).map (·.val (env ++ ys)) = env.drop 6 := by
      rw [vals_more (vr_bd (by omega)), vr_vals (by omega), List.take_of_length_le (by simp; omega)]
    have wc := hr.2.1
    refine regT_ok (waskR ..) (baskR ..) (by decide) lc hne bc kc hm wc (hw.drop _) (by rw [hne]; simp; omega) fun e os lo wo h0 h1 => ?_
    have hinv : invReg (i + 1) env (os.map (·.val (env ++ ys ++ e))) := by
      refine ⟨by omega, hw, ?_⟩
      show RegI _ _ (i + 1) (os.map _)
      rcases (show vw c % 2 = 0 ∨ vw c % 2 = 1 by omega) with h | h
      · exact reg_even hr h (h0 h)
      · exact reg_odd hr h (by rw [lo]; simp; omega) wo (h1 h)
    show invReg (i + 1) ((env ++ ys ++ e).take pReg.m) ((dec (enc os)).map (·.val (env ++ ys ++ e))) ∧ _
    rw [dec_enc, htake]
    exact ⟨hinv, by show 385 - (i + 1) < 385 - i; omega⟩
  · rw [cond_true]
    have hi64 := Nat.eq_of_beq_eq_true hb
    have := htake []
    rw [List.append_nil] at this
    show RegI (((env ++ ys).take pReg.m).drop 6) (((env ++ ys).take pReg.m).take 6) (64 * 6) ((dec (enc (curReg i))).map (·.val (env ++ ys)))
    rw [dec_enc, this, kc]
    rw [hi64] at hr
    exact hr
theorem regLoop_ok : ∀ c, InF Try.prog 24 (2 * 0, c) → PcKOk Try.prog AA pReg c :=
  loop_piece (C := CC [kPlus, kHalf]) mixed ext0 (conOf_ok (by
    intro κ h
    simp only [List.mem_cons, List.not_mem_nil, or_false] at h
    rcases h with rfl | rfl
    · exact plus_ok
    · exact half_ok)) (fun _ _ _ _ _ _ h => by cases h) 60 (by kernel_rfl) (by kernel_rfl) hReg invReg (fun i _ _ => 385 - i) rfl
    (fun env hl _ hp => ⟨by omega, hp _ (List.mem_cons_self ..), reg_zero ((hp _ (List.mem_cons_self ..) : Wds env).take _)⟩) fun i env ys hl hy _ hi => reg_round i env ys hl hy hi
noncomputable def CReg : Cfg := ⟨Try.prog, mkExt 37 36 3 48, conOf [], pcOf [((24, 0), pReg)]⟩
theorem reg_ok : KOk Try.prog AA kReg :=
  kok_of (C := CReg) mixed ext0 (conOf_ok (by simp)) (pcOf_ok (by
    intro q hq
    simp only [List.mem_cons, List.not_mem_nil, or_false] at hq
    subst hq
    exact ⟨by decide, regLoop_ok⟩)) 60 (by kernel_rfl) fun env hl hr hp => by
    have ht : xcall CReg (fun f => xcode CReg 60 f 0) kReg.f kReg.args kReg.st kReg.end = .hav 29 (vr 0 12) 6 (.fin (enc (vr 12 6)) st0) := by kernel_rfl
    rw [ht]
    have hv : (vr 0 12).map (·.val env) = env := one_vr hl
    refine ⟨by rw [hv]; exact hp, fun ys hy h => ?_⟩
    rw [hv] at h
    have hy' : ys.length = 6 := hy
    have hl' : env.length = 12 := hl
    have := fin_of (A := AA) (κ := kReg) (env := env) (e := ys) (os := vr 12 6) hl (by
      have hv := vals_new hl'.symm hy'.symm
      rw [hv]; exact h)
    exact this

/-! ### bytes that are the same -/
theorem str_inj {xs ys : List Int} (hx : ∀ x ∈ xs, 0 ≤ x ∧ x < 256) (hy : ∀ y ∈ ys, 0 ≤ y ∧ y < 256) (h : strOfNums xs = strOfNums ys) : xs = ys := by
  have h1 := congrArg (fun s : ByteArray => s.data.toList) h
  simp only [strOfNums_data] at h1
  have key : ∀ (xs ys : List Int), (∀ x ∈ xs, 0 ≤ x ∧ x < 256) → (∀ y ∈ ys, 0 ≤ y ∧ y < 256) → (xs.map fun n => UInt8.ofNat n.toNat) = (ys.map fun n => UInt8.ofNat n.toNat) → xs = ys := by
    intro xs
    induction xs with
    | nil => intro ys _ _ h; cases ys with
      | nil => rfl
      | cons y ys => simp at h
    | cons x xs ih => intro ys hx hy h; cases ys with
      | nil => simp at h
      | cons y ys =>
        simp only [List.map_cons, List.cons.injEq] at h
        have b1 := hx x (List.mem_cons_self ..)
        have b2 := hy y (List.mem_cons_self ..)
        have h2 := congrArg UInt8.toNat h.1
        rw [UInt8.toNat_ofNat', UInt8.toNat_ofNat'] at h2
        have : x = y := by omega
        rw [this, ih ys (fun z hz => hx z (List.mem_cons_of_mem _ hz)) (fun z hz => hy z (List.mem_cons_of_mem _ hz)) h.2]
  exact key xs ys hx hy h1
theorem sameB_call {b1 o1 b2 o2 c1 c2 : Nat} {xs ys : List Int} (hx : xs.length = 48) (hy : ys.length = 48) {w : World}
    (h1 : ∀ i, i < 48 → w.cell? ⟨b1, o1 + i, none⟩ = some (.int .u8 (xs.getD i 0))) (h2 : ∀ i, i < 48 → w.cell? ⟨b2, o2 + i, none⟩ = some (.int .u8 (ys.getD i 0))) :
    Calls Try.prog 21 #[.slice (some ⟨b1, o1, none⟩) 48 c1, .slice (some ⟨b2, o2, none⟩) 48 c2] w fun e w' => e = .returned (.bool ((strOfNums xs).toList == (strOfNums ys).toList)) ∧ w' = w := by
  have k1 := run_convert_bytes_arg w 37 5 Try.underlying37 Try.underlying5 b1 o1 48 c1 xs hx h1 9 Try.underlying9
  have k2 := run_convert_bytes_arg w 37 5 Try.underlying37 Try.underlying5 b2 o2 48 c2 ys hy h2 9 Try.underlying9
  clear h1 h2
  go_enter Try.func21, Try.ntmps21
  go_wp2
  go_ret
  exact ⟨rfl, rfl⟩
theorem toList_loop (b : ByteArray) : ∀ (n i : Nat) (r : List UInt8), b.size = i + n → ByteArray.toList.loop b i r = r.reverse ++ b.data.toList.drop i
  | 0, i, r, h => by
    rw [ByteArray.toList.loop.eq_1, if_neg (by omega), List.drop_of_length_le (by simp only [Array.length_toList]; simp only [ByteArray.size] at h; omega), List.append_nil]
  | n + 1, i, r, h => by
    rw [ByteArray.toList.loop.eq_1, if_pos (by omega), toList_loop b n (i + 1) _ (by omega)]
    have hi : i < b.data.toList.length := by simp only [Array.length_toList]; simp only [ByteArray.size] at h; omega
    rw [List.drop_eq_getElem_cons hi, List.reverse_cons, List.append_assoc]
    have : b.get! i = b.data.toList[i] := by
      show b.data[i]! = _
      rw [getElem!_pos b.data i (by simpa using hi), Array.getElem_toList]
    rw [this]
    rfl
theorem toList_data (b : ByteArray) : b.toList = b.data.toList := toList_loop b b.size 0 [] (by omega)
theorem str_dec {xs ys : List Int} (hx : ∀ x ∈ xs, 0 ≤ x ∧ x < 256) (hy : ∀ y ∈ ys, 0 ≤ y ∧ y < 256) : ((strOfNums xs).toList == (strOfNums ys).toList) = decide (xs = ys) := by
  by_cases h : xs = ys
  · subst h
    simp
  · rw [decide_eq_false h, beq_eq_false_iff_ne]
    intro e
    rw [toList_data, toList_data] at e
    exact h (str_inj hx hy (congrArg (fun l : List UInt8 => (⟨l.toArray⟩ : ByteArray)) e))
theorem ub_cells {env : List Int} {β : List (Nat × Nat)} {w : World} {x : Nat × Nat} {i n : Nat}
    (h : ∀ (j : Nat) (sc : SC), (ub i n)[j]? = some sc → ∃ v, w.cell? ⟨x.1, x.2 + j, none⟩ = some v ∧ sc.is env β v) :
    (∀ j, j < n → w.cell? ⟨x.1, x.2 + j, none⟩ = some (.int .u8 (((env.drop i).take n).getD j 0))) ∧ ∀ y ∈ (env.drop i).take n, 0 ≤ y ∧ y < 256 := by
  have each : ∀ j, j < n → ∃ y, env[i + j]? = some y ∧ (0 ≤ y ∧ y < 256) ∧ w.cell? ⟨x.1, x.2 + j, none⟩ = some (.int .u8 y) := fun j hj => by
    obtain ⟨v, hv, y, hy, hf, rfl⟩ := h j (.ii .u8 (.var (i + j))) (by simp [ub, hj])
    have hf := (fits_iff .u8 y).1 hf
    have h1 : kMin .u8 = 0 := by decide
    have h2 : kMax .u8 = 255 := by decide
    exact ⟨y, hy, by omega, hv⟩
  constructor
  · intro j hj
    obtain ⟨y, hy, _, hv⟩ := each j hj
    rw [hv, List.getD_eq_getElem?_getD, List.getElem?_take, if_pos hj, List.getElem?_drop, hy]
    rfl
  · intro y hy
    obtain ⟨j, hj, rfl⟩ := List.getElem_of_mem hy
    have hj' : j < n := by simp at hj; omega
    obtain ⟨y, hy, hb, _⟩ := each j hj'
    have : ((env.drop i).take n)[j]? = some y := by rw [List.getElem?_take, if_pos hj', List.getElem?_drop, hy]
    rw [List.getElem?_eq_getElem hj] at this
    injection this with this
    rw [this]; exact hb
theorem sameB_ok : KOk Try.prog AA kSameB := by
  intro env β vs w hl hM ha _
  have hl' : env.length = 96 := hl
  obtain ⟨v1, v2, rfl⟩ : ∃ v1 v2, vs = [v1, v2] := by
    match vs, ha with
    | [v1, v2], _ => exact ⟨v1, v2, rfl⟩
  obtain ⟨⟨x1, e1, rfl⟩, ⟨x2, e2, rfl⟩, _⟩ := ha
  have c1 := ub_cells (i := 0) (n := 48) (hM.cells 0 _ _ x1 rfl e1)
  have c2 := ub_cells (i := 48) (n := 48) (hM.cells 1 _ _ x2 rfl e2)
  have l1 : ((env.drop 0).take 48).length = 48 := by simp; omega
  have l2 : ((env.drop 48).take 48).length = 48 := by simp; omega
  have q2 : (env.drop 48).take 48 = env.drop 48 := List.take_of_length_le (by simp; omega)
  refine (sameB_call l1 l2 c1.1 c2.1).mono fun e w' ⟨he, hw⟩ => ?_
  subst he
  subst hw
  rw [str_dec c1.2 c2.2, q2, List.drop_zero]
  refine ⟨[b01 (decide (env.take 48 = env.drop 48))], β, _, rfl, rfl, rfl, ⟨[], by simp⟩, ⟨_, ?_, rfl⟩, hM.more _, fun i x hi hx => ?_⟩
  · show (env ++ _)[_]? = _
    simp [hl']
  · have := hM.nb
    rw [List.getElem?_eq_none (by rw [this]; exact hi)] at hx
    cases hx
end Go.Proofs.Ytjjmlliiclfpeaa
