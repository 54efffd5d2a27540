/-
  The contracts of the functions that the law on bytes reaches. No conditions.
-/
import Derived.Test.YtkfojkdlojmgoaaFaC
import Derived.Laws.BytesArg
import Derived.Deep.QuietTactic
import Derived.BigQuiet
namespace Go.Proofs.Ytkfojkdlojmgoaa
open Go Eng Go.RowKit
set_option maxRecDepth 100000
def w1 (x : Nat) : SV := .ww (.cc (u x))
def ub (i n : Nat) : List SC := (List.range n).map fun j => .ii .u8 (.var (i + j))
def kMul64 : K := { f := 48, args := [w1 0, w1 1], mem := [], m := 2, id := 20, mout := 2, ret := .tt [.cc (u 2), .cc (u 3)], mem1 := [] }
def kMadd0 : K := { f := 46, args := [w1 0, w1 1, w1 2], mem := [], m := 3, id := 21, mout := 1, ret := w1 3, mem1 := [] }
def kMadd2 : K := { f := 47, args := [w1 0, w1 1, w1 2, w1 3], mem := [], m := 4, id := 22, mout := 2, ret := .tt [.cc (u 4), .cc (u 5)], mem1 := [] }
def kFrom : K := { f := 45, args := [pt 0], mem := [(us 0 4, true)], m := 4, id := 23, mout := 4, ret := .tt [], mem1 := [(us 4 4, true)] }
def kHalf : K := { f := 35, args := [sl 0 4], mem := [(us 0 4, false)], m := 4, id := 24, mout := 4, ret := sl 1 4, mem1 := [(us 0 4, false), (us 4 4, true)] }
def kBytes : K := { f := 22, args := [ar 0 4], mem := [], m := 4, id := 25, mout := 32, ret := sl 0 32, mem1 := [(ub 4 32, true)] }
def kOfW : K := { f := 23, args := [sl 0 4], mem := [(us 0 4, false)], m := 4, id := 26, mout := 32, ret := sl 1 32, mem1 := [(us 0 4, false), (ub 4 32, true)] }
def kSameB : K := { f := 21, args := [sl 0 32, sl 1 32], mem := [(ub 0 32, false), (ub 32 32, false)], m := 64, id := 27, mout := 1, ret := bo 64, mem1 := [(ub 0 32, false), (ub 32 32, false)] }
def kReg : K := { f := 24, args := [sl 0 4, sl 1 4], mem := r2, m := 8, id := 28, mout := 4, ret := sl 2 4, mem1 := r2 ++ [(us 8 4, true)] }
def qi : Int := 14042775128853446655
theorem qinv : QInv prime qi := ⟨⟨by decide, by decide⟩, by decide⟩
theorem q_pos : 0 < vw prime := by decide
theorem q_odd : vw prime % 2 = 1 := by decide
theorem bask (κ : K) : BAsk (AA.to κ) 4 prime := ⟨fun _ _ _ h => h, fun _ _ h => h, fun _ _ h => h, fun _ _ h => h, fun _ _ h => h, fun _ _ h => h⟩
theorem mask (κ : K) : MAsk (AA.to κ) := ⟨fun _ _ _ _ h => h, fun _ _ h => h, fun _ _ h => h⟩
theorem mul64_ok : KOk Try.prog AA kMul64 := k_of (L := []) (by simp) (by kernel_rfl) (by kernel_rfl) (T := mulT) (by kernel_rfl) fun env hl hw => mulT_ok hl hw fun e os h => fin_of hl h
theorem l20 : ∀ κ ∈ [kMul64], KOk Try.prog AA κ := by
  intro κ h
  simp only [List.mem_cons, List.not_mem_nil, or_false] at h
  rcases h with rfl
  exact mul64_ok
theorem madd0_ok : KOk Try.prog AA kMadd0 := k_of (L := [kMul64]) l20 (by kernel_rfl) (by kernel_rfl) (T := madd0T) (by kernel_rfl) fun env hl hw => madd0T_ok (fun _ _ h => h) (fun _ h => h) hl hw fun e os h => fin_of hl h
theorem madd2_ok : KOk Try.prog AA kMadd2 := k_of (L := [kMul64]) l20 (by kernel_rfl) (by kernel_rfl) (T := madd2T) (by kernel_rfl) fun env hl hw => madd2T_ok (fun _ _ h => h) (fun _ h => h) hl hw fun e os h => fin_of hl h
theorem half_ok : KOk Try.prog AA kHalf := k_of (L := []) (by simp) (by kernel_rfl) (by kernel_rfl) (T := halfCh (vr 0 4) 4 []) (by kernel_rfl) fun env hl hw => halfT_ok (by decide) hl hw fun e os h => fin_of hl h
theorem from_ok : KOk Try.prog AA kFrom := k_of (L := [kMadd0, kMadd2, kSmall]) (by
  intro κ h
  simp only [List.mem_cons, List.not_mem_nil, or_false] at h
  rcases h with rfl | rfl | rfl
  · exact madd0_ok
  · exact madd2_ok
  · exact small_ok) (by kernel_rfl) (by kernel_rfl) (T := fromT 4 prime qi) (by kernel_rfl) fun env hl hw => fromT_ok (wask kFrom) (mask kFrom) wq q_pos qinv (by decide) hl hw fun e os h => fin_of hl h
theorem bytes_ok : KOk Try.prog AA kBytes := k_of (L := [kFrom]) (by
  intro κ h
  simp only [List.mem_cons, List.not_mem_nil, or_false] at h
  rcases h with rfl
  exact from_ok) (by kernel_rfl) (by kernel_rfl) (T := bytesT 4) (by kernel_rfl) fun env hl hw => bytesT_ok (bask kBytes) hl hw fun e os h => fin_of hl h
theorem ofW_ok : KOk Try.prog AA kOfW := k_of (L := []) (by simp) (by kernel_rfl) (by kernel_rfl) (T := ofWT 4) (by kernel_rfl) fun env hl _ => ofWT_ok hl fun e os h => fin_of hl h

/-! ### the regular form: a loop -/
def pReg : PC := { nt := 43, sl := [0, 1, 5], args := [.cc (.ss 0 0 4 4), .cc (.ss 1 0 4 4), .cc (.ii .i64 (.lit 0))], mem := r2, m := 8, ex := [{ e := .exit 0, out := [0], id := 29, mout := 4, ret := [.cc (.ss 2 0 4 4)], mem1 := r2 ++ [(us 8 4, true)] }] }
def hReg : Nat → HS
  | 0 => pReg.h0
  | i + 1 => { mout := 4, ret := [.cc (.ss 2 0 4 4), .cc (.ss 1 0 4 4), .cc (.ii .i64 (.lit ((i + 1 : Nat) : Int)))], mem1 := r2 ++ [(us 8 4, true)] }
def curReg : Nat → List SI
  | 0 => vr 0 4
  | _ + 1 => vr 8 4
def neReg : Nat → Nat
  | 0 => 8
  | _ + 1 => 12
def exReg (i : Nat) : Tree := bif Nat.beq i 256 then .fin (enc (curReg i)) { st0 with fn := 1 } else regT 4 (curReg i) (neReg i)
noncomputable def rdReg (i : Nat) : Tree := xcode (CC [kPlus, kHalf]) 60 24 0 (bodyOf Try.prog 24 0) (headSt pReg (hReg i)) (kend pReg (hReg (i + 1)))
theorem rdReg_eq {i : Nat} (hi : i < 257) : rdReg i = exReg i :=
  all_trees (f := rdReg) (g := exReg) (n := 257) (by kernel_rfl) hi
def invReg (i : Nat) (env ys : List Int) : Prop := i ≤ 256 ∧ Wds env ∧ RegI (env.drop 4) (env.take 4) i (match i with | 0 => env.take 4 | _ + 1 => ys)
theorem waskR (p : PC) (i : Nat) (h : HS) (Inv : Nat → List Int → List Int → Prop) (μ : Nat → List Int → List Int → Nat) : WAsk (AA.rnd p i h Inv μ) 4 prime := ⟨fun _ _ _ h => h, fun _ _ h => h, fun _ _ h => h, fun _ _ h => h, fun _ _ h => h, fun _ _ h => h, fun _ _ h => h, fun _ _ h => h, fun _ _ h => h, fun _ _ h => h, fun _ _ h => h, fun _ _ h => h, fun _ _ h => h⟩
theorem baskR (p : PC) (i : Nat) (h : HS) (Inv : Nat → List Int → List Int → Prop) (μ : Nat → List Int → List Int → Nat) : BAsk (AA.rnd p i h Inv μ) 4 prime := ⟨fun _ _ _ h => h, fun _ _ h => h, fun _ _ h => h, fun _ _ h => h, fun _ _ h => h, fun _ _ h => h⟩
theorem reg_round (i : Nat) (env ys : List Int) (hl : env.length = 8) (hy : ys.length = (hReg i).mout) (hi : invReg i env ys) : (rdReg i).holds (AA.rnd pReg i (hReg i) invReg (fun i _ _ => 257 - i)) (env ++ ys) := by
  obtain ⟨hi, hw, hr⟩ := hi
  rw [rdReg_eq (show i < 257 by omega)]
  -- what stands at the head
  have hc : ∃ c, (curReg i).map (·.val (env ++ ys)) = c ∧ RegI (env.drop 4) (env.take 4) i c ∧ neReg i = (env ++ ys).length ∧ (curReg i).length = 4 ∧ (∀ x ∈ curReg i, Bd (neReg i) x) := by
    match i, hy, hr with
    | 0, hy, hr =>
      have hy : ys.length = 0 := hy
      exact ⟨_, by rw [show curReg 0 = vr 0 4 from rfl, vals_more (vr_bd (by omega)), vr_vals (by omega), List.drop_zero], hr, by simp [neReg, hl, hy], rfl, vr_bd (by decide)⟩
    | i + 1, hy, hr =>
      have hy : ys.length = 4 := hy
      exact ⟨ys, by
        have := vals_new hl.symm hy.symm
        exact this, hr, by simp [neReg, hl, hy], rfl, vr_bd (show 8 + 4 ≤ 12 by decide)⟩
  obtain ⟨c, kc, hr, hne, lc, bc⟩ := hc
  have htake : ∀ e, (env ++ ys ++ e).take pReg.m = env := fun e => by rw [List.append_assoc]; exact List.take_left' hl
  unfold exReg
  cases hb : Nat.beq i 256
  · rw [cond_false]
    have hne64 : i ≠ 256 := fun e => by subst e; simp at hb
    have hm : (vr 4 4).map (·.val (env ++ ys)) = env.drop 4 := by
      rw [vals_more (vr_bd (by omega)), vr_vals (by omega), List.take_of_length_le (by simp; omega)]
    have wc := hr.2.1
    refine regT_ok (waskR ..) (baskR ..) (by decide) lc hne bc kc hm wc (hw.drop _) (by rw [hne]; simp; omega) fun e os lo wo h0 h1 => ?_
    have hinv : invReg (i + 1) env (os.map (·.val (env ++ ys ++ e))) := by
      refine ⟨by omega, hw, ?_⟩
      show RegI _ _ (i + 1) (os.map _)
      rcases (show vw c % 2 = 0 ∨ vw c % 2 = 1 by omega) with h | h
      · exact reg_even hr h (h0 h)
      · exact reg_odd hr h (by rw [lo]; simp; omega) wo (h1 h)
    show invReg (i + 1) ((env ++ ys ++ e).take pReg.m) ((dec (enc os)).map (·.val (env ++ ys ++ e))) ∧ _
    rw [dec_enc, htake]
    exact ⟨hinv, by show 257 - (i + 1) < 257 - i; omega⟩
  · rw [cond_true]
    have hi64 := Nat.eq_of_beq_eq_true hb
    have := htake []
    rw [List.append_nil] at this
    show RegI (((env ++ ys).take pReg.m).drop 4) (((env ++ ys).take pReg.m).take 4) (64 * 4) ((dec (enc (curReg i))).map (·.val (env ++ ys)))
    rw [dec_enc, this, kc]
    rw [hi64] at hr
    exact hr
theorem regLoop_ok : ∀ c, InF Try.prog 24 (2 * 0, c) → PcKOk Try.prog AA pReg c :=
  loop_piece (C := CC [kPlus, kHalf]) mixed ext0 (conOf_ok (by
    intro κ h
    simp only [List.mem_cons, List.not_mem_nil, or_false] at h
    rcases h with rfl | rfl
    · exact plus_ok
    · exact half_ok)) (fun _ _ _ _ _ _ h => by cases h) 60 (by kernel_rfl) (by kernel_rfl) hReg invReg (fun i _ _ => 257 - i) rfl
    (fun env hl _ hp => ⟨by omega, hp _ (List.mem_cons_self ..), reg_zero ((hp _ (List.mem_cons_self ..) : Wds env).take _)⟩) fun i env ys hl hy _ hi => reg_round i env ys hl hy hi
noncomputable def CReg : Cfg := ⟨Try.prog, mkExt 37 36 3 48, conOf [], pcOf [((24, 0), pReg)]⟩
theorem reg_ok : KOk Try.prog AA kReg :=
  kok_of (C := CReg) mixed ext0 (conOf_ok (by simp)) (pcOf_ok (by
    intro q hq
    simp only [List.mem_cons, List.not_mem_nil, or_false] at hq
    subst hq
    exact ⟨by decide, regLoop_ok⟩)) 60 (by kernel_rfl) fun env hl hr hp => by
    have ht : xcall CReg (fun f => xcode CReg 60 f 0) kReg.f kReg.args kReg.st kReg.end = .hav 29 (vr 0 8) 4 (.fin (enc (vr 8 4)) st0) := by kernel_rfl
    rw [ht]
    have hv : (vr 0 8).map (·.val env) = env := one_vr hl
    refine ⟨by rw [hv]; exact hp, fun ys hy h => ?_⟩
    rw [hv] at h
    have hy' : ys.length = 4 := hy
    have hl' : env.length = 8 := hl
    have := fin_of (A := AA) (κ := kReg) (env := env) (e := ys) (os := vr 8 4) hl (by
      have hv := vals_new hl'.symm hy'.symm
      rw [hv]; exact h)
    exact this

/-! ### bytes that are the same -/
theorem str_inj {xs ys : List Int} (hx : ∀ x ∈ xs, 0 ≤ x ∧ x < 256) (hy : ∀ y ∈ ys, 0 ≤ y ∧ y < 256) (h : strOfNums xs = strOfNums ys) : xs = ys := by
  have h1 := congrArg (fun s : ByteArray => s.data.toList) h
  simp only [strOfNums_data] at h1
  have key : ∀ (xs ys : List Int), (∀ x ∈ xs, 0 ≤ x ∧ x < 256) → (∀ y ∈ ys, 0 ≤ y ∧ y < 256) → (xs.map fun n => UInt8.ofNat n.toNat) = (ys.map fun n => UInt8.ofNat n.toNat) → xs = ys := by
    intro xs
    induction xs with
    | nil => intro ys _ _ h; cases ys with
      | nil => rfl
      | cons y ys => simp at h
    | cons x xs ih => intro ys hx hy h; cases ys with
      | nil => simp at h
      | cons y ys =>
        simp only [List.map_cons, List.cons.injEq] at h
        have b1 := hx x (List.mem_cons_self ..)
        have b2 := hy y (List.mem_cons_self ..)
        have h2 := congrArg UInt8.toNat h.1
        rw [UInt8.toNat_ofNat', UInt8.toNat_ofNat'] at h2
        have : x = y := by omega
        rw [this, ih ys (fun z hz => hx z (List.mem_cons_of_mem _ hz)) (fun z hz => hy z (List.mem_cons_of_mem _ hz)) h.2]
  exact key xs ys hx hy h1
theorem sameB_call {b1 o1 b2 o2 c1 c2 : Nat} {xs ys : List Int} (hx : xs.length = 32) (hy : ys.length = 32) {w : World}
    (h1 : ∀ i, i < 32 → w.cell? ⟨b1, o1 + i, none⟩ = some (.int .u8 (xs.getD i 0))) (h2 : ∀ i, i < 32 → w.cell? ⟨b2, o2 + i, none⟩ = some (.int .u8 (ys.getD i 0))) :
    Calls Try.prog 21 #[.slice (some ⟨b1, o1, none⟩) 32 c1, .slice (some ⟨b2, o2, none⟩) 32 c2] w fun e w' => e = .returned (.bool ((strOfNums xs).toList == (strOfNums ys).toList)) ∧ w' = w := by
  have k1 := run_convert_bytes_arg w 37 5 Try.underlying37 Try.underlying5 b1 o1 32 c1 xs hx h1 9 Try.underlying9
  have k2 := run_convert_bytes_arg w 37 5 Try.underlying37 Try.underlying5 b2 o2 32 c2 ys hy h2 9 Try.underlying9
  clear h1 h2
  go_enter Try.func21, Try.ntmps21
  go_wp2
  go_ret
  exact ⟨rfl, rfl⟩
theorem toList_loop (b : ByteArray) : ∀ (n i : Nat) (r : List UInt8), b.size = i + n → ByteArray.toList.loop b i r = r.reverse ++ b.data.toList.drop i
  | 0, i, r, h => by
    rw [ByteArray.toList.loop.eq_1, if_neg (by omega), List.drop_of_length_le (by simp only [Array.length_toList]; simp only [ByteArray.size] at h; omega), List.append_nil]
  | n + 1, i, r, h => by
    rw [ByteArray.toList.loop.eq_1, if_pos (by omega), toList_loop b n (i + 1) _ (by omega)]
    have hi : i < b.data.toList.length := by simp only [Array.length_toList]; simp only [ByteArray.size] at h; omega
    rw [List.drop_eq_getElem_cons hi, List.reverse_cons, List.append_assoc]
    have : b.get! i = b.data.toList[i] := by
      show b.data[i]! = _
      rw [getElem!_pos b.data i (by simpa using hi), Array.getElem_toList]
    rw [this]
    rfl
theorem toList_data (b : ByteArray) : b.toList = b.data.toList := toList_loop b b.size 0 [] (by omega)
theorem str_dec {xs ys : List Int} (hx : ∀ x ∈ xs, 0 ≤ x ∧ x < 256) (hy : ∀ y ∈ ys, 0 ≤ y ∧ y < 256) : ((strOfNums xs).toList == (strOfNums ys).toList) = decide (xs = ys) := by
  by_cases h : xs = ys
  · subst h
    simp
  · rw [decide_eq_false h, beq_eq_false_iff_ne]
    intro e
    rw [toList_data, toList_data] at e
    exact h (str_inj hx hy (congrArg (fun l : List UInt8 => (⟨l.toArray⟩ : ByteArray)) e))
theorem ub_cells {env : List Int} {β : List (Nat × Nat)} {w : World} {x : Nat × Nat} {i n : Nat}
    (h : ∀ (j : Nat) (sc : SC), (ub i n)[j]? = some sc → ∃ v, w.cell? ⟨x.1, x.2 + j, none⟩ = some v ∧ sc.is env β v) :
    (∀ j, j < n → w.cell? ⟨x.1, x.2 + j, none⟩ = some (.int .u8 (((env.drop i).take n).getD j 0))) ∧ ∀ y ∈ (env.drop i).take n, 0 ≤ y ∧ y < 256 := by
  have each : ∀ j, j < n → ∃ y, env[i + j]? = some y ∧ (0 ≤ y ∧ y < 256) ∧ w.cell? ⟨x.1, x.2 + j, none⟩ = some (.int .u8 y) := fun j hj => by
    obtain ⟨v, hv, y, hy, hf, rfl⟩ := h j (.ii .u8 (.var (i + j))) (by simp [ub, hj])
    have hf := (fits_iff .u8 y).1 hf
    have h1 : kMin .u8 = 0 := by decide
    have h2 : kMax .u8 = 255 := by decide
    exact ⟨y, hy, by omega, hv⟩
  constructor
  · intro j hj
    obtain ⟨y, hy, _, hv⟩ := each j hj
    rw [hv, List.getD_eq_getElem?_getD, List.getElem?_take, if_pos hj, List.getElem?_drop, hy]
    rfl
  · intro y hy
    obtain ⟨j, hj, rfl⟩ := List.getElem_of_mem hy
    have hj' : j < n := by simp at hj; omega
    obtain ⟨y, hy, hb, _⟩ := each j hj'
    have : ((env.drop i).take n)[j]? = some y := by rw [List.getElem?_take, if_pos hj', List.getElem?_drop, hy]
    rw [List.getElem?_eq_getElem hj] at this
    injection this with this
    rw [this]; exact hb
theorem sameB_ok : KOk Try.prog AA kSameB := by
  intro env β vs w hl hM ha _
  have hl' : env.length = 64 := hl
  obtain ⟨v1, v2, rfl⟩ : ∃ v1 v2, vs = [v1, v2] := by
    match vs, ha with
    | [v1, v2], _ => exact ⟨v1, v2, rfl⟩
  obtain ⟨⟨x1, e1, rfl⟩, ⟨x2, e2, rfl⟩, _⟩ := ha
  have c1 := ub_cells (i := 0) (n := 32) (hM.cells 0 _ _ x1 rfl e1)
  have c2 := ub_cells (i := 32) (n := 32) (hM.cells 1 _ _ x2 rfl e2)
  have l1 : ((env.drop 0).take 32).length = 32 := by simp; omega
  have l2 : ((env.drop 32).take 32).length = 32 := by simp; omega
  have q2 : (env.drop 32).take 32 = env.drop 32 := List.take_of_length_le (by simp; omega)
  refine (sameB_call l1 l2 c1.1 c2.1).mono fun e w' ⟨he, hw⟩ => ?_
  subst he
  subst hw
  rw [str_dec c1.2 c2.2, q2, List.drop_zero]
  refine ⟨[b01 (decide (env.take 32 = env.drop 32))], β, _, rfl, rfl, rfl, ⟨[], by simp⟩, ⟨_, ?_, rfl⟩, hM.more _, fun i x hi hx => ?_⟩
  · show (env ++ _)[_]? = _
    simp [hl']
  · have := hM.nb
    rw [List.getElem?_eq_none (by rw [this]; exact hi)] at hx
    cases hx
end Go.Proofs.Ytkfojkdlojmgoaa
