/-
  The contracts of the functions that the law on encodings reaches and that have no loops of their own. No conditions.
-/
import Derived.Test.YtnhhjhkeiplmpaaDoorEngC
import Derived.Test.YtnhhjhkeiplmpaaDoorWG
import Derived.Test.YtnhhjhkeiplmpaaDoorIL
import Derived.Test.YtnhhjhkeiplmpaaDoorCB
import Derived.Lib.BitFns
import Derived.Laws.BytesArg
import Derived.Deep.QuietTactic
import Derived.BigQuiet
import Derived.Lib.Strings
import Derived.Lib.Slices
import Derived.Lib.Small
import Derived.Lib.Walk
import Derived.WalkKit
import Derived.Deep.Light
import Derived.Test.YtnhhjhkeiplmpaaDoorProg
namespace Go.Proofs.YtnhhjhkeiplmpaaDoor
open Go Eng Go.RowKit
set_option maxRecDepth 100000
def prime : List Int := [4891460686036598785, 2896914383306846353, 13281191951274694749, 3486998266802970665]
def qi : Int := 14042775128853446655
def rsq : List Int := [1997599621687373223, 6052339484930628067, 10108755138030829701, 150537098327114917]
noncomputable def CP (L : List K) (Ps : List ((Nat × Nat) × PC)) : Cfg := ⟨Tryd.prog, mkExt 31 32 3 35, conOf L, pcOf Ps⟩
noncomputable def CC (L : List K) : Cfg := CP L []
noncomputable def tr (L : List K) (κ : K) : Tree := xcall (CC L) (fun f => xcode (CC L) 60 f 0) κ.f κ.args κ.st κ.end
def r2 : List (List SC × Bool) := [(us 0 4, false), (us 4 4, false)]
def r3 : List (List SC × Bool) := [(us 0 4, false), (us 4 4, false), (us 8 4, false)]
def w1 (x : Nat) : SV := .ww (.cc (u x))
def ub (i n : Nat) : List SC := (List.range n).map fun j => .ii .u8 (.var (i + j))
def kLess : K := { f := 19, args := [sl 0 4, sl 1 4], mem := r2, m := 8, id := 0, mout := 1, ret := bo 8, mem1 := r2 }
def kSmall : K := { f := 23, args := [pt 0], mem := [(us 0 4, false)], m := 4, id := 7, mout := 1, ret := bo 4, mem1 := [(us 0 4, false)] }
def kMul64 : K := { f := 30, args := [w1 0, w1 1], mem := [], m := 2, id := 20, mout := 2, ret := .tt [.cc (u 2), .cc (u 3)], mem1 := [] }
def kMadd0 : K := { f := 34, args := [w1 0, w1 1, w1 2], mem := [], m := 3, id := 21, mout := 1, ret := w1 3, mem1 := [] }
def kMadd2 : K := { f := 35, args := [w1 0, w1 1, w1 2, w1 3], mem := [], m := 4, id := 22, mout := 2, ret := .tt [.cc (u 4), .cc (u 5)], mem1 := [] }
def kPlus : K := { f := 18, args := [sl 0 4, sl 1 4], mem := r2, m := 8, id := 4, mout := 5, ret := .tt [.cc (.ss 2 0 4 4), .cc (.bb (.var 12))], mem1 := r2 ++ [(us 8 4, true)] }
def kLessen : K := { f := 20, args := [sl 0 4, sl 1 4], mem := r2, m := 8, id := 5, mout := 5, ret := .tt [.cc (.ss 2 0 4 4), .cc (.bb (.var 12))], mem1 := r2 ++ [(us 8 4, true)] }
def kAddW : K := { f := 13, args := [sl 0 4, sl 1 4, sl 2 4], mem := r3, m := 12, id := 11, mout := 4, ret := sl 3 4, mem1 := r3 ++ [(us 12 4, true)] }
def kFrom : K := { f := 33, args := [pt 0], mem := [(us 0 4, true)], m := 4, id := 23, mout := 4, ret := .tt [], mem1 := [(us 4 4, true)] }
def kBytes : K := { f := 9, args := [ar 0 4], mem := [], m := 4, id := 25, mout := 32, ret := sl 0 32, mem1 := [(ub 4 32, true)] }
def kOfW : K := { f := 6, args := [sl 0 4], mem := [(us 0 4, false)], m := 4, id := 26, mout := 32, ret := sl 1 32, mem1 := [(us 0 4, false), (ub 4 32, true)] }
def kSameB : K := { f := 5, args := [sl 0 32, sl 1 32], mem := [(ub 0 32, false), (ub 32 32, false)], m := 64, id := 27, mout := 1, ret := bo 64, mem1 := [(ub 0 32, false), (ub 32 32, false)] }
def kToM : K := { f := 24, args := [pt 0], mem := [(us 0 4, true)], m := 4, id := 38, mout := 4, ret := pt 0, mem1 := [(us 4 4, true)] }
def kBe : K := { f := 22, args := [sl 0 8], mem := [(ub 0 8, false)], m := 8, id := 39, mout := 1, ret := w1 8, mem1 := [(ub 0 8, false)] }
def post (id : Nat) (xs ys : List Int) : Prop := match id with
  | 0 => ys = [b01 (decide (vw (xs.take 4) < vw (xs.drop 4)))]
  | 4 => Plus (xs.take 4) (xs.drop 4) ys
  | 5 => Lessen (xs.take 4) (xs.drop 4) ys
  | 7 => ys = [b01 (decide (vw xs < vw prime))]
  | 11 => SumMod (xs.take 4) ((xs.drop 4).take 4) (xs.drop 8) ys
  | 13 => ys = [1]
  | 20 => Mul64 xs ys
  | 21 => Madd0 xs ys
  | 22 => Madd2 xs ys
  | 23 => Mont 4 prime xs ys
  | 25 => ∃ z, Mont 4 prime xs z ∧ ys = beB z
  | 26 => ys = beB xs
  | 27 => ys = [b01 (decide (xs.take (8 * 4) = xs.drop (8 * 4)))]
  | 38 => MulM 4 prime xs rsq ys
  | 39 => (∀ x ∈ xs, By x) → ys = [beV xs]
  | 40 => ys.length = 4 ∧ Wds ys ∧ ((∀ x ∈ xs.take 32, By x) → 1 < vw (xs.drop 32) → vw ys = beV (xs.take 32) % vw (xs.drop 32))
  | 41 => ys.length = 4 ∧ Wds ys ∧ ((∀ x ∈ xs.take 32, By x) → 1 < vw ((xs.drop 32).take 4) → vw (xs.drop (32 + 4)) = 0 → vw ys = beV (xs.take 32) % vw ((xs.drop 32).take 4))
  | 42 => ys = []
  | _ => False
def preX (_ : Nat) (_ : List Int) : Prop := True
theorem preX_of {id : Nat} {xs : List Int} (_ : id < 30) : preX id xs := trivial
def AA : Eng.Ask := { pre := fun id xs => Wds xs ∧ preX id xs, post := post, leaf := fun _ _ _ => False, fin := fun _ _ _ => False }
theorem wask {A : Eng.Ask} (h1 : A.pre = AA.pre) (h2 : A.post = AA.post) : WAsk A 4 prime := by
  refine ⟨fun id xs hid w => ?_, ?_, ?_, ?_, ?_, ?_, ?_, ?_, ?_, ?_, ?_, ?_, ?_⟩
  · rw [h1]; exact ⟨w, preX_of (by omega)⟩
  all_goals (rw [h2]; intro xs ys h; first | exact h | exact absurd h id)
theorem pask {A : Eng.Ask} (h1 : A.pre = AA.pre) (h2 : A.post = AA.post) : PAsk A := ⟨fun _ w => by rw [h1]; exact ⟨w, trivial⟩, fun _ _ h => by rw [h2] at h; exact h⟩
theorem mask {A : Eng.Ask} (h1 : A.pre = AA.pre) (h2 : A.post = AA.post) : MAsk A := ⟨fun id xs h3 h4 w => by rw [h1]; exact ⟨w, preX_of (by omega)⟩, fun _ _ h => by rw [h2] at h; exact h, fun _ _ h => by rw [h2] at h; exact h⟩
theorem bask {A : Eng.Ask} (h1 : A.pre = AA.pre) (h2 : A.post = AA.post) : BAsk A 4 prime := by
  refine ⟨fun id xs hid w => ?_, ?_, ?_, ?_, ?_, ?_⟩
  · rw [h1]; exact ⟨w, trivial⟩
  all_goals (rw [h2]; intro xs ys h; first | exact h | exact absurd h id)
theorem wq : WQ 4 prime := ⟨by
  intro x hx
  simp only [prime, List.mem_cons, List.not_mem_nil, or_false] at hx
  rcases hx with h | h | h | h <;> subst h <;> exact ⟨by decide, by decide⟩, rfl, by decide⟩
theorem qinv : QInv prime qi := ⟨⟨by decide, by decide⟩, by decide⟩
theorem q_pos : 0 < vw prime := by decide
theorem q_odd : vw prime % 2 = 1 := by decide
theorem rsq_wd : Wds rsq := by
  intro x hx
  simp only [rsq, List.mem_cons, List.not_mem_nil, or_false] at hx
  rcases hx with h | h | h | h <;> subst h <;> exact ⟨by decide, by decide⟩
theorem rsq_lt : vw rsq < vw prime := by decide
theorem mixed : Tryd.prog.follows .mixedOrders = true := by kernel_rfl
theorem ext0 : Ext Tryd.prog (mkExt 31 32 3 35) :=
  ext_of (P := Tryd.prog) (fa := Tryd.f31) (fs := Tryd.f32) (by kernel_rfl) (by kernel_rfl) (by kernel_rfl) (by kernel_rfl) (by kernel_rfl) (by kernel_rfl) (by kernel_rfl) (by kernel_rfl) (by kernel_rfl) (by kernel_rfl) (by kernel_rfl)
theorem k_of {L : List K} (h : ∀ κ ∈ L, KOk Tryd.prog AA κ) {κ : K} {T : Tree} (hx : mkExt 31 32 3 35 κ.f = 0) (hb : allB κ.m (rngA κ.args ++ rngM κ.mem) = true) (ht : tr L κ = T)
    (hh : ∀ env : List Int, env.length = κ.m → Wds env → preX κ.id env → T.holds (AA.to κ) env) : KOk Tryd.prog AA κ :=
  kok_of (C := CC L) mixed ext0 (conOf_ok h) (fun _ _ _ _ _ _ h => by cases h) 60 hx fun env hl hr hp => by
    have := hh env hl (wds_of hl hr hb) hp.2
    rw [← ht] at this
    exact this
theorem less_ok : KOk Tryd.prog AA kLess := k_of (L := []) (by simp) (by kernel_rfl) (by kernel_rfl) (T := lessR (vr 0 4).reverse (vr 4 4).reverse 8) (by kernel_rfl) fun env hl hw _ => lessF_ok (n := 4) hl hw fun e o ho => fin_of hl (congrArg (fun x => [x]) ho)
theorem small_ok : KOk Tryd.prog AA kSmall := k_of (L := []) (by simp) (by kernel_rfl) (by kernel_rfl) (T := smallR (vr 0 4).reverse (ls prime).reverse 4) (by kernel_rfl) fun env hl hw _ => smallF_ok wq (by decide) hl hw fun e o ho => fin_of hl (congrArg (fun x => [x]) ho)
theorem mul64_ok : KOk Tryd.prog AA kMul64 := k_of (L := []) (by simp) (by kernel_rfl) (by kernel_rfl) (T := mulT) (by kernel_rfl) fun env hl hw _ => mulT_ok hl hw fun e os h => fin_of hl h
theorem l20 : ∀ κ ∈ [kMul64], KOk Tryd.prog AA κ := by
  intro κ h
  simp only [List.mem_cons, List.not_mem_nil, or_false] at h
  rcases h with rfl
  · exact mul64_ok
theorem madd0_ok : KOk Tryd.prog AA kMadd0 := k_of (L := [kMul64]) l20 (by kernel_rfl) (by kernel_rfl) (T := madd0T) (by kernel_rfl) fun env hl hw _ => madd0T_ok (A := AA.to kMadd0) (fun _ _ h => h) (fun _ h => ⟨h, trivial⟩) hl hw fun e os h => fin_of hl h
theorem madd2_ok : KOk Tryd.prog AA kMadd2 := k_of (L := [kMul64]) l20 (by kernel_rfl) (by kernel_rfl) (T := madd2T) (by kernel_rfl) fun env hl hw _ => madd2T_ok (A := AA.to kMadd2) (fun _ _ h => h) (fun _ h => ⟨h, trivial⟩) hl hw fun e os h => fin_of hl h
theorem lMul : ∀ κ ∈ [kMul64, kSmall], KOk Tryd.prog AA κ := by
  intro κ h
  simp only [List.mem_cons, List.not_mem_nil, or_false] at h
  rcases h with rfl | rfl
  · exact mul64_ok
  · exact small_ok
theorem toM_ok : KOk Tryd.prog AA kToM := k_of (L := [kMul64, kSmall]) lMul (by kernel_rfl) (by kernel_rfl) (T := mulA prime qi (vr 0 4) (ls rsq) 4 fun os _ => .fin (enc os) st0) (by kernel_rfl) fun env hl hw _ => by
  have hl' : env.length = 4 := hl
  have h1 : (vr 0 4).map (·.val env) = env := one_vr hl'
  have h2 : (ls rsq).map (·.val env) = rsq := ls_vals
  refine mulA_ok (wask (A := AA.to kToM) rfl rfl) (pask (A := AA.to kToM) rfl rfl) wq qinv (by decide) vr_length rfl hl'.symm (vr_bd (by decide)) (fun y hy => by
    obtain ⟨_, _, rfl⟩ := List.mem_map.1 hy
    trivial) (by rw [h1]; exact hw) (by rw [h2]; exact rsq_wd) (by rw [h2]; exact rsq_lt) fun e os ne' h => fin_of hl ?_
  have := h.val
  rw [h1, h2] at this
  exact this
theorem plus_ok : KOk Tryd.prog AA kPlus := k_of (L := []) (by simp) (by kernel_rfl) (by kernel_rfl) (T := plusT 4 4 0 0 8 []) (by kernel_rfl) fun env hl hw _ => plusF_ok (n := 4) hl hw fun e os h => fin_of hl h
theorem lessen_ok : KOk Tryd.prog AA kLessen := k_of (L := []) (by simp) (by kernel_rfl) (by kernel_rfl) (T := lessenT 4 4 0 0 8 []) (by kernel_rfl) fun env hl hw _ => lessenF_ok (n := 4) hl hw fun e os h => fin_of hl h
theorem l3 : ∀ κ ∈ [kLess, kPlus, kLessen], KOk Tryd.prog AA κ := by
  intro κ h
  simp only [List.mem_cons, List.not_mem_nil, or_false] at h
  rcases h with rfl | rfl | rfl
  · exact less_ok
  · exact plus_ok
  · exact lessen_ok
theorem addW_ok : KOk Tryd.prog AA kAddW := k_of (L := [kLess, kPlus, kLessen]) l3 (by kernel_rfl) (by kernel_rfl) (T := addWT 4) (by kernel_rfl) fun env hl hw _ => addWT_ok (wask (A := AA.to kAddW) rfl rfl) hl hw fun e os h => fin_of hl h
theorem from_ok : KOk Tryd.prog AA kFrom := k_of (L := [kMadd0, kMadd2, kSmall]) (by
  intro κ h
  simp only [List.mem_cons, List.not_mem_nil, or_false] at h
  rcases h with rfl | rfl | rfl
  · exact madd0_ok
  · exact madd2_ok
  · exact small_ok) (by kernel_rfl) (by kernel_rfl) (T := fromT 4 prime qi) (by kernel_rfl) fun env hl hw _ => fromT_ok (wask (A := AA.to kFrom) rfl rfl) (mask (A := AA.to kFrom) rfl rfl) wq q_pos qinv (by decide) hl hw fun e os h => fin_of hl h
theorem bytes_ok : KOk Tryd.prog AA kBytes := k_of (L := [kFrom]) (by
  intro κ h
  simp only [List.mem_cons, List.not_mem_nil, or_false] at h
  rcases h with rfl
  exact from_ok) (by kernel_rfl) (by kernel_rfl) (T := bytesT 4) (by kernel_rfl) fun env hl hw _ => bytesT_ok (bask (A := AA.to kBytes) rfl rfl) hl hw fun e os h => fin_of hl h
theorem ofW_ok : KOk Tryd.prog AA kOfW := k_of (L := []) (by simp) (by kernel_rfl) (by kernel_rfl) (T := ofWT 4) (by kernel_rfl) fun env hl _ _ => ofWT_ok hl fun e os h => fin_of hl h

theorem str_inj {xs ys : List Int} (hx : ∀ x ∈ xs, 0 ≤ x ∧ x < 256) (hy : ∀ y ∈ ys, 0 ≤ y ∧ y < 256) (h : strOfNums xs = strOfNums ys) : xs = ys := by
  have h1 := congrArg (fun s : ByteArray => s.data.toList) h
  simp only [strOfNums_data] at h1
  have key : ∀ (xs ys : List Int), (∀ x ∈ xs, 0 ≤ x ∧ x < 256) → (∀ y ∈ ys, 0 ≤ y ∧ y < 256) → (xs.map fun n => UInt8.ofNat n.toNat) = (ys.map fun n => UInt8.ofNat n.toNat) → xs = ys := by
    intro xs
    induction xs with
    | nil => intro ys _ _ h; cases ys with
      | nil => rfl
      | cons y ys => simp at h
    | cons x xs ih => intro ys hx hy h; cases ys with
      | nil => simp at h
      | cons y ys =>
        simp only [List.map_cons, List.cons.injEq] at h
        have b1 := hx x (List.mem_cons_self ..)
        have b2 := hy y (List.mem_cons_self ..)
        have h2 := congrArg UInt8.toNat h.1
        rw [UInt8.toNat_ofNat', UInt8.toNat_ofNat'] at h2
        have : x = y := by omega
        rw [this, ih ys (fun z hz => hx z (List.mem_cons_of_mem _ hz)) (fun z hz => hy z (List.mem_cons_of_mem _ hz)) h.2]
  exact key xs ys hx hy h1
theorem sameB_call {b1 o1 b2 o2 c1 c2 : Nat} {xs ys : List Int} (hx : xs.length = 32) (hy : ys.length = 32) {w : World}
    (h1 : ∀ i, i < 32 → w.cell? ⟨b1, o1 + i, none⟩ = some (.int .u8 (xs.getD i 0))) (h2 : ∀ i, i < 32 → w.cell? ⟨b2, o2 + i, none⟩ = some (.int .u8 (ys.getD i 0))) :
    Calls Tryd.prog 5 #[.slice (some ⟨b1, o1, none⟩) 32 c1, .slice (some ⟨b2, o2, none⟩) 32 c2] w fun e w' => e = .returned (.bool ((strOfNums xs).toList == (strOfNums ys).toList)) ∧ w' = w := by
  have k1 := run_convert_bytes_arg w 22 5 Tryd.underlying22 Tryd.underlying5 b1 o1 32 c1 xs hx h1 9 Tryd.underlying9
  have k2 := run_convert_bytes_arg w 22 5 Tryd.underlying22 Tryd.underlying5 b2 o2 32 c2 ys hy h2 9 Tryd.underlying9
  clear h1 h2
  go_enter Tryd.func5, Tryd.ntmps5
  go_wp2
  go_ret
  exact ⟨rfl, rfl⟩
theorem toList_loop (b : ByteArray) : ∀ (n i : Nat) (r : List UInt8), b.size = i + n → ByteArray.toList.loop b i r = r.reverse ++ b.data.toList.drop i
  | 0, i, r, h => by
    rw [ByteArray.toList.loop.eq_1, if_neg (by omega), List.drop_of_length_le (by simp only [Array.length_toList]; simp only [ByteArray.size] at h; omega), List.append_nil]
  | n + 1, i, r, h => by
    rw [ByteArray.toList.loop.eq_1, if_pos (by omega), toList_loop b n (i + 1) _ (by omega)]
    have hi : i < b.data.toList.length := by simp only [Array.length_toList]; simp only [ByteArray.size] at h; omega
    rw [List.drop_eq_getElem_cons hi, List.reverse_cons, List.append_assoc]
    have : b.get! i = b.data.toList[i] := by
      show b.data[i]! = _
      rw [getElem!_pos b.data i (by simpa using hi), Array.getElem_toList]
    rw [this]
    rfl
theorem toList_data (b : ByteArray) : b.toList = b.data.toList := toList_loop b b.size 0 [] (by omega)
theorem str_dec {xs ys : List Int} (hx : ∀ x ∈ xs, 0 ≤ x ∧ x < 256) (hy : ∀ y ∈ ys, 0 ≤ y ∧ y < 256) : ((strOfNums xs).toList == (strOfNums ys).toList) = decide (xs = ys) := by
  by_cases h : xs = ys
  · subst h
    simp
  · rw [decide_eq_false h, beq_eq_false_iff_ne]
    intro e
    rw [toList_data, toList_data] at e
    exact h (str_inj hx hy (congrArg (fun l : List UInt8 => (⟨l.toArray⟩ : ByteArray)) e))
theorem ub_cells {env : List Int} {β : List (Nat × Nat)} {w : World} {x : Nat × Nat} {i n : Nat}
    (h : ∀ (j : Nat) (sc : SC), (ub i n)[j]? = some sc → ∃ v, w.cell? ⟨x.1, x.2 + j, none⟩ = some v ∧ sc.is env β v) :
    (∀ j, j < n → w.cell? ⟨x.1, x.2 + j, none⟩ = some (.int .u8 (((env.drop i).take n).getD j 0))) ∧ ∀ y ∈ (env.drop i).take n, 0 ≤ y ∧ y < 256 := by
  have each : ∀ j, j < n → ∃ y, env[i + j]? = some y ∧ (0 ≤ y ∧ y < 256) ∧ w.cell? ⟨x.1, x.2 + j, none⟩ = some (.int .u8 y) := fun j hj => by
    obtain ⟨v, hv, y, hy, hf, rfl⟩ := h j (.ii .u8 (.var (i + j))) (by simp [ub, hj])
    have hf := (fits_iff .u8 y).1 hf
    have h1 : kMin .u8 = 0 := by decide
    have h2 : kMax .u8 = 255 := by decide
    exact ⟨y, hy, by omega, hv⟩
  constructor
  · intro j hj
    obtain ⟨y, hy, _, hv⟩ := each j hj
    rw [hv, List.getD_eq_getElem?_getD, List.getElem?_take, if_pos hj, List.getElem?_drop, hy]
    rfl
  · intro y hy
    obtain ⟨j, hj, rfl⟩ := List.getElem_of_mem hy
    have hj' : j < n := by simp at hj; omega
    obtain ⟨y, hy, hb, _⟩ := each j hj'
    have : ((env.drop i).take n)[j]? = some y := by rw [List.getElem?_take, if_pos hj', List.getElem?_drop, hy]
    rw [List.getElem?_eq_getElem hj] at this
    injection this with this
    rw [this]; exact hb
theorem sameB_ok : KOk Tryd.prog AA kSameB := by
  intro env β vs w hl hM ha _
  have hl' : env.length = 64 := hl
  obtain ⟨v1, v2, rfl⟩ : ∃ v1 v2, vs = [v1, v2] := by
    match vs, ha with
    | [v1, v2], _ => exact ⟨v1, v2, rfl⟩
  obtain ⟨⟨x1, e1, rfl⟩, ⟨x2, e2, rfl⟩, _⟩ := ha
  have c1 := ub_cells (i := 0) (n := 32) (hM.cells 0 _ _ x1 rfl e1)
  have c2 := ub_cells (i := 32) (n := 32) (hM.cells 1 _ _ x2 rfl e2)
  have l1 : ((env.drop 0).take 32).length = 32 := by simp; omega
  have l2 : ((env.drop 32).take 32).length = 32 := by simp; omega
  have q2 : (env.drop 32).take 32 = env.drop 32 := List.take_of_length_le (by simp; omega)
  refine (sameB_call l1 l2 c1.1 c2.1).mono fun e w' ⟨he, hw⟩ => ?_
  subst he
  subst hw
  rw [str_dec c1.2 c2.2, q2, List.drop_zero]
  refine ⟨[b01 (decide (env.take 32 = env.drop 32))], β, _, rfl, rfl, rfl, ⟨[], by simp⟩, ⟨_, ?_, rfl⟩, hM.more _, fun i x hi hx => ?_⟩
  · show (env ++ _)[_]? = _
    simp [hl']
  · have := hM.nb
    rw [List.getElem?_eq_none (by rw [this]; exact hi)] at hx
    cases hx
end Go.Proofs.YtnhhjhkeiplmpaaDoor
