/-
  The regular form of a number, by contracts. No conditions.
-/
import Derived.Test.YtajhellohcibiaaDoorEngC
import Derived.Test.YtajhellohcibiaaDoorEngD
import Derived.Test.YtajhellohcibiaaDoorIL
import Derived.Lib.BitFns
import Derived.Lib.Strings
import Derived.Lib.Slices
import Derived.Lib.Small
import Derived.Lib.Walk
import Derived.WalkKit
import Derived.Deep.Light
import Derived.Test.YtajhellohcibiaaDoorProg
namespace Go.Proofs.YtajhellohcibiaaDoor.R
open Go Eng Go.RowKit
set_option maxRecDepth 100000
def prime : List Int := [4891460686036598785, 2896914383306846353, 13281191951274694749, 3486998266802970665]
noncomputable def CC (L : List K) : Cfg := ⟨Tryd.prog, mkExt 30 32 3 39, conOf L, fun _ _ _ => none⟩
noncomputable def tr (L : List K) (κ : K) : Tree := xcall (CC L) (fun f => xcode (CC L) 60 f 0) κ.f κ.args κ.st κ.end
def r2 : List (List SC × Bool) := [(us 0 4, false), (us 4 4, false)]
def kPlus : K := { f := 17, args := [sl 0 4, sl 1 4], mem := r2, m := 8, id := 4, mout := 5, ret := .tt [.cc (.ss 2 0 4 4), .cc (.bb (.var 12))], mem1 := r2 ++ [(us 8 4, true)] }
def kHalf : K := { f := 14, args := [sl 0 4], mem := [(us 0 4, false)], m := 4, id := 24, mout := 4, ret := sl 1 4, mem1 := [(us 0 4, false), (us 4 4, true)] }
def kReg : K := { f := 8, args := [sl 0 4, sl 1 4], mem := r2, m := 8, id := 28, mout := 4, ret := sl 2 4, mem1 := r2 ++ [(us 8 4, true)] }
def post (id : Nat) (xs ys : List Int) : Prop := match id with
  | 0 => ys = [b01 (decide (vw (xs.take 4) < vw (xs.drop 4)))]
  | 1 => ys = [b01 (decide (xs.take 4 = xs.drop 4))]
  | 2 => ys = [b01 (decide (xs.take 4 = xs.drop 4))]
  | 3 => ∃ y, ys = [y] ∧ (y = 0 ↔ xs.take 4 = xs.drop 4)
  | 4 => Plus (xs.take 4) (xs.drop 4) ys
  | 5 => Lessen (xs.take 4) (xs.drop 4) ys
  | 6 => DifMod (xs.take 4) (xs.drop 4) prime ys
  | 7 => ys = [b01 (decide (vw xs < vw prime))]
  | 8 => SumMod xs xs prime ys
  | 9 => ∃ d, SumMod xs xs prime d ∧ SumMod d xs prime ys
  | 10 => SumMod (xs.take 4) (xs.drop 4) prime (ys.take 4) ∧ DifMod (xs.take 4) (xs.drop 4) prime (ys.drop 4)
  | 11 => SumMod (xs.take 4) ((xs.drop 4).take 4) (xs.drop 8) ys
  | 12 => DifMod (xs.take 4) ((xs.drop 4).take 4) (xs.drop 8) ys
  | 13 => ys = [1]
  | 20 => Mul64 xs ys
  | 21 => Madd0 xs ys
  | 22 => Madd2 xs ys
  | 23 => Mont 4 prime xs ys
  | 24 => Half xs ys
  | 25 => ∃ z, Mont 4 prime xs z ∧ ys = beB z
  | 26 => ys = beB xs
  | 27 => ys = [b01 (decide (xs.take (8 * 4) = xs.drop (8 * 4)))]
  | 28 => RegI (xs.drop 4) (xs.take 4) (64 * 4) ys
  | 29 => RegI (xs.drop 4) (xs.take 4) (64 * 4) ys
  | 14 => ∃ z1 z2, SumMod (List.replicate 4 0) (xs.take 4) (xs.drop 4) z1 ∧ SumMod z1 (xs.take 4) (xs.drop 4) z2 ∧ SumMod z2 (xs.take 4) (xs.drop 4) ys
  | _ => False
def AA : Eng.Ask := { pre := fun _ xs => Wds xs, post := post, leaf := fun _ _ _ => False, fin := fun _ _ _ => False }
theorem wask (κ : K) : WAsk (AA.to κ) 4 prime := ⟨fun _ _ _ h => h, fun _ _ h => h, fun _ _ h => h, fun _ _ h => h, fun _ _ h => h, fun _ _ h => h, fun _ _ h => h, fun _ _ h => h, fun _ _ h => h, fun _ _ h => h, fun _ _ h => h, fun _ _ h => h, fun _ _ h => h⟩
theorem mixed : Tryd.prog.follows .mixedOrders = true := by kernel_rfl
theorem ext0 : Ext Tryd.prog (mkExt 30 32 3 39) :=
  ext_of (P := Tryd.prog) (fa := Tryd.f30) (fs := Tryd.f32) (by kernel_rfl) (by kernel_rfl) (by kernel_rfl) (by kernel_rfl) (by kernel_rfl) (by kernel_rfl) (by kernel_rfl) (by kernel_rfl) (by kernel_rfl) (by kernel_rfl) (by kernel_rfl)
theorem k_of {L : List K} (h : ∀ κ ∈ L, KOk Tryd.prog AA κ) {κ : K} {T : Tree} (hx : mkExt 30 32 3 39 κ.f = 0) (hb : allB κ.m (rngA κ.args ++ rngM κ.mem) = true) (ht : tr L κ = T)
    (hh : ∀ env : List Int, env.length = κ.m → Wds env → T.holds (AA.to κ) env) : KOk Tryd.prog AA κ :=
  kok_of (C := CC L) mixed ext0 (conOf_ok h) (fun _ _ _ _ _ _ h => by cases h) 60 hx fun env hl hr _ => by
    have := hh env hl (wds_of hl hr hb)
    rw [← ht] at this
    exact this
theorem plus_ok : KOk Tryd.prog AA kPlus := k_of (L := []) (by simp) (by kernel_rfl) (by kernel_rfl) (T := plusT 4 4 0 0 8 []) (by kernel_rfl) fun env hl hw => plusF_ok (n := 4) hl hw fun e os h => fin_of hl h
theorem half_ok : KOk Tryd.prog AA kHalf := k_of (L := []) (by simp) (by kernel_rfl) (by kernel_rfl) (T := halfCh (vr 0 4) 4 []) (by kernel_rfl) fun env hl hw => halfT_ok (by decide) hl hw fun e os h => fin_of hl h
theorem bask (κ : K) : BAsk (AA.to κ) 4 prime := ⟨fun _ _ _ h => h, fun _ _ h => h, fun _ _ h => h, fun _ _ h => h, fun _ _ h => h, fun _ _ h => h⟩
/-! ### the regular form: a loop -/
def pReg : PC := { nt := 43, sl := [0, 1, 5], args := [.cc (.ss 0 0 4 4), .cc (.ss 1 0 4 4), .cc (.ii .i64 (.lit 0))], mem := r2, m := 8, ex := [{ e := .exit 0, out := [0], id := 29, mout := 4, ret := [.cc (.ss 2 0 4 4)], mem1 := r2 ++ [(us 8 4, true)] }] }
def hReg : Nat → HS
  | 0 => pReg.h0
  | i + 1 => { mout := 4, ret := [.cc (.ss 2 0 4 4), .cc (.ss 1 0 4 4), .cc (.ii .i64 (.lit ((i + 1 : Nat) : Int)))], mem1 := r2 ++ [(us 8 4, true)] }
def curReg : Nat → List SI
  | 0 => vr 0 4
  | _ + 1 => vr 8 4
def neReg : Nat → Nat
  | 0 => 8
  | _ + 1 => 12
def exReg (i : Nat) : Tree := bif Nat.beq i 256 then .fin (enc (curReg i)) { st0 with fn := 1 } else regT 4 (curReg i) (neReg i)
noncomputable def rdReg (i : Nat) : Tree := xcode (CC [kPlus, kHalf]) 60 8 0 (bodyOf Tryd.prog 8 0) (headSt pReg (hReg i)) (kend pReg (hReg (i + 1)))
theorem rdReg_eq0 : (List.range 65).all (fun j => Tree.beq (rdReg (0 + j)) (exReg (0 + j))) = true := by kernel_rfl
theorem rdReg_eq1 : (List.range 65).all (fun j => Tree.beq (rdReg (65 + j)) (exReg (65 + j))) = true := by kernel_rfl
theorem rdReg_eq2 : (List.range 65).all (fun j => Tree.beq (rdReg (130 + j)) (exReg (130 + j))) = true := by kernel_rfl
theorem rdReg_eq3 : (List.range 62).all (fun j => Tree.beq (rdReg (195 + j)) (exReg (195 + j))) = true := by kernel_rfl
theorem rdReg_use {k m i : Nat} (h : (List.range m).all (fun j => Tree.beq (rdReg (k + j)) (exReg (k + j))) = true) (hi : k ≤ i ∧ i < k + m) : rdReg i = exReg i := by
  have := all_trees (f := fun j => rdReg (k + j)) (g := fun j => exReg (k + j)) h (show i - k < m by omega)
  have e : k + (i - k) = i := by omega
  simp only [e] at this
  exact this
theorem rdReg_eq {i : Nat} (hi : i < 257) : rdReg i = exReg i := by
  rcases (show (0 ≤ i ∧ i < 0 + 65) ∨ (65 ≤ i ∧ i < 65 + 65) ∨ (130 ≤ i ∧ i < 130 + 65) ∨ (195 ≤ i ∧ i < 195 + 62) by omega) with h | h | h | h
  · exact rdReg_use rdReg_eq0 h
  · exact rdReg_use rdReg_eq1 h
  · exact rdReg_use rdReg_eq2 h
  · exact rdReg_use rdReg_eq3 h
def invReg (i : Nat) (env ys : List Int) : Prop := i ≤ 256 ∧ Wds env ∧ RegI (env.drop 4) (env.take 4) i (match i with | 0 => env.take 4 | _ + 1 => ys)
theorem waskR (p : PC) (i : Nat) (h : HS) (Inv : Nat → List Int → List Int → Prop) (μ : Nat → List Int → List Int → Nat) : WAsk (AA.rnd p i h Inv μ) 4 prime := ⟨fun _ _ _ h => h, fun _ _ h => h, fun _ _ h => h, fun _ _ h => h, fun _ _ h => h, fun _ _ h => h, fun _ _ h => h, fun _ _ h => h, fun _ _ h => h, fun _ _ h => h, fun _ _ h => h, fun _ _ h => h, fun _ _ h => h⟩
theorem baskR (p : PC) (i : Nat) (h : HS) (Inv : Nat → List Int → List Int → Prop) (μ : Nat → List Int → List Int → Nat) : BAsk (AA.rnd p i h Inv μ) 4 prime := ⟨fun _ _ _ h => h, fun _ _ h => h, fun _ _ h => h, fun _ _ h => h, fun _ _ h => h, fun _ _ h => h⟩
theorem reg_round (i : Nat) (env ys : List Int) (hl : env.length = 8) (hy : ys.length = (hReg i).mout) (hi : invReg i env ys) : (rdReg i).holds (AA.rnd pReg i (hReg i) invReg (fun i _ _ => 257 - i)) (env ++ ys) := by
  obtain ⟨hi, hw, hr⟩ := hi
  rw [rdReg_eq (show i < 257 by omega)]
  -- what stands at the head
  have hc : ∃ c, (curReg i).map (·.val (env ++ ys)) = c ∧ RegI (env.drop 4) (env.take 4) i c ∧ neReg i = (env ++ ys).length ∧ (curReg i).length = 4 ∧ (∀ x ∈ curReg i, Bd (neReg i) x) := by
    match i, hy, hr with
    | 0, hy, hr =>
      have hy : ys.length = 0 := hy
      exact ⟨_, by rw [show curReg 0 = vr 0 4 from rfl, vals_more (vr_bd (by omega)), vr_vals (by omega), List.drop_zero], hr, by simp [neReg, hl, hy], rfl, vr_bd (by decide)⟩
    | i + 1, hy, hr =>
      have hy : ys.length = 4 := hy
      exact ⟨ys, by
        have := vals_new hl.symm hy.symm
        exact this, hr, by simp [neReg, hl, hy], rfl, vr_bd (show 8 + 4 ≤ 12 by decide)⟩
  obtain ⟨c, kc, hr, hne, lc, bc⟩ := hc
  have htake : ∀ e, (env ++ ys ++ e).take pReg.m = env := fun e => by rw [List.append_assoc]; exact List.take_left' hl
  unfold exReg
  cases hb : Nat.beq i 256
  · rw [cond_false]
    have hne64 : i ≠ 256 := fun e => by subst e; simp at hb
    have hm : (vr 4 4).map (·.val (env ++ ys)) = env.drop 4 := by
      rw [vals_more (vr_bd (by omega)), vr_vals (by omega), List.take_of_length_le (by simp; omega)]
    have wc := hr.2.1
    refine regT_ok (waskR ..) (baskR ..) (by decide) lc hne bc kc hm wc (hw.drop _) (by rw [hne]; simp; omega) fun e os lo wo h0 h1 => ?_
    have hinv : invReg (i + 1) env (os.map (·.val (env ++ ys ++ e))) := by
      refine ⟨by omega, hw, ?_⟩
      show RegI _ _ (i + 1) (os.map _)
      rcases (show vw c % 2 = 0 ∨ vw c % 2 = 1 by omega) with h | h
      · exact reg_even hr h (h0 h)
      · exact reg_odd hr h (by rw [lo]; simp; omega) wo (h1 h)
    show invReg (i + 1) ((env ++ ys ++ e).take pReg.m) ((dec (enc os)).map (·.val (env ++ ys ++ e))) ∧ _
    rw [dec_enc, htake]
    exact ⟨hinv, by show 257 - (i + 1) < 257 - i; omega⟩
  · rw [cond_true]
    have hi64 := Nat.eq_of_beq_eq_true hb
    have := htake []
    rw [List.append_nil] at this
    show RegI (((env ++ ys).take pReg.m).drop 4) (((env ++ ys).take pReg.m).take 4) (64 * 4) ((dec (enc (curReg i))).map (·.val (env ++ ys)))
    rw [dec_enc, this, kc]
    rw [hi64] at hr
    exact hr
theorem regLoop_ok : ∀ c, InF Tryd.prog 8 (2 * 0, c) → PcKOk Tryd.prog AA pReg c :=
  loop_piece (C := CC [kPlus, kHalf]) mixed ext0 (conOf_ok (by
    intro κ h
    simp only [List.mem_cons, List.not_mem_nil, or_false] at h
    rcases h with rfl | rfl
    · exact plus_ok
    · exact half_ok)) (fun _ _ _ _ _ _ h => by cases h) 60 (by kernel_rfl) (by kernel_rfl) hReg invReg (fun i _ _ => 257 - i) rfl
    (fun env hl _ hp => ⟨by omega, hp _ (List.mem_cons_self ..), reg_zero ((hp _ (List.mem_cons_self ..) : Wds env).take _)⟩) fun i env ys hl hy _ hi => reg_round i env ys hl hy hi
noncomputable def CReg : Cfg := ⟨Tryd.prog, mkExt 30 32 3 39, conOf [], pcOf [((8, 0), pReg)]⟩
theorem reg_ok : KOk Tryd.prog AA kReg :=
  kok_of (C := CReg) mixed ext0 (conOf_ok (by simp)) (pcOf_ok (by
    intro q hq
    simp only [List.mem_cons, List.not_mem_nil, or_false] at hq
    subst hq
    exact ⟨by decide, regLoop_ok⟩)) 60 (by kernel_rfl) fun env hl hr hp => by
    have ht : xcall CReg (fun f => xcode CReg 60 f 0) kReg.f kReg.args kReg.st kReg.end = .hav 29 (vr 0 8) 4 (.fin (enc (vr 8 4)) st0) := by kernel_rfl
    rw [ht]
    have hv : (vr 0 8).map (·.val env) = env := one_vr hl
    refine ⟨by rw [hv]; exact hp, fun ys hy h => ?_⟩
    rw [hv] at h
    have hy' : ys.length = 4 := hy
    have hl' : env.length = 8 := hl
    have := fin_of (A := AA) (κ := kReg) (env := env) (e := ys) (os := vr 8 4) hl (by
      have hv := vals_new hl'.symm hy'.symm
      rw [hv]; exact h)
    exact this

end Go.Proofs.YtajhellohcibiaaDoor.R
