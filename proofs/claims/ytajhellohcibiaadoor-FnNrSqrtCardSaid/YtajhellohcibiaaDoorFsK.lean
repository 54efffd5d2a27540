/-
  The root of an array: the walk by hand as a contract. No conditions.
-/
import Derived.Test.YtajhellohcibiaaDoorFsS
import Derived.Test.YtajhellohcibiaaDoorFsE
import Derived.Test.YtajhellohcibiaaDoorSB2
import Derived.Test.YtajhellohcibiaaDoorPrimenr
namespace Go.Proofs.YtajhellohcibiaaDoor
open Go Eng Go.RowKit
set_option maxRecDepth 100000
theorem eq_of_args {env : List Int} {β : List (Nat × Nat)} {vs : List Value} {n : Nat} (hl : env.length = n) (h : All2 (SV.is env β) [ar 0 n] vs) : vs = [aggW env] := by
  match vs, h with
  | [v], ⟨h, _⟩ =>
    obtain ⟨us', rfl, hu⟩ := h
    have hl' := hu.length
    have e : us' = env.map (Value.int .u64) := by
      apply List.ext_getElem?
      intro j
      rcases Nat.lt_or_ge j n with hj | hj
      · obtain ⟨v, hv, hs⟩ := hu.get (i := j) (x := .ii .u64 (.var (0 + j))) (by simp [us, u, hj])
        obtain ⟨y, hy, _, rfl⟩ := hs
        have hy : env[0 + j]? = some y := hy
        rw [Nat.zero_add] at hy
        rw [hv, List.getElem?_map, hy]
        rfl
      · have h1 : (us 0 n).length = n := by simp [us]
        rw [List.getElem?_eq_none (by omega), List.getElem?_eq_none (by simp; omega)]
    rw [e]
    rfl
theorem ret_is {env r : List Int} {t : Bool} (hl : env.length = 4) (hw : Wds env) (lr : r.length = 4) (wr : Wds r) : kSqrt.ret.is (env ++ (r ++ [b01 t])) [] (.tuple #[aggW r, .bool t]) := by
  have hw' : Wds (env ++ (r ++ [b01 t])) := hw.append (wr.append (wds_cons (by cases t <;> exact ⟨by decide, by decide⟩) wds_nil))
  have i1 := us_is (env := env ++ (r ++ [b01 t])) (β := []) (i := 4) (n := 4) (by simp; omega) hw'
  rw [drop_app hl, take_app lr] at i1
  refine ⟨[aggW r, .bool t], rfl, ⟨_, rfl, i1⟩, ⟨t, ?_, rfl⟩, trivial⟩
  show (env ++ (r ++ [b01 t]))[8]? = some (b01 t)
  rw [List.getElem?_append_right (by omega), List.getElem?_append_right (by omega)]
  have e : 8 - env.length - r.length = 0 := by omega
  rw [e]
  rfl
theorem mrel_nil {w w' : World} {env : List Int} (h : Below w.heap.size w w') : MRel w (TpOf [] []) env [] [] w' :=
  ⟨rfl, (fun r cs wr h => by cases h), (fun r s x y cs ds wr ws _ h => by cases h), ⟨h.os, h.tape, h.output, h.size, fun k hk _ => h.block k hk, fun _ _ hb _ => h.cell hb, fun _ _ hb => h.frozen hb⟩⟩
theorem ri_ok : vw prime ∣ 9915499612839321149637521777990102151350674507940716049588462388200839649614 * BW ^ 4 - 1 := by
  rw [q_num]
  decide +kernel
/-- The number that an element stands for. -/
theorem el_some {xs : List Int} (lx : xs.length = 4) (wx : Wds xs) (hx : vw xs < vw prime) : ∃ x, El xs x := by
  refine ⟨vw xs * 9915499612839321149637521777990102151350674507940716049588462388200839649614, lx, wx, hx, ?_⟩
  unfold Rep
  have h : vw xs - vw xs * 9915499612839321149637521777990102151350674507940716049588462388200839649614 * BW ^ 4 = -(vw xs * (9915499612839321149637521777990102151350674507940716049588462388200839649614 * BW ^ 4 - 1)) := by
    rw [Int.mul_sub, Int.mul_one, Int.mul_assoc]
    omega
  rw [h]
  exact Int.dvd_neg.2 (Int.dvd_mul_of_dvd_right ri_ok)
theorem has_cg {x y : Int} (h : Cg x y) (hx : HasR x) : HasR y := by
  rcases hx with hx | hx
  · left
    have := Int.dvd_sub hx h
    rwa [show x - (x - y) = y by omega] at this
  · exact Or.inr ((h.symm.pow 10944121435919637611123202872628637544274182200208017171849102093287904247808).trans hx)
theorem has_chi {x : Int} : HasR x ↔ 0 ≤ chi x := by
  rw [chi_is]
  exact Iff.rfl
theorem is_sq {xs R : List Int} {x : Int} (h : El xs x) (hR : IsR R x) : vw prime ∣ vw R * vw R - vw xs * BW ^ 4 := by
  obtain ⟨y, hy, hyy⟩ := hR
  have h1 : Cg (vw R) (y * BW ^ 4) := hy.2.2.2
  have h2 : Cg (vw xs) (x * BW ^ 4) := h.2.2.2
  have h3 := h1.mul h1
  have h4 := hyy.mul (Cg.refl (BW ^ 4 * BW ^ 4))
  have h5 := h2.mul (Cg.refl (BW ^ 4))
  have e1 : y * BW ^ 4 * (y * BW ^ 4) = y * y * (BW ^ 4 * BW ^ 4) := by
    generalize BW ^ 4 = b
    ac_rfl
  have e2 : x * BW ^ 4 * BW ^ 4 = x * (BW ^ 4 * BW ^ 4) := Int.mul_assoc _ _ _
  rw [e1] at h3
  rw [e2] at h5
  exact (h3.trans h4).trans h5.symm
theorem sqrt_in : KIn GOk Tryd.prog AA kSqrt := by
  intro env β vs w hi hl hM ha hp
  have hl' : env.length = 4 := hl
  have hb : β = [] := List.eq_nil_of_length_eq_zero hM.nb
  subst hb
  obtain ⟨_, hw, hx⟩ := hp
  obtain rfl := eq_of_args hl' ha
  obtain ⟨x, ex⟩ := el_some hl' hw hx
  obtain ⟨x0, x1, x2, x3, rfl⟩ := lenX hl'
  refine (sqrtA_call ex hi).mono ?_
  rintro e w' ⟨h, hbl⟩
  have hiff : ∀ y : Int, vw prime ∣ y * BW ^ 4 - vw [x0, x1, x2, x3] → (HasR x ↔ 0 ≤ chi y) := fun y hy => by
    have ey : El [x0, x1, x2, x3] y := ⟨hl', hw, hx, rep_of hy⟩
    have hc := (ex.eq ey).1 rfl
    rw [← has_chi]
    exact ⟨has_cg hc, has_cg hc.symm⟩
  rcases h with ⟨hr, R, hi, rfl⟩ | ⟨hr, rfl⟩
  · have hs := is_sq ex hi
    obtain ⟨y, hy, _⟩ := hi
    exact ⟨R ++ [1], [], _, by show (R ++ [1]).length = _; simp [hy.1, kSqrt], ⟨R, true, rfl, hy.1, hy.2.1, fun y _ _ h => ⟨fun _ => (hiff y h).1 hr, fun _ => rfl⟩, fun _ => ⟨hy.2.2.1, hs⟩⟩, rfl, ⟨[], rfl⟩, ret_is (t := true) hl' hw hy.1 hy.2.1, mrel_nil hbl, (fun i x _ h => by cases h)⟩
  · exact ⟨List.replicate 4 0 ++ [0], [], _, by simp [kSqrt], ⟨List.replicate 4 0, false, rfl, by simp, wds_zeros _, fun y _ _ h => ⟨fun h => (by cases h), fun hc => absurd ((hiff y h).2 hc) hr⟩, fun h => (by cases h)⟩, rfl, ⟨[], rfl⟩, ret_is (t := false) hl' hw (by simp) (wds_zeros _), mrel_nil hbl, (fun i x _ h => by cases h)⟩
theorem gok_kept {κ : K} (hm : κ.mem = []) (β : List (Nat × Nat)) (W0 w : World) (hi : GOk W0) (hk : Kept W0 (TpOf β κ.mem) w) : GOk w := by
  have : TpOf β κ.mem = fun _ _ => False := by
    funext b o
    simp [TpOf, hm]
  rw [this] at hk
  exact hi.below (Kept.below hk)
theorem k_in {L : List K} (h : ∀ κ ∈ L, KIn GOk Tryd.prog AA κ) {κ : K} {T : Tree} (hm : κ.mem = []) (hx : mkExt 30 32 3 39 κ.f = 0) (hb : allB κ.m (rngA κ.args ++ rngM κ.mem) = true) (ht : tr L κ = T)
    (hh : ∀ env : List Int, env.length = κ.m → Wds env → preX κ.id env → T.holds (AA.to κ) env) : KIn GOk Tryd.prog AA κ :=
  kin_of (C := CC L) mixed ext0 (fun W0 Tp hI => conW_ok hI h) (fun _ _ _ _ _ _ h => by cases h) 60 hx (gok_kept hm) fun env hl hr hp => by
    have := hh env hl (wds_of hl hr hb) hp.2
    rw [← ht] at this
    exact this
end Go.Proofs.YtajhellohcibiaaDoor
