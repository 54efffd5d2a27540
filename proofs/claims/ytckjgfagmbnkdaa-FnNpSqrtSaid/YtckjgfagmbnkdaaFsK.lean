/-
  The root of an array: the walk by hand as a contract. No conditions.
-/
import Derived.Test.YtckjgfagmbnkdaaFsS
import Derived.Test.YtckjgfagmbnkdaaFsE
import Derived.Test.YtckjgfagmbnkdaaSB2
import Derived.Test.YtckjgfagmbnkdaaPrimenp
namespace Go.Proofs.Ytckjgfagmbnkdaa
open Go Eng Go.RowKit
set_option maxRecDepth 100000
theorem eq_of_args {env : List Int} {β : List (Nat × Nat)} {vs : List Value} {n : Nat} (hl : env.length = n) (h : All2 (SV.is env β) [ar 0 n] vs) : vs = [aggW env] := by
  match vs, h with
  | [v], ⟨h, _⟩ =>
    obtain ⟨us', rfl, hu⟩ := h
    have hl' := hu.length
    have e : us' = env.map (Value.int .u64) := by
      apply List.ext_getElem?
      intro j
      rcases Nat.lt_or_ge j n with hj | hj
      · obtain ⟨v, hv, hs⟩ := hu.get (i := j) (x := .ii .u64 (.var (0 + j))) (by simp [us, u, hj])
        obtain ⟨y, hy, _, rfl⟩ := hs
        have hy : env[0 + j]? = some y := hy
        rw [Nat.zero_add] at hy
        rw [hv, List.getElem?_map, hy]
        rfl
      · have h1 : (us 0 n).length = n := by simp [us]
        rw [List.getElem?_eq_none (by omega), List.getElem?_eq_none (by simp; omega)]
    rw [e]
    rfl
theorem ret_is {env r : List Int} {t : Bool} (hl : env.length = 4) (hw : Wds env) (lr : r.length = 4) (wr : Wds r) : kSqrt.ret.is (env ++ (r ++ [b01 t])) [] (.tuple #[aggW r, .bool t]) := by
  have hw' : Wds (env ++ (r ++ [b01 t])) := hw.append (wr.append (wds_cons (by cases t <;> exact ⟨by decide, by decide⟩) wds_nil))
  have i1 := us_is (env := env ++ (r ++ [b01 t])) (β := []) (i := 4) (n := 4) (by simp; omega) hw'
  rw [drop_app hl, take_app lr] at i1
  refine ⟨[aggW r, .bool t], rfl, ⟨_, rfl, i1⟩, ⟨t, ?_, rfl⟩, trivial⟩
  show (env ++ (r ++ [b01 t]))[8]? = some (b01 t)
  rw [List.getElem?_append_right (by omega), List.getElem?_append_right (by omega)]
  have e : 8 - env.length - r.length = 0 := by omega
  rw [e]
  rfl
theorem mrel_nil {w w' : World} {env : List Int} (h : Below w.heap.size w w') : MRel w (TpOf [] []) env [] [] w' :=
  ⟨rfl, (fun r cs wr h => by cases h), (fun r s x y cs ds wr ws _ h => by cases h), ⟨h.os, h.tape, h.output, h.size, fun k hk _ => h.block k hk, fun _ _ hb _ => h.cell hb, fun _ _ hb => h.frozen hb⟩⟩
theorem pr_q : NT.Pr (vw prime).toNat := by
  have : (vw prime).toNat = 21888242871839275222246405745257275088696311157297823662689037894645226208583 := by decide +kernel
  rw [this]
  exact NT.pr_np
theorem q_mul {a b : Int} (h : vw prime ∣ a * b) : vw prime ∣ a ∨ vw prime ∣ b := by
  have hq : ((vw prime).toNat : Int) = vw prime := Int.toNat_of_nonneg (by decide)
  rw [← hq] at h ⊢
  have h := Int.ofNat_dvd_left.1 h
  rw [Int.natAbs_mul] at h
  rcases NT.pr_mul pr_q h with h | h
  · exact Or.inl (Int.ofNat_dvd_left.2 h)
  · exact Or.inr (Int.ofNat_dvd_left.2 h)
theorem small_zero {x : Int} (h0 : 0 ≤ x) (h : x < vw prime) (hd : vw prime ∣ x) : x = 0 := by
  have := Int.emod_eq_zero_of_dvd hd
  rwa [Int.emod_eq_of_lt h0 h] at this
theorem q_r {x : Int} (h : vw prime ∣ x * BW ^ 4) : vw prime ∣ x := by
  rw [bw_two] at h
  exact odd_dvd_pow q_odd _ h
theorem q_pow {x : Int} : ∀ {k : Nat}, vw prime ∣ x ^ k → vw prime ∣ x
  | 0, h => by
    exfalso
    have := Int.emod_eq_zero_of_dvd h
    rw [Int.pow_zero] at this
    exact absurd this (by decide)
  | k + 1, h => by
    rw [Int.pow_succ] at h
    rcases q_mul h with h | h
    · exact q_pow h
    · exact h
theorem chi_pos {x : Int} : 0 ≤ chi x ↔ x ^ 10944121435919637611123202872628637544348155578648911831344518947322613104291 % vw prime = 0 ∨ x ^ 10944121435919637611123202872628637544348155578648911831344518947322613104291 % vw prime = 1 := by
  unfold chi
  split
  · rename_i h
    exact ⟨fun _ => Or.inl h, fun _ => Int.le_refl _⟩
  · split
    · rename_i h
      exact ⟨fun _ => Or.inr h, fun _ => by decide⟩
    · rename_i h1 h2
      exact ⟨fun h => absurd h (by decide), fun h => by rcases h with h | h; exact absurd h h1; exact absurd h h2⟩
theorem chi_is {x : Int} : 0 ≤ chi x ↔ vw prime ∣ x ∨ vw prime ∣ x ^ 10944121435919637611123202872628637544348155578648911831344518947322613104291 - 1 := by
  rw [chi_pos]
  constructor
  · rintro (h | h)
    · exact Or.inl (q_pow (Int.dvd_of_emod_eq_zero h))
    · refine Or.inr (Int.dvd_of_emod_eq_zero ?_)
      rw [Int.sub_emod, h]
      decide
  · rintro (h | h)
    · left
      rw [show 10944121435919637611123202872628637544348155578648911831344518947322613104291 = (10944121435919637611123202872628637544348155578648911831344518947322613104291 - 1) + 1 from rfl, Int.pow_succ]
      exact Int.emod_eq_zero_of_dvd (Int.dvd_mul_of_dvd_right h)
    · right
      have := Int.emod_eq_emod_iff_emod_sub_eq_zero.2 (Int.emod_eq_zero_of_dvd h)
      rw [this]
      decide
theorem rep_of {xs : List Int} {x : Int} (h : vw prime ∣ x * BW ^ 4 - vw xs) : Rep 4 prime xs x := by
  have := Int.dvd_neg.2 h
  rwa [Int.neg_sub] at this
theorem root_key {xs r s : List Int} {x : Int} (lx : xs.length = 4) (hw : Wds xs) (hx : vw xs < vw prime) (hr : PowM 4 prime xs 5472060717959818805561601436314318772174077789324455915672259473661306552146 r) (hs : MulM 4 prime r r s) (h : vw prime ∣ x * BW ^ 4 - vw xs) : s = xs ↔ 0 ≤ chi x := by
  have ra := rep_of h
  have rr := rep_pow q_odd (by decide) ra hr
  have rs := rep_mul q_odd rr rr hs
  have e : x ^ 5472060717959818805561601436314318772174077789324455915672259473661306552146 * x ^ 5472060717959818805561601436314318772174077789324455915672259473661306552146 - x = x * (x ^ 10944121435919637611123202872628637544348155578648911831344518947322613104291 - 1) := by
    rw [← Int.pow_add, Int.mul_sub, Int.mul_one, Int.mul_comm x, ← Int.pow_succ]
  rw [chi_is]
  constructor
  · intro hse
    have := rep_dvd q_odd rs ra (by rw [hse])
    rw [e] at this
    exact q_mul this
  · intro hd
    refine rep_eq rs ra (hs.1.trans lx.symm) hs.2.1 hw hs.2.2.1 hx ?_
    rw [e]
    rcases hd with h | h
    · exact Int.dvd_mul_of_dvd_left h
    · exact Int.dvd_mul_of_dvd_right h
theorem sq_is {xs r s : List Int} (he : s = xs) (hs : MulM 4 prime r r s) : vw prime ∣ vw r * vw r - vw xs * BW ^ 4 := by
  subst he
  have := Int.dvd_neg.2 hs.2.2.2
  rwa [Int.neg_sub] at this
theorem sqrt_ok : KOk Try.prog AA kSqrt := by
  intro env β vs w hl hM ha hp
  have hl' : env.length = 4 := hl
  have hb : β = [] := List.eq_nil_of_length_eq_zero hM.nb
  subst hb
  obtain ⟨_, hw, hx⟩ := hp
  obtain rfl := eq_of_args hl' ha
  obtain ⟨x0, x1, x2, x3, rfl⟩ := lenX hl'
  refine (sqrtA_call hw hx w).mono ?_
  rintro e w' ⟨⟨r, s, hr, hs, h⟩, hbl⟩
  rcases h with ⟨he, rfl⟩ | ⟨he, rfl⟩
  · exact ⟨r ++ [1], [], _, by show (r ++ [1]).length = _; simp [hr.1, kSqrt], ⟨r, true, rfl, hr.1, hr.2.1, fun x _ _ h => ⟨fun _ => (root_key hl' hw hx hr hs h).1 he, fun _ => rfl⟩, fun _ => ⟨hr.2.2.1, sq_is he hs⟩⟩, rfl, ⟨[], rfl⟩, ret_is (t := true) hl' hw hr.1 hr.2.1, mrel_nil hbl, (fun i x _ h => by cases h)⟩
  · exact ⟨List.replicate 4 0 ++ [0], [], _, by simp [kSqrt], ⟨List.replicate 4 0, false, rfl, by simp, wds_zeros _, fun x _ _ h => ⟨fun h => (by cases h), fun hc => absurd ((root_key hl' hw hx hr hs h).2 hc) he⟩, fun h => (by cases h)⟩, rfl, ⟨[], rfl⟩, ret_is (t := false) hl' hw (by simp) (wds_zeros _), mrel_nil hbl, (fun i x _ h => by cases h)⟩
end Go.Proofs.Ytckjgfagmbnkdaa
