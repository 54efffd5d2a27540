/-
  A number of bytes modulo another, by doubling: one round as a tree of facts; its digits. No conditions.
-/
import Derived.Test.YtnhhjhkeiplmpaaDoorCA
import Derived.Test.YtnhhjhkeiplmpaaDoorEngD
namespace Eng
open Go
section
variable {n : Nat}
theorem ev_shr8 (x k : Nat) (hk : k ≤ 8) : binEv .shr .u8 (x : Int) (k : Int) = ((x / 2 ^ k : Nat) : Int) := by
  show Int.fdiv (x : Int) (2 ^ (min (k : Int).toNat 8)) = _
  rw [show min ((k : Int).toNat) 8 = k by omega, Int.fdiv_eq_ediv_of_nonneg _ (Int.pow_nonneg (by decide))]
  simp
def mbT (n : Nat) (os as ms : List SI) (bw : SI) (s : Nat) (ne : Nat) : Tree :=
  .hav 11 (os ++ os ++ ms) n (.dfn (.bin .shr .u8) [bw, .lit (s : Int)] (.dfn (.bin .rem .u8) [.var (ne + n), .lit 2] (.dfn (.cmp .eql) [.var (ne + n + 1), .lit 1] (.br (ne + n + 2)
    (.hav 11 (vr ne n ++ as ++ ms) n (.fin (enc (vr (ne + n + 3) n)) st0)) (.fin (enc (vr ne n)) st0)))))
theorem mbT_ok {A : Ask} (hA : GAsk A n) {os as ms : List SI} {bw : SI} {s ne : Nat} {env o a m : List Int} (hne : ne = env.length) (ba : ∀ z ∈ as, Bd ne z) (bm : ∀ z ∈ ms, Bd ne z) (bb : Bd ne bw) (vo : os.map (·.val env) = o) (va : as.map (·.val env) = a) (vm : ms.map (·.val env) = m)
    (lo : o.length = n) (la : a.length = n) (wo : Wds o) (wa : Wds a) (wm : Wds m) (wb : Wd (bw.val env)) (hs : s < 8)
    (hk : ∀ (e : List Int) (os : List SI), ((os.map (·.val (env ++ e))).length = n ∧ Wds (os.map (·.val (env ++ e))) ∧ (vw o < vw m → vw a < vw m → vw (os.map (·.val (env ++ e))) = (2 * vw o + (bw.val env / 2 ^ s % 2) * vw a) % vw m ∧ vw (os.map (·.val (env ++ e))) < vw m)) → A.fin (enc os) st0 (env ++ e)) :
    (mbT n os as ms bw s ne).holds A env := by
  have start : env = env ++ [] := by simp
  unfold mbT
  rw [start]
  refine hold_hav (v := o ++ o ++ m) (by rw [List.append_nil, List.map_append, List.map_append, vo, vm]) (hA.p11 _ ((wo.append wo).append wm)) fun ys hy h => ?_
  have h := hA.m11 _ _ h
  obtain ⟨c1, c2, c3⟩ := three_cut (m := m) lo lo
  rw [c1, c2, c3] at h
  have l2 := h.2.1
  rw [List.nil_append]
  have hneE : ne + n = (env ++ ys).length := by simp [hne, hy]
  have vys : ∀ l : List Int, (vr ne n).map (·.val (env ++ (ys ++ l))) = ys := fun l => by
    have := vals_mid (env := env) (r := ys) (e := l) (i := ne) (m := n) hne hy.symm
    rw [List.append_assoc] at this
    exact this
  have old : ∀ (k : Nat) (l : List Int), (SI.var (ne + n + k)).val (env ++ (ys ++ l)) = l.getD k 0 := fun k l => by
    rw [← List.append_assoc]; exact var_at hneE k
  obtain ⟨k, ek, hk64⟩ := nat_of wb
  refine hold_dfn (v := bw.val env / 2 ^ s) ?_ ?_
  · show binEv .shr .u8 (bw.val _) (s : Int) = _
    rw [val_more (by rw [← hne]; exact bb), ek, ev_shr8 _ _ (by omega)]
    simp
  have hq : Wd (bw.val env / 2 ^ s) := by
    obtain ⟨h1, h2⟩ := wb
    have hp : (0 : Int) < 2 ^ s := Int.pow_pos (by decide)
    exact ⟨Int.ediv_nonneg h1 (by omega), Int.lt_of_le_of_lt (Int.ediv_le_self _ h1) h2⟩
  generalize hQ : bw.val env / 2 ^ s = Q at *
  rw [List.append_assoc]
  refine hold_dfn (v := Q % 2) ?_ ?_
  · show Int.tmod ((SI.var (ne + n)).val _) 2 = _
    have := old 0 [Q]
    rw [Nat.add_zero] at this
    rw [this]
    exact Int.tmod_eq_emod_of_nonneg hq.1
  rw [List.append_assoc]
  refine hold_dfn (v := b01 (decide (Q % 2 = 1))) ?_ ?_
  · show b01 (cmpEv .eql ((SI.var (ne + n + 1)).val _) 1) = _
    rw [old 1]
    show b01 (Q % 2 == 1) = _
    rfl
  rw [List.append_assoc]
  generalize hl : ([Q] ++ ([Q % 2] ++ [b01 (decide (Q % 2 = 1))]) : List Int) = l
  have hl' : [Q] ++ [Q % 2] ++ [b01 (decide (Q % 2 = 1))] = l := by rw [← hl]; rfl
  rw [hl']
  have ll : l.length = 3 := by rw [← hl]; rfl
  have tE : (env ++ (ys ++ l)).getD (ne + n + 2) 0 = b01 (decide (Q % 2 = 1)) := by
    have := old 2 l
    rw [show (SI.var (ne + n + 2)).val (env ++ (ys ++ l)) = (env ++ (ys ++ l)).getD (ne + n + 2) 0 from rfl] at this
    rw [this, ← hl]; rfl
  refine ⟨fun h1 => ?_, fun h1 => ?_⟩
  · rw [tE] at h1
    have hb : Q % 2 = 1 := of_decide_eq_true ((b01_one _).1 h1)
    refine hold_hav (v := ys ++ a ++ m) (by simp only [List.map_append, vys, olds hne ba va, olds hne bm vm, List.append_assoc]) (hA.p11 _ ((l2.append wa).append wm)) fun zs hz h2 => ?_
    have h2 := hA.m11 _ _ h2
    obtain ⟨d1, d2, d3⟩ := three_cut (m := m) hy la
    rw [d1, d2, d3] at h2
    have m2 := h2.2.1
    refine hk _ _ ?_
    rw [show (vr (ne + n + 3) n).map (·.val (env ++ (ys ++ l ++ zs))) = zs from by
      have := vals_new (env := env ++ (ys ++ l)) (ys := zs) (i := ne + n + 3) (m := n) (by simp [hne, hy, ll]; omega) hz.symm
      rw [List.append_assoc] at this
      exact this]
    refine ⟨hz, m2, fun ho ha => ?_⟩
    obtain ⟨l1, _, l3, l4⟩ := sum_mod wo wo ho ho h
    obtain ⟨m1, _, m3, m4⟩ := sum_mod l2 wa l4 ha h2
    refine ⟨?_, m4⟩
    rw [m3, l3, hb, Int.one_mul, Int.emod_add_emod]
    congr 2
    omega
  · rw [tE] at h1
    have hb : ¬ Q % 2 = 1 := of_decide_eq_false ((b01_zero _).1 h1)
    refine hk _ _ ?_
    rw [vys]
    refine ⟨hy, l2, fun ho ha => ?_⟩
    obtain ⟨l1, _, l3, l4⟩ := sum_mod wo wo ho ho h
    refine ⟨?_, l4⟩
    rw [l3, show Q % 2 = 0 by omega, Int.zero_mul, Int.add_zero]
    congr 1
    omega
theorem leV_nonneg : ∀ {l : List Int}, (∀ x ∈ l, By x) → 0 ≤ leV l ∧ leV l < 256 ^ l.length
  | [], _ => by simp [leV]
  | x :: l, h => by
    have h1 := h x (List.mem_cons_self ..)
    have h2 := leV_nonneg fun y hy => h y (List.mem_cons_of_mem _ hy)
    obtain ⟨h3, h4⟩ := h1
    simp only [leV, List.length_cons, Int.pow_succ]
    generalize (256 : Int) ^ l.length = P at *
    omega
/-- A byte of a number by bytes, and what stands above it. -/
theorem leV_drop : ∀ {l : List Int}, (∀ x ∈ l, By x) → ∀ k, k ≤ l.length → leV l / 256 ^ k = leV (l.drop k)
  | l, _, 0, _ => by simp
  | [], _, k + 1, h => by simp at h
  | x :: l, hl, k + 1, h => by
    have h1 := hl x (List.mem_cons_self ..)
    have ih := leV_drop (fun y hy => hl y (List.mem_cons_of_mem _ hy)) k (by simpa using h)
    obtain ⟨h3, h4⟩ := h1
    rw [List.drop_succ_cons, ← ih]
    simp only [leV]
    have e : (256 : Int) ^ (k + 1) = 256 * 256 ^ k := by rw [Int.pow_succ, Int.mul_comm]
    rw [e, ← Int.ediv_ediv_of_nonneg (show (0 : Int) ≤ 256 by decide)]
    congr 1
    omega
theorem leV_digit {l : List Int} (hl : ∀ x ∈ l, By x) {k s : Nat} (hk : k < l.length) (hs : s < 8) : leV l / 2 ^ (8 * k + s) % 2 = l.getD k 0 / 2 ^ s % 2 := by
  have e : (2 : Int) ^ (8 * k + s) = 256 ^ k * 2 ^ s := by
    rw [Int.pow_add, Int.pow_mul]; rfl
  have hp : (0 : Int) ≤ 256 ^ k := Int.pow_nonneg (by decide)
  rw [e, ← Int.ediv_ediv_of_nonneg hp, leV_drop hl k (by omega), List.drop_eq_getElem_cons hk, List.getD_eq_getElem?_getD, List.getElem?_eq_getElem hk]
  simp only [leV, Option.getD_some]
  generalize leV (l.drop (k + 1)) = T
  generalize l[k] = x
  match s, hs with
  | 0, _ | 1, _ | 2, _ | 3, _ | 4, _ | 5, _ | 6, _ | 7, _ => omega
end
end Eng
