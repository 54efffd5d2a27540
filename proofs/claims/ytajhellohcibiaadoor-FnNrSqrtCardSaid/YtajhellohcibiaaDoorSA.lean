/-
  Powers by a chain of products: a tree of calls is read by a program, which is shown right. No conditions.
-/
import Derived.Test.YtajhellohcibiaaDoorIL
namespace Eng
open Go
section
variable {n : Nat} {q : List Int}
/-- What is asked of the products in memory, and what they leave. -/
structure EAsk (A : Ask) (n : Nat) (q : List Int) : Prop where
  p30 : ∀ z x y : List Int, z.length = n → x.length = n → y.length = n → Wds z → Wds x → Wds y → vw y < vw q → A.pre 30 (z ++ x ++ y)
  m30 : ∀ z x y ys : List Int, z.length = n → x.length = n → y.length = n → A.post 30 (z ++ x ++ y) ys → MulM n q x y ys
  p32 : ∀ z x : List Int, z.length = n → x.length = n → Wds z → Wds x → vw x < vw q → A.pre 32 (z ++ x)
  m32 : ∀ z x ys : List Int, z.length = n → x.length = n → A.post 32 (z ++ x) ys → MulM n q x x ys
  p35 : ∀ x y : List Int, x.length = n → y.length = n → Wds x → Wds y → vw y < vw q → A.pre 35 (x ++ y)
  m35 : ∀ x y ys : List Int, x.length = n → y.length = n → A.post 35 (x ++ y) ys → MulM n q x y ys
  p36 : ∀ y x : List Int, y.length = n → x.length = n → Wds y → Wds x → vw y < vw q → A.pre 36 (y ++ x)
  m36 : ∀ y x ys : List Int, y.length = n → x.length = n → A.post 36 (y ++ x) ys → MulM n q x y ys
  p58 : ∀ x : List Int, x.length = n → Wds x → vw x < vw q → A.pre 58 x
  m58 : ∀ x ys : List Int, x.length = n → A.post 58 x ys → MulM n q x x ys
theorem pow_add {X Y Z W : List Int} {j k : Nat} (hj : 1 ≤ j) (hk : 1 ≤ k) (h : PowM n q X j Y) (h' : PowM n q X k Z) (hm : MulM n q Y Z W) : PowM n q X (j + k) W := by
  obtain ⟨_, _, _, c, hc⟩ := h
  obtain ⟨_, _, _, c', hc'⟩ := h'
  obtain ⟨l1, w1, b1, d, hd⟩ := hm
  refine ⟨l1, w1, b1, ?_⟩
  have e1 : (BW ^ n) ^ (j + k - 1) = BW ^ n * ((BW ^ n) ^ (j - 1) * (BW ^ n) ^ (k - 1)) := by
    rw [← Int.pow_add, Int.mul_comm, ← Int.pow_succ]; congr 1; omega
  rw [e1, Int.pow_add]
  generalize (BW ^ n) ^ (j - 1) = T at *
  generalize (BW ^ n) ^ (k - 1) = T' at *
  generalize BW ^ n = R at *
  generalize vw X ^ j = S at *
  generalize vw X ^ k = S' at *
  generalize vw Y = y at *
  generalize vw Z = z at *
  generalize vw W = v at *
  generalize vw q = Q at *
  refine ⟨d * (T * T') + c * (z * T') + S * c', ?_⟩
  have h1 : v * R = y * z + Q * d := by omega
  have h2 : y * T = S + Q * c := by omega
  have h3 : z * T' = S' + Q * c' := by omega
  have e2 : v * (R * (T * T')) = (v * R) * (T * T') := by grind
  have e3 : (y * z + Q * d) * (T * T') = (y * T) * (z * T') + Q * d * (T * T') := by grind
  rw [e2, h1, e3, h2]
  have e4 : (S + Q * c) * (z * T') = S * (z * T') + Q * c * (z * T') := by grind
  rw [e4, h3]
  grind
/-! ### what a list of names is -/
def grp (n : Nat) : List SI → Option Nat
  | .var i :: r => bif listBeq SI.beq (.var i :: r) (vr i n) then some i else none
  | _ => none
theorem grp_eq {xs : List SI} {i : Nat} (h : grp n xs = some i) : xs = vr i n := by
  match xs, h with
  | .var j :: r, h =>
    have h : (bif listBeq SI.beq (.var j :: r) (vr j n) then some j else none) = some i := h
    cases hb : listBeq SI.beq (.var j :: r) (vr j n)
    · rw [hb] at h; cases h
    · rw [hb] at h
      cases h
      exact listBeq_eq (fun _ _ => SI.beq_eq) hb
  | .lit _ :: _, h => cases h
  | [], h => cases h
/-- The power that stands under a group of names. -/
def exo (n : Nat) (st : List (Nat × Nat)) (xs : List SI) : Option Nat := match grp n xs with
  | some i => (match lk i st with
    | some e => bif Nat.beq e 0 then none else some e
    | none => none)
  | none => none
def okz (n : Nat) (st : List (Nat × Nat)) (xs : List SI) : Bool := listBeq SI.beq xs (List.replicate n (.lit 0)) || (match grp n xs with
  | some i => (lk i st).isSome
  | none => false)
def pw (n E : Nat) : Tree → Nat → List (Nat × Nat) → Bool
  | .hav id xs m t, ne, st => Nat.beq m n && (match id with
    | 30 => okz n st (xs.take n) && (match exo n st ((xs.drop n).take n), exo n st (xs.drop (2 * n)) with
      | some a, some b => pw n E t (ne + n) ((ne, a + b) :: st)
      | _, _ => false)
    | 32 => okz n st (xs.take n) && (match exo n st (xs.drop n) with
      | some a => pw n E t (ne + n) ((ne, a + a) :: st)
      | none => false)
    | 35 => (match exo n st (xs.take n), exo n st (xs.drop n) with
      | some a, some b => pw n E t (ne + n) ((ne, a + b) :: st)
      | _, _ => false)
    | 36 => (match exo n st (xs.take n), exo n st (xs.drop n) with
      | some a, some b => pw n E t (ne + n) ((ne, b + a) :: st)
      | _, _ => false)
    | 58 => (match exo n st xs with
      | some a => pw n E t (ne + n) ((ne, a + a) :: st)
      | none => false)
    | _ => false)
  | .fin v S, _, st => SV.beq v (enc (dec v)) && (stB S st0 && (match exo n st (dec v) with
    | some a => Nat.beq a E
    | none => false))
  | _, _, _ => false
/-- What is known of the groups. -/
def Known (n : Nat) (q X : List Int) (st : List (Nat × Nat)) (env : List Int) : Prop := ∀ i e, lk i st = some e → i + n ≤ env.length ∧ Wds ((vr i n).map (·.val env)) ∧ (e ≠ 0 → PowM n q X e ((vr i n).map (·.val env)))
theorem known_more {X : List Int} {st : List (Nat × Nat)} {env ys : List Int} {ne e : Nat} (h : Known n q X st env) (hne : ne = env.length) (hy : ys.length = n) (he : PowM n q X e ys) : Known n q X ((ne, e) :: st) (env ++ ys) := by
  intro i e' hi
  by_cases hni : ne = i
  · subst hni
    rw [lk_cons_same] at hi
    injection hi with hi
    subst hi
    rw [vals_new hne hy.symm]
    exact ⟨by simp [hne, hy], he.2.1, fun _ => he⟩
  · rw [lk_cons_ne _ _ hni] at hi
    obtain ⟨h1, h2, h3⟩ := h i e' hi
    rw [vals_more (vr_bd h1)]
    exact ⟨by simp; omega, h2, h3⟩
theorem exo_is {X : List Int} {st : List (Nat × Nat)} {env : List Int} {xs : List SI} {a : Nat} (h : Known n q X st env) (hx : exo n st xs = some a) : 1 ≤ a ∧ PowM n q X a (xs.map (·.val env)) := by
  unfold exo at hx
  split at hx
  · rename_i i hg
    split at hx
    · rename_i e he
      cases hb : Nat.beq e 0
      · rw [hb, cond_false] at hx
        cases hx
        have h0 : a ≠ 0 := fun h => by subst h; simp at hb
        rw [grp_eq hg]
        exact ⟨by omega, (h i a he).2.2 h0⟩
      · rw [hb, cond_true] at hx; cases hx
    · cases hx
  · cases hx
theorem okz_is {X : List Int} {st : List (Nat × Nat)} {env : List Int} {xs : List SI} (h : Known n q X st env) (hx : okz n st xs = true) : xs.length = n ∧ Wds (xs.map (·.val env)) := by
  unfold okz at hx
  rw [Bool.or_eq_true] at hx
  rcases hx with hx | hx
  · have := listBeq_eq (fun _ _ => SI.beq_eq) hx
    subst this
    refine ⟨by simp, ?_⟩
    rw [List.map_replicate]
    exact wds_zeros _
  · split at hx
    · rename_i i hg
      obtain ⟨e, he⟩ := Option.isSome_iff_exists.1 hx
      rw [grp_eq hg]
      exact ⟨vr_length, (h i e he).2.1⟩
    · cases hx
theorem pw_ok {A : Ask} (hA : EAsk A n q) {X : List Int} {E : Nat} {env0 : List Int} (hfin : ∀ (e : List Int) (os : List SI), PowM n q X E (os.map (·.val (env0 ++ e))) → A.fin (enc os) st0 (env0 ++ e)) :
    ∀ (t : Tree) (ne : Nat) (st : List (Nat × Nat)) (env : List Int), (∃ e, env = env0 ++ e) → ne = env.length → Known n q X st env → pw n E t ne st = true → t.holds A env := by
  intro t
  induction t with
  | hav id xs m t ih =>
    intro ne st env ⟨e0, he0⟩ hne hK h
    unfold pw at h
    rw [Bool.and_eq_true] at h
    obtain ⟨hm, h⟩ := h
    have hm := Nat.eq_of_beq_eq_true hm
    subst hm
    have next : ∀ (a : Nat) (ys : List Int), ys.length = m → PowM m q X a ys → pw m E t (ne + m) ((ne, a) :: st) = true → t.holds A (env ++ ys) := fun a ys hy hp h => ih (ne + m) _ _ ⟨e0 ++ ys, by rw [he0, List.append_assoc]⟩ (by simp [hne, hy]) (known_more hK hne hy hp) h
    split at h
    · rw [Bool.and_eq_true] at h
      obtain ⟨hz, h⟩ := h
      split at h
      · rename_i a b ha hb
        obtain ⟨lz, wz⟩ := okz_is hK hz
        obtain ⟨a1, pa⟩ := exo_is hK ha
        obtain ⟨b1, pb⟩ := exo_is hK hb
        have e : xs.map (·.val env) = (xs.take m).map (·.val env) ++ ((xs.drop m).take m).map (·.val env) ++ (xs.drop (2 * m)).map (·.val env) := by
          rw [← List.map_append, ← List.map_append]
          congr 1
          rw [List.append_assoc, show 2 * m = m + m by omega, ← List.drop_drop, List.take_append_drop, List.take_append_drop]
        have lz : ((xs.take m).map (·.val env)).length = m := by rw [List.length_map]; exact lz
        refine ⟨by rw [e]; exact hA.p30 _ _ _ lz pa.1 pb.1 wz pa.2.1 pb.2.1 pb.2.2.1, fun ys hy hp => ?_⟩
        rw [e] at hp
        exact next _ ys hy (pow_add a1 b1 pa pb (hA.m30 _ _ _ _ lz pa.1 pb.1 hp)) h
      · cases h
    · rw [Bool.and_eq_true] at h
      obtain ⟨hz, h⟩ := h
      split at h
      · rename_i a ha
        obtain ⟨lz, wz⟩ := okz_is hK hz
        obtain ⟨a1, pa⟩ := exo_is hK ha
        have e : xs.map (·.val env) = (xs.take m).map (·.val env) ++ (xs.drop m).map (·.val env) := by
          rw [← List.map_append, List.take_append_drop]
        have lz : ((xs.take m).map (·.val env)).length = m := by rw [List.length_map]; exact lz
        refine ⟨by rw [e]; exact hA.p32 _ _ lz pa.1 wz pa.2.1 pa.2.2.1, fun ys hy hp => ?_⟩
        rw [e] at hp
        exact next _ ys hy (pow_add a1 a1 pa pa (hA.m32 _ _ _ lz pa.1 hp)) h
      · cases h
    · split at h
      · rename_i a b ha hb
        obtain ⟨a1, pa⟩ := exo_is hK ha
        obtain ⟨b1, pb⟩ := exo_is hK hb
        have e : xs.map (·.val env) = (xs.take m).map (·.val env) ++ (xs.drop m).map (·.val env) := by
          rw [← List.map_append, List.take_append_drop]
        refine ⟨by rw [e]; exact hA.p35 _ _ pa.1 pb.1 pa.2.1 pb.2.1 pb.2.2.1, fun ys hy hp => ?_⟩
        rw [e] at hp
        exact next _ ys hy (pow_add a1 b1 pa pb (hA.m35 _ _ _ pa.1 pb.1 hp)) h
      · cases h
    · split at h
      · rename_i a b ha hb
        obtain ⟨a1, pa⟩ := exo_is hK ha
        obtain ⟨b1, pb⟩ := exo_is hK hb
        have e : xs.map (·.val env) = (xs.take m).map (·.val env) ++ (xs.drop m).map (·.val env) := by
          rw [← List.map_append, List.take_append_drop]
        refine ⟨by rw [e]; exact hA.p36 _ _ pa.1 pb.1 pa.2.1 pb.2.1 pa.2.2.1, fun ys hy hp => ?_⟩
        rw [e] at hp
        exact next _ ys hy (pow_add b1 a1 pb pa (hA.m36 _ _ _ pa.1 pb.1 hp)) h
      · cases h
    · split at h
      · rename_i a ha
        obtain ⟨a1, pa⟩ := exo_is hK ha
        refine ⟨hA.p58 _ pa.1 pa.2.1 pa.2.2.1, fun ys hy hp => ?_⟩
        exact next _ ys hy (pow_add a1 a1 pa pa (hA.m58 _ _ pa.1 hp)) h
      · cases h
    · cases h
  | fin v S =>
    intro ne st env ⟨e0, he0⟩ hne hK h
    unfold pw at h
    rw [Bool.and_eq_true, Bool.and_eq_true] at h
    obtain ⟨hv, hS, h⟩ := h
    split at h
    · rename_i a ha
      have ha' := Nat.eq_of_beq_eq_true h
      subst ha'
      have e := SV.beq_eq hv
      have eS := stB_eq hS
      subst eS
      have hp := (exo_is hK ha).2
      subst he0
      show A.fin v st0 _
      rw [e]
      exact hfin e0 (dec v) hp
    · cases h
  | leaf _ _ => intro _ _ _ _ _ _ h; cases h
  | dfn _ _ _ _ => intro _ _ _ _ _ _ h; cases h
  | br _ _ _ _ _ => intro _ _ _ _ _ _ h; cases h
  | both _ _ _ _ => intro _ _ _ _ _ _ h; cases h
  | brE _ _ _ _ _ _ => intro _ _ _ _ _ _ h; cases h
  | obl _ _ _ => intro _ _ _ _ _ _ h; cases h
  | bad _ => intro _ _ _ _ _ _ h; cases h
end
end Eng
