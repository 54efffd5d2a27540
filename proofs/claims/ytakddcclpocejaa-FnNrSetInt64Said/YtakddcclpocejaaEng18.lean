/-
  The walk by reckoning: a contract carried to a call is sound.
-/
import Derived.Test.YtakddcclpocejaaEng17
namespace Eng
open Go Go.RowKit

theorem getAll_len {α : Type} {l : List (Nat × α)} : ∀ {n i : Nat} {m : List α}, getAll l i n = some m → m.length = n
  | 0, _, m, h => by simp [getAll] at h; subst h; rfl
  | n + 1, i, m, h => by
    unfold getAll at h
    split at h
    · rename_i x r hx hr
      injection h with h
      subst h
      simp [getAll_len hr]
    · cases h

theorem nodupB_ok : ∀ {l : List Nat}, nodupB l = true → ∀ (i j r : Nat), l[i]? = some r → l[j]? = some r → i = j
  | [], _, i, j, r, h, _ => by simp at h
  | x :: l, hn, i, j, r, hi, hj => by
    simp only [nodupB, Bool.and_eq_true, Bool.not_eq_true'] at hn
    have hx : ¬ x ∈ l := by
      intro hm
      have := List.elem_eq_true_of_mem hm
      rw [hn.1] at this
      cases this
    cases i with
    | zero =>
      cases j with
      | zero => rfl
      | succ j =>
        simp at hi hj
        subst hi
        exact absurd (List.mem_of_getElem? hj) hx
    | succ i =>
      cases j with
      | zero =>
        simp at hi hj
        subst hj
        exact absurd (List.mem_of_getElem? hi) hx
      | succ j =>
        simp at hi hj
        rw [nodupB_ok hn.2 i j r hi hj]

theorem notW_ok {r : Nat} : ∀ {l : List Nat} {km : List (List SC × Bool)}, notW r l km = true → ∀ (i : Nat) (cs : List SC), l[i]? = some r → km[i]? ≠ some (cs, true)
  | [], _, _, i, cs, h => by simp at h
  | x :: l, [], _, i, cs, h => by simp
  | x :: l, (c, w) :: km, hn, i, cs, h => by
    simp only [notW, Bool.and_eq_true, Bool.not_eq_true'] at hn
    cases i with
    | zero =>
      simp at h
      subst h
      have := hn.1
      simp at this
      simp [this]
    | succ i => simpa using notW_ok hn.2 i cs (by simpa using h)
theorem aliasB_ok : ∀ {l : List Nat} {km : List (List SC × Bool)}, aliasB l km = true → ∀ (i j r : Nat) (cs : List SC), l[i]? = some r → l[j]? = some r → km[i]? = some (cs, true) → i = j
  | [], _, _, i, j, r, cs, h, _, _ => by simp at h
  | x :: l, [], _, i, j, r, cs, _, _, h => by simp at h
  | x :: l, (c, w) :: km, hn, i, j, r, cs, hi, hj, hk => by
    simp only [aliasB, Bool.and_eq_true, Bool.or_eq_true, Bool.not_eq_true'] at hn
    obtain ⟨h1, h2, h3⟩ := hn
    cases i with
    | zero =>
      cases j with
      | zero => rfl
      | succ j =>
        simp at hi hj hk
        subst hi
        obtain ⟨_, rfl⟩ := hk
        have hx := List.mem_of_getElem? hj
        rcases h1 with h1 | h1
        · cases h1
        · rw [List.elem_eq_true_of_mem hx] at h1; cases h1
    | succ i =>
      cases j with
      | zero =>
        simp at hi hj hk
        subst hj
        exact absurd hk (notW_ok h2 i cs hi)
      | succ j =>
        simp at hi hj hk
        rw [aliasB_ok h3 i j r cs hi hj hk]

theorem posOf_some {r : Nat} : ∀ {l : List Nat} {i j : Nat}, posOf r i l = some j → i ≤ j ∧ l[j - i]? = some r
  | [], i, j, h => by simp [posOf] at h
  | x :: l, i, j, h => by
    unfold posOf at h
    cases hx : Nat.beq x r with
    | true =>
      rw [hx, cond_true] at h
      injection h with h
      subst h
      simp [Nat.eq_of_beq_eq_true hx]
    | false =>
      rw [hx, cond_false] at h
      obtain ⟨h1, h2⟩ := posOf_some h
      refine ⟨by omega, ?_⟩
      have : j - i = (j - (i + 1)) + 1 := by omega
      rw [this]
      simpa using h2
theorem posOf_none {r : Nat} : ∀ {l : List Nat} {i : Nat}, posOf r i l = none → ∀ j : Nat, l[j]? ≠ some r
  | [], i, _, j => by simp
  | x :: l, i, h, j => by
    unfold posOf at h
    cases hx : Nat.beq x r with
    | true => rw [hx, cond_true] at h; cases h
    | false =>
      rw [hx, cond_false] at h
      cases j with
      | zero =>
        intro he
        simp at he
        subst he
        simp at hx
      | succ j => simpa using posOf_none h j

theorem upMem_ok {σ : List SI} {ρ' ρ : List Nat} {km km1 : List (List SC × Bool)} : ∀ {l n : List (List SC × Bool)} {r : Nat}, upMem σ ρ' ρ km km1 r l = some n →
    n.length = l.length ∧ ∀ (j : Nat) (y : List SC × Bool), n[j]? = some y → ∃ x, l[j]? = some x ∧ upAt σ ρ' ρ km km1 (r + j) x = some y
  | [], n, r, h => by simp [upMem] at h; subst h; exact ⟨rfl, fun j y h => by simp at h⟩
  | x :: l, n, r, h => by
    unfold upMem at h
    split at h
    · rename_i y m hy hm
      injection h with h
      subst h
      obtain ⟨h1, h2⟩ := upMem_ok hm
      refine ⟨by simp [h1], fun j z hj => ?_⟩
      cases j with
      | zero => simp at hj; subst hj; exact ⟨x, rfl, by simpa using hy⟩
      | succ j =>
        obtain ⟨u, hu, hz⟩ := h2 j z (by simpa using hj)
        refine ⟨u, by simpa using hu, ?_⟩
        rw [show r + (j + 1) = r + 1 + j by omega]
        exact hz
    · cases h

theorem optl_get_rev {α β : Type} {f : α → Option β} : ∀ {l : List α} {m : List β} {i : Nat}, optl f l = some m → ∀ y, m[i]? = some y → ∃ x, l[i]? = some x ∧ f x = some y
  | [], m, i, h, y, hy => by simp [optl] at h; subst h; simp at hy
  | a :: l, m, i, h, y, hy => by
    unfold optl at h
    split at h
    · rename_i z n hz hn
      injection h with h
      subst h
      cases i with
      | zero => simp at hy; subst hy; exact ⟨a, rfl, hz⟩
      | succ i =>
        obtain ⟨x, hx, hf⟩ := optl_get_rev hn y (by simpa using hy)
        exact ⟨x, by simpa using hx, hf⟩
    · cases h

theorem inB_ok {n : Nat} : ∀ {l : List SI}, inB n l = true → ∀ (j x : Nat), l[j]? = some (.var x) → x < n
  | [], _, j, x, h => by simp at h
  | .lit m :: l, hn, j, x, h => by
    cases j with
    | zero => simp at h
    | succ j => exact inB_ok (l := l) hn j x (by simpa using h)
  | .var y :: l, hn, j, x, h => by
    simp only [inB, Bool.and_eq_true] at hn
    cases j with
    | zero =>
      simp at h
      subst h
      have h1 := hn.1
      rw [Nat.blt_eq] at h1
      exact h1
    | succ j => exact inB_ok (l := l) hn.2 j x (by simpa using h)

/-- What memB has looked at. -/
theorem memB_ok {σ : List SI} {ρ : List Nat} {S : St} : ∀ {km km1 : List (List SC × Bool)} {i : Nat}, memB σ ρ S i km km1 = true →
    ∀ (j : Nat) (cs : List SC) (wr : Bool), km[j]? = some (cs, wr) → ∃ r' ds wr' cs1 wr1, ρ[i + j]? = some r' ∧ optl (SC.sub σ ρ) cs = some ds ∧ S.mem[r']? = some (ds, wr') ∧
      (wr = true → wr' = true) ∧ km1[j]? = some (cs1, wr1) ∧ cs1.length = cs.length
  | [], km1, i, _, j, cs, wr, h => by simp at h
  | (cs0, wr0) :: km, km1, i, hm, j, cs, wr, h => by
    simp only [memB, Bool.and_eq_true] at hm
    obtain ⟨⟨h1, h2⟩, h3⟩ := hm
    cases j with
    | zero =>
      simp at h
      obtain ⟨rfl, rfl⟩ := h
      split at h1
      · rename_i r' ds hr hd
        split at h1
        · rename_i es wr' hs
          simp only [Bool.and_eq_true, Bool.or_eq_true, Bool.not_eq_true'] at h1
          have he := listBeq_eq (fun _ _ => SC.beq_eq) h1.1
          subst he
          split at h2
          · rename_i cs1 wr1 t
            refine ⟨r', ds, wr', cs1, wr1, by simpa using hr, hd, hs, fun hw => ?_, rfl, Nat.eq_of_beq_eq_true h2⟩
            rcases h1.2 with h4 | h4
            · rw [hw] at h4; cases h4
            · exact h4
          · cases h2
        · cases h1
      · cases h1
    | succ j =>
      obtain ⟨r', ds, wr', cs1, wr1, a1, a2, a3, a4, a5, a6⟩ := memB_ok h3 j cs wr (by simpa using h)
      refine ⟨r', ds, wr', cs1, wr1, ?_, a2, a3, a4, ?_, a6⟩
      · rw [show i + (j + 1) = i + 1 + j by omega]; exact a1
      · cases km1 with
        | nil => simp at a5
        | cons _ _ => simpa using a5

theorem upAt_ok {σ : List SI} {ρ' ρ : List Nat} {km km1 : List (List SC × Bool)} {r : Nat} {x y : List SC × Bool} (hn : aliasB ρ km = true) (h : upAt σ ρ' ρ km km1 r x = some y) :
    (∃ (i : Nat) (cs cs1 : List SC) (wr1 : Bool) (ds : List SC), ρ[i]? = some r ∧ km[i]? = some (cs, true) ∧ km1[i]? = some (cs1, wr1) ∧ optl (SC.sub σ ρ') cs1 = some ds ∧ y = (ds, true)) ∨
    (y = x ∧ ∀ i : Nat, ρ[i]? = some r → ∀ cs, km[i]? ≠ some (cs, true)) := by
  unfold upAt at h
  split at h
  · rename_i hp
    injection h with h
    exact .inr ⟨h.symm, fun i hi => absurd hi (posOf_none hp i)⟩
  · rename_i i hp
    have hi := (posOf_some hp).2
    rw [Nat.sub_zero] at hi
    split at h
    · rename_i cs cs1 wr1 h1 h2
      split at h
      · rename_i ds hd
        injection h with h
        exact .inl ⟨i, cs, cs1, wr1, ds, hi, h1, h2, hd, h.symm⟩
      · cases h
    · rename_i h1 _
      injection h with h
      refine .inr ⟨h.symm, fun j hj cs hc => ?_⟩
      have hji := aliasB_ok hn j i r cs hj hi hc
      subst hji
      simp_all
    · cases h

theorem SI.is_val {env : List Int} {e : SI} (h : ∀ x, e = .var x → x < env.length) : e.is env (e.val env) := by
  cases e with
  | lit n => rfl
  | var x =>
    have := h x rfl
    simp [SI.is, SI.val, this]

theorem names_ok {κ : K} {args : List SV} {S : St} {σ : List SI} {ρ : List Nat} (h : κ.names args S = some (σ, ρ)) :
    ρ.length = κ.mem.length ∧ σ.length = κ.m ∧ optl (SV.sub σ ρ) κ.args = some args ∧ aliasB ρ κ.mem = true ∧ inB S.ne σ = true ∧ memB σ ρ S 0 κ.mem κ.mem1 = true := by
  unfold K.names at h
  split at h
  · rename_i σ' ρ' hσ hρ
    split at h
    · rename_i as has
      cases hc : (listBeq SV.beq as args && (aliasB ρ' κ.mem && (inB S.ne σ' && memB σ' ρ' S 0 κ.mem κ.mem1))) with
      | false => rw [hc, cond_false] at h; cases h
      | true =>
        rw [hc, cond_true] at h
        simp only [Option.some.injEq, Prod.mk.injEq] at h
        obtain ⟨rfl, rfl⟩ := h
        simp only [Bool.and_eq_true] at hc
        obtain ⟨hc1, hnd, hin, hmb⟩ := hc
        have hEq : as = args := listBeq_eq (fun _ _ => SV.beq_eq) hc1
        rw [hEq] at has
        exact ⟨getAll_len hρ, getAll_len hσ, has, hnd, hin, hmb⟩
    · cases h
  · cases h

/-- A contract's own names, and what it leaves, carried to the caller's. -/
structure Carried (κ : K) (r : CR) (env : List Int) (β : List (Nat × Nat)) (vs : List Value) (w W0 : World) (Tp : Nat → Nat → Prop) (env0 : List Int) (βc : List (Nat × Nat)) : Prop where
  len : env0.length = κ.m
  mem : MRel w (TpOf βc κ.mem) env0 βc κ.mem w
  args : All2 (SV.is env0 βc) κ.args vs
  xs : r.xs.map (·.val env) = env0
  id : r.id = κ.id
  m : r.m = κ.mout
  post : ∀ (ys : List Int) (β1 : List (Nat × Nat)) (v : Value) (w' : World), ys.length = κ.mout → Longer βc β1 → κ.ret.is (env0 ++ ys) β1 v → MRel w (TpOf βc κ.mem) (env0 ++ ys) β1 κ.mem1 w' →
    (∀ i x, κ.mem.length ≤ i → β1[i]? = some x → w.heap.size ≤ x.1) → ∃ β', Longer β β' ∧ r.ret.is (env ++ ys) β' v ∧ MRel W0 Tp (env ++ ys) β' r.mem w'

theorem use_core {κ : K} {args : List SV} {S : St} {r : CR} {σ : List SI} {ρ : List Nat} (hn : κ.names args S = some (σ, ρ)) (h : κ.use args S = some r)
    {env : List Int} {β : List (Nat × Nat)} {vs : List Value} {w W0 : World} {Tp : Nat → Nat → Prop} (hf : Facts env S) (hM : MRel W0 Tp env β S.mem w) (ha : All2 (SV.is env β) args vs) :
    Carried κ r env β vs w W0 Tp (σ.map (·.val env)) (ρ.map fun r => β.getD r (0, 0)) := by
  obtain ⟨hρl, hσl, has, hnd, hin, hmb⟩ := names_ok hn
  unfold K.use at h
  rw [hn] at h
  simp only [] at h
  split at h
  · rename_i ret m1 m2 hret hm1 hm2
    injection h with h
    subst h
    have hmk := memB_ok hmb
    simp only [Nat.zero_add] at hmk
    have hne := hf.ne
    -- the integers and the places of the contract
    let env0 : List Int := σ.map (·.val env)
    let βc : List (Nat × Nat) := ρ.map fun r => β.getD r (0, 0)
    have hgetD : ∀ (r : Nat) (x : Nat × Nat), β[r]? = some x → β.getD r (0, 0) = x := fun r x hx => by simp [List.getD, hx]
    have hβc : ∀ (j r : Nat), ρ[j]? = some r → βc[j]? = some (β.getD r (0, 0)) := fun j r hj => by simp [βc, hj]
    have hmkβ : ∀ (j : Nat) (cs : List SC) (wr : Bool), κ.mem[j]? = some (cs, wr) → ∃ r' ds wr' cs1 wr1 x, ρ[j]? = some r' ∧ optl (SC.sub σ ρ) cs = some ds ∧ S.mem[r']? = some (ds, wr') ∧
        (wr = true → wr' = true) ∧ κ.mem1[j]? = some (cs1, wr1) ∧ cs1.length = cs.length ∧ β[r']? = some x ∧ βc[j]? = some x := by
      intro j cs wr hj
      obtain ⟨r', ds, wr', cs1, wr1, a1, a2, a3, a4, a5, a6⟩ := hmk j cs wr hj
      obtain ⟨x, hx, _⟩ := hM.cell r' ds wr' a3
      exact ⟨r', ds, wr', cs1, wr1, x, a1, a2, a3, a4, a5, a6, hx, by rw [hβc j r' a1, hgetD r' x hx]⟩
    have hdown : DownOk σ ρ env0 env βc β := by
      refine ⟨fun j e n hj he => ?_, fun j r x hj hx => ?_⟩
      · simp [env0, hj, he.val]
      · rw [hβc j r hj, hgetD r x hx]
    have hM0 : MRel w (TpOf βc κ.mem) env0 βc κ.mem w := by
      refine ⟨by simp [βc, hρl], fun j cs wr hj => ?_, ?_, Kept.refl _ _⟩
      · obtain ⟨r', ds, wr', cs1, wr1, x, a1, a2, a3, a4, a5, a6, a7, a8⟩ := hmkβ j cs wr hj
        obtain ⟨y, hy, hl, hcell, hfr⟩ := hM.cell r' ds wr' a3
        rw [a7] at hy
        injection hy with hy
        subst hy
        refine ⟨x, a8, hl, fun i sc hi => ?_, fun hw i hi => ?_⟩
        · obtain ⟨sd, hd, hsub⟩ := optl_get a2 sc hi
          obtain ⟨v, hv, hvs⟩ := hcell i sd hd
          exact ⟨v, hv, SC.down hdown hsub hvs⟩
        · refine ⟨(hfr (a4 hw) i (by rw [optl_length a2]; exact hi)).1, .inr ⟨j, cs, x, ?_, a8, rfl, by omega, by omega⟩⟩
          rw [hj, hw]
      · intro j l x y cs ds wr ws hjl hx hy hj hll hor
        obtain ⟨r1, d1, wr1, c1, u1, z1, a1, a2, a3, a4, a5, a6, a7, a8⟩ := hmkβ j cs wr hj
        obtain ⟨r2, d2, wr2, c2, u2, z2, b1, b2, b3, b4, b5, b6, b7, b8⟩ := hmkβ l ds ws hll
        rw [hx] at a8
        rw [hy] at b8
        injection a8 with a8
        injection b8 with b8
        subst a8
        subst b8
        have hrr : r1 ≠ r2 := by
          intro he
          rcases hor with h | h
          · exact hjl (aliasB_ok hnd j l r1 cs a1 (by rw [b1, he]) (by rw [hj, h]))
          · exact hjl (aliasB_ok hnd l j r2 ds b1 (by rw [a1, he]) (by rw [hll, h])).symm
        have := hM.dis r1 r2 x y d1 d2 wr1 wr2 hrr a7 b7 a3 b3 (hor.imp a4 b4)
        rw [optl_length a2, optl_length b2] at this
        exact this
    refine ⟨by simp [hσl], hM0, ?_, rfl, rfl, rfl, ?_⟩
    · exact optl_all2' (R := SV.is env0 βc) (R' := SV.is env β) (fun _ _ _ hs hx => SV.down hdown hs hx) has ha
    · rintro ys β1 v w' hyl ⟨δ, hδ⟩ hv hM1 hfresh
      have hδ : β1 = βc ++ δ := hδ
      have hM1 : MRel w (TpOf βc κ.mem) (env0 ++ ys) β1 κ.mem1 w' := hM1
      have hv : κ.ret.is (env0 ++ ys) β1 v := hv
      -- lengths
      have hβcl : βc.length = κ.mem.length := by simp [βc, hρl]
      have hml : κ.mem.length ≤ κ.mem1.length := by
        have := hM1.nb
        rw [hδ, List.length_append, hβcl] at this
        omega
      have hδl : δ.length = κ.mem1.length - κ.mem.length := by
        have := hM1.nb
        rw [hδ, List.length_append, hβcl] at this
        omega
      have hSl := hM.nb
      have hup : UpOk (σ ++ varsFrom S.ne κ.mout) (ρ ++ regsFrom S.mem.length (κ.mem1.length - κ.mem.length)) (env0 ++ ys) (env ++ ys) β1 (β ++ δ) := by
        refine ⟨fun j e n hj hn => ?_, fun j r x hj hx => ?_⟩
        · rcases Nat.lt_or_ge j σ.length with hl | hl
          · rw [List.getElem?_append_left hl] at hj
            rw [List.getElem?_append_left (by simpa [env0] using hl)] at hn
            simp [env0, hj] at hn
            subst hn
            exact (SI.is_val (e := e) fun x hx => by rw [hne]; rw [hx] at hj; exact inB_ok hin j x hj).more ys
          · rw [List.getElem?_append_right hl] at hj
            rw [List.getElem?_append_right (by simpa [env0] using hl)] at hn
            simp only [varsFrom, List.getElem?_map, Option.map_eq_some_iff] at hj
            obtain ⟨i, hi, rfl⟩ := hj
            rw [List.getElem?_range (by have := (List.getElem?_eq_some_iff.1 hi).1; simpa using this)] at hi
            injection hi with hi
            simp only [SI.is]
            rw [List.getElem?_append_right (by omega), show S.ne + i - env.length = i by omega, ← hi]
            simpa [env0] using hn
        · rcases Nat.lt_or_ge j ρ.length with hl | hl
          · rw [List.getElem?_append_left hl] at hj
            rw [hδ, List.getElem?_append_left (by simpa [βc] using hl), hβc j r hj] at hx
            have hjm : j < κ.mem.length := by omega
            obtain ⟨r', ds, wr', cs1, wr1, y, a1, a2, a3, a4, a5, a6, a7, a8⟩ := hmkβ j (κ.mem[j]).1 (κ.mem[j]).2 (by simp [hjm])
            rw [hj] at a1
            injection a1 with a1
            subst a1
            rw [hgetD r y a7] at hx
            injection hx with hx
            subst hx
            exact get_more a7 _
          · rw [List.getElem?_append_right hl] at hj
            simp only [regsFrom, List.getElem?_map, Option.map_eq_some_iff] at hj
            obtain ⟨i, hi, rfl⟩ := hj
            rw [List.getElem?_range (by have := (List.getElem?_eq_some_iff.1 hi).1; simpa using this)] at hi
            injection hi with hi
            rw [hδ, List.getElem?_append_right (by omega)] at hx
            rw [List.getElem?_append_right (by omega), show S.mem.length + i - β.length = j - βc.length by omega]
            exact hx
      obtain ⟨hm1l, hm1g⟩ := upMem_ok hm1
      simp only [Nat.zero_add] at hm1g
      have hm2l := optl_length hm2
      have hsz : w.heap.size ≤ w'.heap.size := hM1.kept.size
      have hW0 : W0.heap.size ≤ w.heap.size := hM.kept.size
      -- a region from before
      have hold : ∀ (r : Nat) (es : List SC) (wr : Bool), m1[r]? = some (es, wr) → ∃ es0, S.mem[r]? = some (es0, wr) ∧ es0.length = es.length := by
        intro r es wr hr
        obtain ⟨x, hx, hat⟩ := hm1g r _ hr
        rcases upAt_ok hnd hat with ⟨i, cs, cs1, wr1, ds, b1, b2, b3, b4, b5⟩ | ⟨b1, _⟩
        · obtain ⟨r', ds', wr', cs1', wr1', y, a1, a2, a3, a4, a5, a6, a7, a8⟩ := hmkβ i cs true b2
          rw [b1] at a1
          injection a1 with a1
          subst a1
          rw [b3] at a5
          simp at a5
          obtain ⟨rfl, rfl⟩ := a5
          simp at b5
          obtain ⟨rfl, rfl⟩ := b5
          refine ⟨ds', by rw [a3, a4 rfl], ?_⟩
          rw [optl_length a2, optl_length b4, a6]
        · subst b1
          exact ⟨es, hx, rfl⟩
      have hsplit : ∀ (r : Nat) (es : List SC) (wr : Bool), (m1 ++ m2)[r]? = some (es, wr) → (r < S.mem.length ∧ m1[r]? = some (es, wr)) ∨
          (∃ i cs1, r = S.mem.length + i ∧ κ.mem1[κ.mem.length + i]? = some (cs1, wr) ∧ optl (SC.sub (σ ++ varsFrom S.ne κ.mout) (ρ ++ regsFrom S.mem.length (κ.mem1.length - κ.mem.length))) cs1 = some es) := by
        intro r es wr hr
        rcases Nat.lt_or_ge r S.mem.length with hl | hl
        · left
          rw [List.getElem?_append_left (by omega)] at hr
          exact ⟨hl, hr⟩
        · right
          rw [List.getElem?_append_right (by omega)] at hr
          obtain ⟨x, hx, hf'⟩ := optl_get_rev hm2 _ hr
          rw [List.getElem?_drop] at hx
          unfold newOne at hf'
          split at hf'
          · rename_i ds hd
            simp at hf'
            obtain ⟨rfl, rfl⟩ := hf'
            exact ⟨r - S.mem.length, x.1, by omega, by rw [← hm1l]; exact hx, hd⟩
          · cases hf'
      have hβold : ∀ (r : Nat) (x : Nat × Nat), r < S.mem.length → (β ++ δ)[r]? = some x → β[r]? = some x := by
        intro r x hr hx
        rw [List.getElem?_append_left (by omega)] at hx
        exact hx
      have hβnew : ∀ i : Nat, (β ++ δ)[S.mem.length + i]? = β1[κ.mem.length + i]? := by
        intro i
        rw [hδ, List.getElem?_append_right (by omega), List.getElem?_append_right (by omega)]
        congr 1
        omega
      have holdlt : ∀ (r : Nat) (x : Nat × Nat), r < S.mem.length → β[r]? = some x → x.1 < w.heap.size := by
        intro r x hr hx
        obtain ⟨y, hy, hlt, _⟩ := hM.cell r (S.mem[r]).1 (S.mem[r]).2 (by simp [hr])
        rw [hx] at hy
        injection hy with hy
        subst hy
        exact hlt
      refine ⟨β ++ δ, ⟨δ, rfl⟩, SV.up hup hret hv, ⟨?_, ?_, ?_, ?_⟩⟩
      · simp only [List.length_append, hδl, hm1l, hm2l, List.length_drop, hSl]
      · intro r es wr hr
        rcases hsplit r es wr hr with ⟨hrl, hr1⟩ | ⟨i, cs1, rfl, h1, h2⟩
        · obtain ⟨x0, hx0, hat⟩ := hm1g r _ hr1
          obtain ⟨es0, hes0, hesl⟩ := hold r es wr hr1
          obtain ⟨x, hx, hxl, hxc, hxf⟩ := hM.cell r es0 wr hes0
          refine ⟨x, get_more hx _, by omega, ?_, fun hw j hj => ?_⟩
          · rcases upAt_ok hnd hat with ⟨i, cs, cs1, wr1, ds, b1, b2, b3, b4, b5⟩ | ⟨b1, b2⟩
            · obtain ⟨r', ds', wr', cs1', wr1', y, a1, a2, a3, a4, a5, a6, a7, a8⟩ := hmkβ i cs true b2
              rw [b1] at a1
              injection a1 with a1
              subst a1
              simp at b5
              obtain ⟨rfl, rfl⟩ := b5
              obtain ⟨z, hz, hzl, hzc, _⟩ := hM1.cell i cs1 wr1 b3
              rw [hδ, List.getElem?_append_left (by rw [hβcl]; exact (List.getElem?_eq_some_iff.1 b2).1), a8] at hz
              injection hz with hz
              subst hz
              rw [a7] at hx
              injection hx with hx
              subst hx
              intro j sc hj
              obtain ⟨s1, hs1, hsub⟩ := optl_get_rev b4 sc hj
              obtain ⟨u, hu, hus⟩ := hzc j s1 hs1
              exact ⟨u, hu, SC.up hup hsub hus⟩
            · subst b1
              rw [hx0] at hes0
              simp at hes0
              subst hes0
              intro j sc hj
              obtain ⟨u, hu, hus⟩ := hxc j sc hj
              refine ⟨u, ?_, hus.more ys δ⟩
              rw [hM1.kept.cell x.1 (x.2 + j) hxl]
              · exact hu
              · rintro ⟨i, cs, y, c1, c2, c3, c4, c5⟩
                obtain ⟨r', ds', wr', cs1', wr1', y', a1, a2, a3, a4, a5, a6, a7, a8⟩ := hmkβ i cs true c1
                rw [c2] at a8
                injection a8 with a8
                subst a8
                have hrr : r' ≠ r := fun he => b2 i (by rw [a1, he]) cs c1
                have hjl := (List.getElem?_eq_some_iff.1 hj).1
                have hdl := optl_length a2
                rcases hM.dis r' r y x ds' es wr' wr hrr a7 hx a3 hx0 (.inl (a4 rfl)) with d1 | d1 | d1
                · exact d1 c3.symm
                · omega
                · omega
          · obtain ⟨h1, h2⟩ := hxf hw j (by omega)
            exact ⟨by rw [hM1.kept.frozen x.1 (x.2 + j) hxl]; exact h1, h2⟩
        · obtain ⟨x, hx, hxl, hxc, hxf⟩ := hM1.cell _ cs1 wr h1
          refine ⟨x, by rw [hβnew]; exact hx, hxl, fun j sc hj => ?_, fun hw j hj => ?_⟩
          · obtain ⟨s1, hs1, hsub⟩ := optl_get_rev h2 sc hj
            obtain ⟨u, hu, hus⟩ := hxc j s1 hs1
            exact ⟨u, hu, SC.up hup hsub hus⟩
          · rw [optl_length h2] at hj
            exact ⟨(hxf hw j hj).1, .inl (Nat.le_trans hW0 (hfresh _ x (by omega) hx))⟩
      · intro r s x y cs ds wr ws hrs hx hy hr hs hor
        rcases hsplit r cs wr hr with ⟨hrl, hr1⟩ | ⟨i, cs1, rfl, h1, h2⟩
        · rcases hsplit s ds ws hs with ⟨hsl, hs1⟩ | ⟨i', cs1', rfl, h1', h2'⟩
          · obtain ⟨es0, hes0, hesl⟩ := hold r cs wr hr1
            obtain ⟨fs0, hfs0, hfsl⟩ := hold s ds ws hs1
            have := hM.dis r s x y es0 fs0 wr ws hrs (hβold r x hrl hx) (hβold s y hsl hy) hes0 hfs0 hor
            rw [hesl, hfsl] at this
            exact this
          · left
            rw [hβnew] at hy
            have h3 := hfresh _ y (by omega) hy
            have h4 := holdlt r x hrl (hβold r x hrl hx)
            omega
        · rcases hsplit s ds ws hs with ⟨hsl, hs1⟩ | ⟨i', cs1', rfl, h1', h2'⟩
          · left
            rw [hβnew] at hx
            have h3 := hfresh _ x (by omega) hx
            have h4 := holdlt s y hsl (hβold s y hsl hy)
            omega
          · rw [hβnew] at hx hy
            rw [optl_length h2, optl_length h2']
            exact hM1.dis _ _ x y cs1 cs1' wr ws (by omega) hx hy h1 h1' hor
      · refine hM.kept.trans hM1.kept ?_
        rintro b o hb ⟨i, cs, y, c1, c2, rfl, c4, c5⟩
        obtain ⟨r', ds', wr', cs1', wr1', y', a1, a2, a3, a4, a5, a6, a7, a8⟩ := hmkβ i cs true c1
        rw [c2] at a8
        injection a8 with a8
        subst a8
        obtain ⟨z, hz, _, _, hfr⟩ := hM.cell r' ds' wr' a3
        rw [a7] at hz
        injection hz with hz
        subst hz
        rcases (hfr (a4 rfl) (o - y.2) (by rw [optl_length a2]; omega)).2 with h1 | h1
        · omega
        · rw [show y.2 + (o - y.2) = o by omega] at h1
          exact h1
  · cases h

theorem names_of_use {κ : K} {args : List SV} {S : St} {r : CR} (h : κ.use args S = some r) : ∃ σ ρ, κ.names args S = some (σ, ρ) := by
  unfold K.use at h
  split at h
  · rename_i σ ρ hn; exact ⟨σ, ρ, hn⟩
  · cases h

theorem use_ok {P : Program} {A : Ask} {κ : K} (hk : KOk P A κ) {args : List SV} {S : St} {r : CR} (h : κ.use args S = some r)
    {env : List Int} {β : List (Nat × Nat)} {vs : List Value} {w W0 : World} {Tp : Nat → Nat → Prop} (hf : Facts env S) (hM : MRel W0 Tp env β S.mem w) (ha : All2 (SV.is env β) args vs)
    (hp : A.pre r.id (r.xs.map (·.val env))) :
    Calls P κ.f vs.toArray w (fun e w' => ∃ ys β' v, ys.length = r.m ∧ A.post r.id (r.xs.map (·.val env)) ys ∧ e = .returned v ∧ Longer β β' ∧ r.ret.is (env ++ ys) β' v ∧ MRel W0 Tp (env ++ ys) β' r.mem w') := by
  obtain ⟨σ, ρ, hn⟩ := names_of_use h
  have hc := use_core hn h hf hM ha
  rw [hc.xs, hc.id] at hp ⊢
  rw [hc.m]
  refine (hk _ _ vs w hc.len hc.mem hc.args hp).mono ?_
  rintro e w' ⟨ys, β1, v, hyl, hpost, rfl, hb, hv, hM1, hfresh⟩
  obtain ⟨β', h1, h2, h3⟩ := hc.post ys β1 v w' hyl hb hv hM1 hfresh
  exact ⟨ys, β', v, hyl, hpost, rfl, h1, h2, h3⟩

theorem conOf_ok {P : Program} {ext : Nat → Nat} {A : Ask} : ∀ {pc : Nat → Nat → St → Option (List PR)} {L : List K}, (∀ κ, κ ∈ L → KOk P A κ) → ConOk ⟨P, ext, conOf L, pc⟩ A
  | pc, [], _ => fun f args S r h => by simp [conOf] at h
  | pc, κ :: L, hL => fun f args S r h env β vs w W0 Tp hf hM ha hp => by
    simp only [conOf] at h
    cases hb : Nat.beq κ.f f with
    | false =>
      rw [hb, cond_false] at h
      exact conOf_ok (ext := ext) (pc := pc) (fun κ' hk => hL κ' (List.mem_cons_of_mem _ hk)) f args S r h env β vs w W0 Tp hf hM ha hp
    | true =>
      have hff := Nat.eq_of_beq_eq_true hb
      rw [hb, cond_true] at h
      split at h
      · rename_i c hc
        injection h with h
        subst h
        subst hff
        exact use_ok (hL κ (List.mem_cons_self ..)) hc hf hM ha hp
      · exact conOf_ok (ext := ext) (pc := pc) (fun κ' hk => hL κ' (List.mem_cons_of_mem _ hk)) f args S r h env β vs w W0 Tp hf hM ha hp
end Eng
