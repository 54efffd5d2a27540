/-
  The walk by reckoning: contracts. A contract is stated once, at regions 0, 1, .. and integers 0, 1, ..; here it is carried to a call.
-/
import Derived.Test.YtakddcclpocejaaEng15
namespace Eng
open Go Go.RowKit

def SI.sub (σ : List SI) : SI → Option SI
  | .lit n => some (.lit n)
  | .var x => σ[x]?
def SB.sub (σ : List SI) : SB → Option SB
  | .lit b => some (.lit b)
  | .var x => match σ[x]? with
    | some (.var y) => some (.var y)
    | some (.lit 0) => some (.lit false)
    | some (.lit 1) => some (.lit true)
    | _ => none
def SC.sub (σ : List SI) (ρ : List Nat) : SC → Option SC
  | .ii k e => (e.sub σ).map (.ii k)
  | .bb e => (e.sub σ).map .bb
  | .pp r o => (ρ[r]?).map fun r' => .pp r' o
  | .ss r o l c => (ρ[r]?).map fun r' => .ss r' o l c
  | .kk v => some (.kk v)
def optl {α β : Type} (f : α → Option β) : List α → Option (List β)
  | [] => some []
  | x :: r => match f x, optl f r with
    | some y, some l => some (y :: l)
    | _, _ => none
def SW.sub (σ : List SI) (ρ : List Nat) : SW → Option SW
  | .cc x => (x.sub σ ρ).map .cc
  | .aa l => (optl (SC.sub σ ρ) l).map .aa
def SV.sub (σ : List SI) (ρ : List Nat) : SV → Option SV
  | .ww x => (x.sub σ ρ).map .ww
  | .tt l => (optl (SW.sub σ ρ) l).map .tt

theorem optl_get {α β : Type} {f : α → Option β} : ∀ {l : List α} {m : List β} {i : Nat}, optl f l = some m → ∀ x, l[i]? = some x → ∃ y, m[i]? = some y ∧ f x = some y
  | [], _, _, _, _, h => by simp at h
  | a :: l, m, i, h, x, hx => by
    unfold optl at h
    split at h
    · rename_i y n hy hn
      injection h with h
      subst h
      cases i with
      | zero => simp at hx; subst hx; exact ⟨y, rfl, hy⟩
      | succ i =>
        obtain ⟨z, hz, hf⟩ := optl_get hn x (by simpa using hx)
        exact ⟨z, by simpa using hz, hf⟩
    · cases h
theorem optl_length {α β : Type} {f : α → Option β} : ∀ {l : List α} {m : List β}, optl f l = some m → m.length = l.length
  | [], m, h => by simp [optl] at h; subst h; rfl
  | a :: l, m, h => by
    unfold optl at h
    split at h
    · rename_i y n hy hn
      injection h with h
      subst h
      simp [optl_length hn]
    · cases h
theorem optl_all2 {α β γ : Type} {f : α → Option β} {R : α → γ → Prop} {R' : β → γ → Prop} (h : ∀ x y v, f x = some y → R x v → R' y v) :
    ∀ {l : List α} {m : List β} {vs : List γ}, optl f l = some m → All2 R l vs → All2 R' m vs
  | [], m, [], hl, _ => by simp [optl] at hl; subst hl; trivial
  | a :: l, m, v :: vs, hl, ⟨h1, h2⟩ => by
    unfold optl at hl
    split at hl
    · rename_i y n hy hn
      injection hl with hl
      subst hl
      exact ⟨h a y v hy h1, optl_all2 h hn h2⟩
    · cases hl
theorem optl_all2' {α β γ : Type} {f : α → Option β} {R : α → γ → Prop} {R' : β → γ → Prop} (h : ∀ x y v, f x = some y → R' y v → R x v) :
    ∀ {l : List α} {m : List β} {vs : List γ}, optl f l = some m → All2 R' m vs → All2 R l vs
  | [], m, vs, hl, h2 => by
    simp [optl] at hl
    subst hl
    cases vs with
    | nil => trivial
    | cons _ _ => exact h2.elim
  | a :: l, m, vs, hl, h2 => by
    unfold optl at hl
    split at hl
    · rename_i y n hy hn
      injection hl with hl
      subst hl
      cases vs with
      | nil => exact h2.elim
      | cons v vs => exact ⟨h a y v hy h2.1, optl_all2' h hn h2.2⟩
    · cases hl

section
variable {env envc : List Int} {β βc : List (Nat × Nat)} {σ : List SI} {ρ : List Nat}

/-- Upwards: what stands for the contract's names stands for the caller's. -/
structure UpOk (σ : List SI) (ρ : List Nat) (envc env : List Int) (βc β : List (Nat × Nat)) : Prop where
  i : ∀ (j : Nat) (e : SI) (n : Int), σ[j]? = some e → envc[j]? = some n → e.is env n
  r : ∀ (j r : Nat) (x : Nat × Nat), ρ[j]? = some r → βc[j]? = some x → β[r]? = some x

theorem SC.up (h : UpOk σ ρ envc env βc β) {x y : SC} {v : Value} (hs : x.sub σ ρ = some y) (hx : x.is envc βc v) : y.is env β v := by
  cases x with
  | ii k e =>
    obtain ⟨n, hn, hf, rfl⟩ := hx
    cases e with
    | lit m =>
      simp [SC.sub, SI.sub] at hs
      subst hs
      exact ⟨n, hn, hf, rfl⟩
    | var j =>
      simp only [SC.sub, SI.sub] at hs
      cases hj : σ[j]? with
      | none => simp [hj] at hs
      | some e =>
        simp [hj] at hs
        subst hs
        exact ⟨n, h.i j e n hj hn, hf, rfl⟩
  | bb e =>
    obtain ⟨t, ht, rfl⟩ := hx
    cases e with
    | lit m =>
      simp [SC.sub, SB.sub] at hs
      subst hs
      exact ⟨t, ht, rfl⟩
    | var j =>
      simp only [SC.sub, SB.sub] at hs
      split at hs
      · rename_i y' hj
        simp at hs
        subst hs
        exact ⟨t, h.i j _ _ hj ht, rfl⟩
      · rename_i hj
        simp at hs
        subst hs
        have := h.i j _ _ hj ht
        refine ⟨t, ?_, rfl⟩
        cases t
        · rfl
        · simp [SI.is, b01] at this
      · rename_i hj
        simp at hs
        subst hs
        have := h.i j _ _ hj ht
        refine ⟨t, ?_, rfl⟩
        cases t
        · simp [SI.is, b01] at this
        · rfl
      · simp at hs
  | pp r o =>
    obtain ⟨z, hz, rfl⟩ := hx
    simp only [SC.sub] at hs
    cases hr : ρ[r]? with
    | none => simp [hr] at hs
    | some r' => simp [hr] at hs; subst hs; exact ⟨z, h.r r r' z hr hz, rfl⟩
  | ss r o l c =>
    obtain ⟨z, hz, rfl⟩ := hx
    simp only [SC.sub] at hs
    cases hr : ρ[r]? with
    | none => simp [hr] at hs
    | some r' => simp [hr] at hs; subst hs; exact ⟨z, h.r r r' z hr hz, rfl⟩
  | kk u => simp [SC.sub] at hs; subst hs; exact hx
theorem SW.up (h : UpOk σ ρ envc env βc β) {x y : SW} {v : Value} (hs : x.sub σ ρ = some y) (hx : x.is envc βc v) : y.is env β v := by
  cases x with
  | cc e =>
    simp only [SW.sub] at hs
    cases he : e.sub σ ρ with
    | none => simp [he] at hs
    | some z => simp [he] at hs; subst hs; exact SC.up h he hx
  | aa l =>
    simp only [SW.sub] at hs
    cases he : optl (SC.sub σ ρ) l with
    | none => simp [he] at hs
    | some z =>
      simp [he] at hs
      subst hs
      obtain ⟨vs, rfl, h2⟩ := hx
      exact ⟨vs, rfl, optl_all2 (R' := SC.is env β) (fun _ _ _ hs hx => SC.up h hs hx) he h2⟩
theorem SV.up (h : UpOk σ ρ envc env βc β) {x y : SV} {v : Value} (hs : x.sub σ ρ = some y) (hx : x.is envc βc v) : y.is env β v := by
  cases x with
  | ww e =>
    simp only [SV.sub] at hs
    cases he : e.sub σ ρ with
    | none => simp [he] at hs
    | some z => simp [he] at hs; subst hs; exact SW.up h he hx
  | tt l =>
    simp only [SV.sub] at hs
    cases he : optl (SW.sub σ ρ) l with
    | none => simp [he] at hs
    | some z =>
      simp [he] at hs
      subst hs
      obtain ⟨vs, rfl, h2⟩ := hx
      exact ⟨vs, rfl, optl_all2 (R' := SW.is env β) (fun _ _ _ hs hx => SW.up h hs hx) he h2⟩

/-- Downwards. -/
structure DownOk (σ : List SI) (ρ : List Nat) (envc env : List Int) (βc β : List (Nat × Nat)) : Prop where
  i : ∀ (j : Nat) (e : SI) (n : Int), σ[j]? = some e → e.is env n → envc[j]? = some n
  r : ∀ (j r : Nat) (x : Nat × Nat), ρ[j]? = some r → β[r]? = some x → βc[j]? = some x

theorem SC.down (h : DownOk σ ρ envc env βc β) {x y : SC} {v : Value} (hs : x.sub σ ρ = some y) (hy : y.is env β v) : x.is envc βc v := by
  cases x with
  | ii k e =>
    cases e with
    | lit m =>
      simp [SC.sub, SI.sub] at hs
      subst hs
      exact hy
    | var j =>
      simp only [SC.sub, SI.sub] at hs
      cases hj : σ[j]? with
      | none => simp [hj] at hs
      | some e =>
        simp [hj] at hs
        subst hs
        obtain ⟨n, hn, hf, rfl⟩ := hy
        exact ⟨n, h.i j e n hj hn, hf, rfl⟩
  | bb e =>
    cases e with
    | lit m =>
      simp [SC.sub, SB.sub] at hs
      subst hs
      exact hy
    | var j =>
      simp only [SC.sub, SB.sub] at hs
      split at hs
      · rename_i y' hj
        simp at hs
        subst hs
        obtain ⟨t, ht, rfl⟩ := hy
        exact ⟨t, h.i j _ _ hj ht, rfl⟩
      · rename_i hj
        simp at hs
        subst hs
        obtain ⟨t, ht, rfl⟩ := hy
        cases ht
        exact ⟨false, h.i j _ _ hj rfl, rfl⟩
      · rename_i hj
        simp at hs
        subst hs
        obtain ⟨t, ht, rfl⟩ := hy
        cases ht
        exact ⟨true, h.i j _ _ hj rfl, rfl⟩
      · simp at hs
  | pp r o =>
    simp only [SC.sub] at hs
    cases hr : ρ[r]? with
    | none => simp [hr] at hs
    | some r' =>
      simp [hr] at hs
      subst hs
      obtain ⟨z, hz, rfl⟩ := hy
      exact ⟨z, h.r r r' z hr hz, rfl⟩
  | ss r o l c =>
    simp only [SC.sub] at hs
    cases hr : ρ[r]? with
    | none => simp [hr] at hs
    | some r' =>
      simp [hr] at hs
      subst hs
      obtain ⟨z, hz, rfl⟩ := hy
      exact ⟨z, h.r r r' z hr hz, rfl⟩
  | kk u => simp [SC.sub] at hs; subst hs; exact hy
theorem SW.down (h : DownOk σ ρ envc env βc β) {x y : SW} {v : Value} (hs : x.sub σ ρ = some y) (hy : y.is env β v) : x.is envc βc v := by
  cases x with
  | cc e =>
    simp only [SW.sub] at hs
    cases he : e.sub σ ρ with
    | none => simp [he] at hs
    | some z => simp [he] at hs; subst hs; exact SC.down h he hy
  | aa l =>
    simp only [SW.sub] at hs
    cases he : optl (SC.sub σ ρ) l with
    | none => simp [he] at hs
    | some z =>
      simp [he] at hs
      subst hs
      obtain ⟨vs, rfl, h2⟩ := hy
      exact ⟨vs, rfl, optl_all2' (R := SC.is envc βc) (fun _ _ _ hs hx => SC.down h hs hx) he h2⟩
theorem SV.down (h : DownOk σ ρ envc env βc β) {x y : SV} {v : Value} (hs : x.sub σ ρ = some y) (hy : y.is env β v) : x.is envc βc v := by
  cases x with
  | ww e =>
    simp only [SV.sub] at hs
    cases he : e.sub σ ρ with
    | none => simp [he] at hs
    | some z => simp [he] at hs; subst hs; exact SW.down h he hy
  | tt l =>
    simp only [SV.sub] at hs
    cases he : optl (SW.sub σ ρ) l with
    | none => simp [he] at hs
    | some z =>
      simp [he] at hs
      subst hs
      obtain ⟨vs, rfl, h2⟩ := hy
      exact ⟨vs, rfl, optl_all2' (R := SW.is envc βc) (fun _ _ _ hs hx => SW.down h hs hx) he h2⟩
end
end Eng
