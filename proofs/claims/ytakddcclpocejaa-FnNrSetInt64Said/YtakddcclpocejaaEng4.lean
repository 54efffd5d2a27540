/-
  The state of the walk by reckoning, what it says of a frame and of a world, and how that is kept.
-/
import Derived.Test.YtakddcclpocejaaEng3
namespace Eng
open Go Go.RowKit

structure St where
  nt : Nat
  tm : List (Nat × SV)
  fx : List (Nat × Bool)
  bt : List Nat
  mem : List (List SC × Bool)
  ne : Nat
  fn : Nat
  blk : Nat

def lk {α : Type} (d : Nat) : List (Nat × α) → Option α
  | [] => none
  | (k, v) :: r => bif Nat.beq k d then some v else lk d r

theorem lk_cons_same {α : Type} (d : Nat) (v : α) (r : List (Nat × α)) : lk d ((d, v) :: r) = some v := by
  simp only [lk, Nat.beq_refl, cond_true]
theorem lk_cons_ne {α : Type} {d k : Nat} (v : α) (r : List (Nat × α)) (h : k ≠ d) : lk d ((k, v) :: r) = lk d r := by
  have : Nat.beq k d = false := by
    cases hb : Nat.beq k d
    · rfl
    · exact absurd (Nat.eq_of_beq_eq_true hb) h
  simp only [lk, this, cond_false]

/-- What was there before stays as it was, but for the cells that Tp names. -/
structure Kept (W0 : World) (Tp : Nat → Nat → Prop) (w : World) : Prop where
  os : w.os = W0.os
  tape : w.tape = W0.tape
  output : w.output = W0.output
  size : W0.heap.size ≤ w.heap.size
  block : ∀ b, b < W0.heap.size → (∀ o, ¬ Tp b o) → w.heap[b]? = W0.heap[b]?
  cell : ∀ b o, b < W0.heap.size → ¬ Tp b o → w.cell? ⟨b, o, none⟩ = W0.cell? ⟨b, o, none⟩
  frozen : ∀ b o, b < W0.heap.size → w.frozen? ⟨b, o, none⟩ = W0.frozen? ⟨b, o, none⟩

theorem Kept.refl (W0 : World) (Tp : Nat → Nat → Prop) : Kept W0 Tp W0 :=
  ⟨rfl, rfl, rfl, Nat.le_refl _, fun _ _ _ => rfl, fun _ _ _ _ => rfl, fun _ _ _ => rfl⟩
theorem Kept.below {W0 w : World} (h : Kept W0 (fun _ _ => False) w) : Below W0.heap.size W0 w :=
  ⟨h.os, h.tape, h.output, h.size, fun b hb => h.block b hb fun _ => id⟩
theorem Kept.trans {W0 w w' : World} {Tp Tq : Nat → Nat → Prop} (h : Kept W0 Tp w) (k : Kept w Tq w') (hq : ∀ b o, b < W0.heap.size → Tq b o → Tp b o) : Kept W0 Tp w' :=
  ⟨k.os.trans h.os, k.tape.trans h.tape, k.output.trans h.output, Nat.le_trans h.size k.size,
    fun b hb hn => (k.block b (Nat.lt_of_lt_of_le hb h.size) fun o ho => hn o (hq b o hb ho)).trans (h.block b hb hn),
    fun b o hb hn => (k.cell b o (Nat.lt_of_lt_of_le hb h.size) fun ho => hn (hq b o hb ho)).trans (h.cell b o hb hn),
    fun b o hb => (k.frozen b o (Nat.lt_of_lt_of_le hb h.size)).trans (h.frozen b o hb)⟩
theorem Kept.drew {W0 w : World} {Tp : Nat → Nat → Prop} (h : Kept W0 Tp w) : Kept W0 Tp { w with drawn := w.drawn + 1 } :=
  ⟨h.os, h.tape, h.output, h.size, h.block, h.cell, h.frozen⟩
theorem Kept.alloc {W0 w : World} {Tp : Nat → Nat → Prop} (h : Kept W0 Tp w) (o : Obj) : Kept W0 Tp (w.alloc o) := by
  refine ⟨h.os, h.tape, h.output, Nat.le_trans h.size (by simp), fun b hb hn => ?_, fun b i hb hn => ?_, fun b i hb => ?_⟩
  · rw [Below.heap_alloc w o b (Nat.lt_of_lt_of_le hb h.size)]; exact h.block b hb hn
  · rw [World.cell?_alloc_lt w o _ (Nat.lt_of_lt_of_le hb h.size)]; exact h.cell b i hb hn
  · rw [World.frozen?_alloc_past o b i (Nat.lt_of_lt_of_le hb h.size)]; exact h.frozen b i hb
theorem Kept.setCell {W0 w : World} {Tp : Nat → Nat → Prop} (h : Kept W0 Tp w) (b o : Nat) (v : Value) (hp : W0.heap.size ≤ b ∨ Tp b o) : Kept W0 Tp (w.setCell ⟨b, o, none⟩ v) := by
  refine ⟨h.os, h.tape, h.output, by simpa [World.setCell] using h.size, fun c hc hn => ?_, fun c i hc hn => ?_, fun c i hc => ?_⟩
  · have hne : c ≠ b := by
      rintro rfl
      rcases hp with hp | hp
      · omega
      · exact hn o hp
    rw [Below.heap_setCell w ⟨b, o, none⟩ v c hne]; exact h.block c hc hn
  · have hne : (⟨b, o, none⟩ : Addr) ≠ ⟨c, i, none⟩ := by
      intro e
      injection e with e1 e2
      subst e1; subst e2
      rcases hp with hp | hp
      · omega
      · exact hn hp
    rw [World.cell?_setCell_other w _ _ _ hne]; exact h.cell c i hc hn
  · rw [World.frozen?_setCell]; exact h.frozen c i hc

/-- What the state says of the world. -/
structure MRel (W0 : World) (Tp : Nat → Nat → Prop) (env : List Int) (β : List (Nat × Nat)) (mem : List (List SC × Bool)) (w : World) : Prop where
  nb : β.length = mem.length
  cell : ∀ (r : Nat) (cs : List SC) (wr : Bool), mem[r]? = some (cs, wr) → ∃ x : Nat × Nat, β[r]? = some x ∧ x.1 < w.heap.size ∧
    (∀ (j : Nat) (sc : SC), cs[j]? = some sc → ∃ v, w.cell? ⟨x.1, x.2 + j, none⟩ = some v ∧ sc.is env β v) ∧
    (wr = true → ∀ j, j < cs.length → w.frozen? ⟨x.1, x.2 + j, none⟩ = false ∧ (W0.heap.size ≤ x.1 ∨ Tp x.1 (x.2 + j)))
  dis : ∀ (r s : Nat) (x y : Nat × Nat) (cs ds : List SC) (wr ws : Bool), r ≠ s → β[r]? = some x → β[s]? = some y → mem[r]? = some (cs, wr) → mem[s]? = some (ds, ws) → (wr = true ∨ ws = true) →
    x.1 ≠ y.1 ∨ x.2 + cs.length ≤ y.2 ∨ y.2 + ds.length ≤ x.2
  kept : Kept W0 Tp w

/-- The cells alone. -/
def CellsOk (env : List Int) (β : List (Nat × Nat)) (mem : List (List SC × Bool)) (w : World) : Prop :=
  ∀ (r : Nat) (cs : List SC) (wr : Bool) (x : Nat × Nat), mem[r]? = some (cs, wr) → β[r]? = some x → ∀ (j : Nat) (sc : SC), cs[j]? = some sc →
    ∃ v, w.cell? ⟨x.1, x.2 + j, none⟩ = some v ∧ sc.is env β v

theorem MRel.cells {W0 : World} {Tp : Nat → Nat → Prop} {env : List Int} {β : List (Nat × Nat)} {mem : List (List SC × Bool)} {w : World} (h : MRel W0 Tp env β mem w) : CellsOk env β mem w := by
  intro r cs wr x hr hx j sc hj
  obtain ⟨y, hy, _, hc, _⟩ := h.cell r cs wr hr
  rw [hx] at hy
  injection hy with hy
  subst hy
  exact hc j sc hj

/-- What the state says of the frame. -/
structure FRel (env : List Int) (β : List (Nat × Nat)) (S : St) (a : Act) : Prop where
  ne : env.length = S.ne
  nd : a.defers = []
  nt : a.tmps.size = S.nt
  tm : ∀ (d : Nat) (sv : SV), lk d S.tm = some sv → ∃ v, a.tmps[d]? = some v ∧ sv.is env β v
  fx : ∀ (x : Nat) (t : Bool), lk x S.fx = some t → env[x]? = some (b01 t)
  bt : ∀ (x : Nat), x ∈ S.bt → env[x]? = some 0 ∨ env[x]? = some 1

section
variable {W0 : World} {Tp : Nat → Nat → Prop} {env : List Int} {β : List (Nat × Nat)} {mem : List (List SC × Bool)} {w : World}

theorem MRel.drew (h : MRel W0 Tp env β mem w) : MRel W0 Tp env β mem { w with drawn := w.drawn + 1 } := ⟨h.nb, h.cell, h.dis, h.kept.drew⟩

theorem MRel.more (h : MRel W0 Tp env β mem w) (e' : List Int) : MRel W0 Tp (env ++ e') β mem w := by
  refine ⟨h.nb, fun r cs wr hr => ?_, h.dis, h.kept⟩
  obtain ⟨x, h1, h2, h3, h4⟩ := h.cell r cs wr hr
  refine ⟨x, h1, h2, fun j sc hj => ?_, h4⟩
  obtain ⟨v, hv, hs⟩ := h3 j sc hj
  have := hs.more (env := env) e' []
  rw [List.append_nil] at this
  exact ⟨v, hv, this⟩

theorem FRel.more {S : St} {a : Act} (h : FRel env β S a) (e' : List Int) (β' : List (Nat × Nat)) : FRel (env ++ e') (β ++ β') { S with ne := S.ne + e'.length } a := by
  refine ⟨by simp [h.ne], h.nd, h.nt, fun d sv hd => ?_, fun x t hx => get_more (h.fx x t hx) e', fun x hx => ?_⟩
  · obtain ⟨v, hv, hs⟩ := h.tm d sv hd
    exact ⟨v, hv, hs.more e' β'⟩
  · rcases h.bt x hx with h1 | h1
    · exact .inl (get_more h1 e')
    · exact .inr (get_more h1 e')

/-- A new block. -/
theorem MRel.alloc (h : MRel W0 Tp env β mem w) {cs : List SC} {vs : List Value} (t : TypeId) (hc : All2 (SC.is env β) cs vs) :
    MRel W0 Tp env (β ++ [(w.heap.size, 0)]) (mem ++ [(cs, true)]) (w.alloc (.cells vs.toArray t)) := by
  have old : ∀ r cs' wr, mem[r]? = some (cs', wr) → r < mem.length := fun r cs' wr hr => (List.getElem?_eq_some_iff.1 hr).1
  have hlt : ∀ r x, r < mem.length → β[r]? = some x → x.1 < w.heap.size := by
    intro r x hr hx
    obtain ⟨y, hy, hlt, _⟩ := h.cell r (mem[r]).1 (mem[r]).2 (by simp [hr])
    rw [hx] at hy
    injection hy with hy
    subst hy
    exact hlt
  have hnew : ∀ r cs' wr, (mem ++ [(cs, true)])[r]? = some (cs', wr) → r < mem.length ∧ mem[r]? = some (cs', wr) ∨ r = mem.length ∧ cs' = cs ∧ wr = true := by
    intro r cs' wr hr
    rcases Nat.lt_or_ge r mem.length with h1 | h1
    · left; rw [List.getElem?_append_left h1] at hr; exact ⟨h1, hr⟩
    · right
      rw [List.getElem?_append_right h1] at hr
      have : r - mem.length = 0 := by
        rcases Nat.eq_zero_or_pos (r - mem.length) with h0 | h0
        · exact h0
        · rw [List.getElem?_eq_none (by simp; omega)] at hr; cases hr
      rw [this] at hr
      simp at hr
      exact ⟨by omega, hr.1.symm, hr.2⟩
  have hβ : ∀ r x, r < mem.length → (β ++ [(w.heap.size, 0)])[r]? = some x → β[r]? = some x := by
    intro r x hr hx
    rw [List.getElem?_append_left (by rw [h.nb]; exact hr)] at hx
    exact hx
  have hβn : (β ++ [(w.heap.size, 0)])[mem.length]? = some (w.heap.size, 0) := by rw [← h.nb]; simp
  refine ⟨by simp [h.nb], fun r cs' wr hr => ?_, ?_, h.kept.alloc _⟩
  · rcases hnew r cs' wr hr with ⟨hrl, hr'⟩ | ⟨rfl, rfl, rfl⟩
    · obtain ⟨x, h1, h2, h3, h4⟩ := h.cell r cs' wr hr'
      refine ⟨x, get_more h1 _, by simp; omega, fun j sc hj => ?_, fun hw j hj => ?_⟩
      · obtain ⟨v, hv, hs⟩ := h3 j sc hj
        refine ⟨v, by rw [World.cell?_alloc_lt w _ _ h2]; exact hv, ?_⟩
        have := hs.more (env := env) [] [(w.heap.size, 0)]
        rw [List.append_nil] at this
        exact this
      · obtain ⟨h5, h6⟩ := h4 hw j hj
        exact ⟨by rw [World.frozen?_alloc_past _ _ _ h2]; exact h5, h6⟩
    · refine ⟨(w.heap.size, 0), hβn, by simp, fun j sc hj => ?_, fun _ j hj => ⟨by simp, .inl h.kept.size⟩⟩
      obtain ⟨v, hv, hs⟩ := All2.get hc hj
      refine ⟨v, by simpa using hv, ?_⟩
      have := hs.more (env := env) [] [(w.heap.size, 0)]
      rw [List.append_nil] at this
      exact this
  · intro r s x y cs' ds wr ws hrs hx hy hr hs hor
    rcases hnew r cs' wr hr with ⟨hrl, hr'⟩ | ⟨rfl, rfl, rfl⟩
    · rcases hnew s ds ws hs with ⟨hsl, hs'⟩ | ⟨rfl, rfl, rfl⟩
      · exact h.dis r s x y cs' ds wr ws hrs (hβ r x hrl hx) (hβ s y hsl hy) hr' hs' hor
      · left
        rw [hβn] at hy
        injection hy with hy
        subst hy
        have := hlt r x hrl (hβ r x hrl hx)
        simp; omega
    · rcases hnew s ds ws hs with ⟨hsl, hs'⟩ | ⟨rfl, rfl, rfl⟩
      · left
        rw [hβn] at hx
        injection hx with hx
        subst hx
        have := hlt s y hsl (hβ s y hsl hy)
        simp; omega
      · exact absurd rfl hrs

/-- One cell of one region is written. -/
theorem MRel.set1 (h : MRel W0 Tp env β mem w) {r o : Nat} {cs : List SC} {x : Nat × Nat} {sc : SC} {v : Value} (hr : mem[r]? = some (cs, true)) (ho : o < cs.length) (hx : β[r]? = some x)
    (hs : sc.is env β v) : MRel W0 Tp env β (mem.set r (cs.set o sc, true)) (w.setCell ⟨x.1, x.2 + o, none⟩ v) := by
  obtain ⟨x', hx', h2, h3, h4⟩ := h.cell r cs true hr
  rw [hx] at hx'
  injection hx' with hx'
  subst hx'
  have hrl : r < mem.length := (List.getElem?_eq_some_iff.1 hr).1
  obtain ⟨u, hu, _⟩ := h3 o cs[o] (by simp [ho])
  have hsz : (w.setCell ⟨x.1, x.2 + o, none⟩ v).heap.size = w.heap.size := by simp [World.setCell]
  have hget : ∀ s ds ws, (mem.set r (cs.set o sc, true))[s]? = some (ds, ws) → (s = r ∧ ds = cs.set o sc ∧ ws = true) ∨ (s ≠ r ∧ mem[s]? = some (ds, ws)) := by
    intro s ds ws hs'
    by_cases hsr : s = r
    · subst hsr
      left
      rw [List.getElem?_set_self hrl] at hs'
      simp at hs'
      exact ⟨rfl, hs'.1.symm, hs'.2⟩
    · right
      rw [List.getElem?_set_ne (Ne.symm hsr)] at hs'
      exact ⟨hsr, hs'⟩
  refine ⟨by simp [h.nb], fun s ds ws hs' => ?_, ?_, h.kept.setCell _ _ _ (h4 rfl o ho).2⟩
  · rcases hget s ds ws hs' with ⟨rfl, rfl, rfl⟩ | ⟨hsr, hs''⟩
    · refine ⟨x, hx, by rw [hsz]; exact h2, fun j sj hj => ?_, fun _ j hj => ?_⟩
      · by_cases hjo : j = o
        · subst hjo
          rw [List.getElem?_set_self ho] at hj
          injection hj with hj
          subst hj
          exact ⟨v, World.cell?_setCell_same w _ _ hu, hs⟩
        · rw [List.getElem?_set_ne (Ne.symm hjo)] at hj
          obtain ⟨y, hy, hys⟩ := h3 j sj hj
          refine ⟨y, ?_, hys⟩
          rw [World.cell?_setCell_other w _ _ _ (by intro e; injection e with _ e2; omega)]
          exact hy
      · rw [World.frozen?_setCell]
        exact h4 rfl j (by simpa using hj)
    · obtain ⟨y, hy, hyl, hyc, hyf⟩ := h.cell s ds ws hs''
      refine ⟨y, hy, by rw [hsz]; exact hyl, fun j sj hj => ?_, fun hw j hj => by rw [World.frozen?_setCell]; exact hyf hw j hj⟩
      obtain ⟨z, hz, hzs⟩ := hyc j sj hj
      refine ⟨z, ?_, hzs⟩
      have hjl : j < ds.length := (List.getElem?_eq_some_iff.1 hj).1
      rw [World.cell?_setCell_other w _ _ _ ?_]
      · exact hz
      · intro e
        injection e with e1 e2
        rcases h.dis r s x y cs ds true ws (Ne.symm hsr) hx hy hr hs'' (.inl rfl) with h5 | h5 | h5
        · exact h5 e1
        · omega
        · omega
  · intro a b p q ca cb wa wb hab hp hq ha hb hor
    rcases hget a ca wa ha with ⟨rfl, rfl, rfl⟩ | ⟨har, ha'⟩
    · rcases hget b cb wb hb with ⟨rfl, rfl, rfl⟩ | ⟨hbr, hb'⟩
      · exact absurd rfl hab
      · have := h.dis a b p q cs cb true wb hab hp hq hr hb' (.inl rfl)
        simpa using this
    · rcases hget b cb wb hb with ⟨rfl, rfl, rfl⟩ | ⟨hbr, hb'⟩
      · have := h.dis a b p q ca cs wa true hab hp hq ha' hr (.inr rfl)
        simpa using this
      · exact h.dis a b p q ca cb wa wb hab hp hq ha' hb' hor

theorem FRel.put {S : St} {a : Act} (h : FRel env β S a) {d : Nat} (hd : d < S.nt) {sv : SV} {v : Value} (hs : sv.is env β v) :
    FRel env β { S with tm := (d, sv) :: S.tm } (a.put (some d) v) := by
  refine ⟨h.ne, h.nd, by simp [Act.put, h.nt], fun e se he => ?_, h.fx, h.bt⟩
  by_cases hed : d = e
  · subst hed
    rw [lk_cons_same] at he
    injection he with he
    subst he
    refine ⟨v, ?_, hs⟩
    simp only [Act.put]
    rw [Array.getElem?_setIfInBounds_self]
    simp [h.nt, hd]
  · rw [lk_cons_ne _ _ hed] at he
    obtain ⟨u, hu, hus⟩ := h.tm e se he
    refine ⟨u, ?_, hus⟩
    simp only [Act.put]
    rw [Array.getElem?_setIfInBounds_ne hed]
    exact hu
end
end Eng
