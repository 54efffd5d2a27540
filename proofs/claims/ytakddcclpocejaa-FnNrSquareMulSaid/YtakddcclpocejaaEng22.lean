/-
  The walk by reckoning: which piece a contract speaks of; trees held against each other.
-/
import Derived.Test.YtakddcclpocejaaEng21
namespace Eng
open Go Go.RowKit

def pieceOf (P : Program) (fn key : Nat) : Code :=
  match P.funcs[fn]? with
  | some f => match f.body with
    | some b => match (pieces 0 b).find? (fun p => Nat.beq p.1 key) with
      | some p => p.2
      | none => .skip
    | none => .skip
  | none => .skip
def oneB (P : Program) (fn key : Nat) : Bool :=
  match P.funcs[fn]? with
  | some f => match f.body with
    | some b => Nat.beq ((pieces 0 b).filter (fun p => Nat.beq p.1 key)).length 1
    | none => false
  | none => false
def isLoop : Code → Bool
  | .loop _ => true
  | _ => false
def bodyOf (P : Program) (fn key : Nat) : Code :=
  match pieceOf P fn key with
  | .loop x => x
  | _ => .skip
theorem piece_loop {P : Program} {fn key : Nat} (h : isLoop (pieceOf P fn key) = true) : pieceOf P fn key = .loop (bodyOf P fn key) := by
  unfold bodyOf
  cases hp : pieceOf P fn key <;> rw [hp] at h <;> first | rfl | cases h
theorem find_filter {α : Type} {f : α → Bool} : ∀ {l : List α} {x y : α}, (l.filter f).length = 1 → x ∈ l → f x = true → l.find? f = some y → x = y
  | [], _, _, h, _, _, _ => by simp at h
  | z :: l, x, y, h, hx, hf, hy => by
    cases hz : f z with
    | true =>
      rw [List.find?_cons_of_pos hz] at hy
      injection hy with hy
      subst hy
      rw [List.filter_cons_of_pos hz] at h
      rcases List.mem_cons.1 hx with rfl | hx
      · rfl
      · have : (l.filter f).length = 0 := by simpa using h
        have := List.eq_nil_of_length_eq_zero this
        have hm : x ∈ l.filter f := List.mem_filter.2 ⟨hx, hf⟩
        rw [this] at hm
        cases hm
    | false =>
      rw [List.find?_cons_of_neg (by simp [hz])] at hy
      rw [List.filter_cons_of_neg (by simp [hz])] at h
      rcases List.mem_cons.1 hx with rfl | hx
      · rw [hf] at hz; cases hz
      · exact find_filter h hx hf hy
theorem piece_one {P : Program} {fn key : Nat} (h : oneB P fn key = true) {c : Code} (hin : InF P fn (key, c)) : c = pieceOf P fn key := by
  obtain ⟨f, b, hf, hb, hm⟩ := hin
  unfold oneB at h
  simp only [hf, hb] at h
  have h := Nat.eq_of_beq_eq_true h
  unfold pieceOf
  simp only [hf, hb]
  split
  · rename_i p hp
    rw [← find_filter h hm (by simp) hp]
  · rename_i hn
    have := List.find?_eq_none.1 hn _ hm
    simp at this
theorem pieces_sub {blk : Nat} {x : Code} : ∀ {c : Code} {b : Nat}, (2 * blk, Code.loop x) ∈ pieces b c → ∀ q, q ∈ pieces blk x → q ∈ pieces b c := by
  intro c
  induction c with
  | seq s t ihs iht =>
    intro b h q hq
    rcases List.mem_append.1 h with h | h
    · exact List.mem_append_left _ (ihs h q hq)
    · exact List.mem_append_right _ (iht h q hq)
  | cond o s t ihs iht =>
    intro b h q hq
    rcases List.mem_append.1 h with h | h
    · exact List.mem_append_left _ (ihs h q hq)
    · exact List.mem_append_right _ (iht h q hq)
  | block id s ih => intro b h q hq; exact ih (b := id) h q hq
  | scope s ih => intro b h q hq; exact ih (b := b) h q hq
  | loop s ih =>
    intro b h q hq
    rcases List.mem_cons.1 h with h | h
    · injection h with h1 h2
      injection h2 with h2
      have : blk = b := by omega
      subst this; subst h2
      exact List.mem_cons_of_mem _ hq
    · exact List.mem_cons_of_mem _ (ih h q hq)
  | region id ops d =>
    intro b h q hq
    simp [pieces] at h
  | _ => intro b h; simp [pieces] at h
theorem sub_of_in {P : Program} {fn blk : Nat} {x : Code} (hin : InF P fn (2 * blk, .loop x)) : ∀ q, q ∈ pieces blk x → InF P fn q := by
  obtain ⟨f, b, hf, hb, hm⟩ := hin
  exact fun q hq => ⟨f, b, hf, hb, pieces_sub hm q hq⟩

/-- The contract of the loop that stands in a block. -/
theorem loop_piece {C : Cfg} {A : Ask} (hm : C.P.follows .mixedOrders = true) (hE : Ext C.P C.ext) (hC : ConOk C A) (hP : PcOk C A) (n : Nat) {p : PC} {fn blk : Nat} (h1 : oneB C.P fn (2 * blk) = true) (h2 : isLoop (pieceOf C.P fn (2 * blk)) = true)
    (H : Nat → HS) (Inv : Nat → List Int → List Int → Prop) (μ : Nat → List Int → List Int → Nat) (h0 : H 0 = p.h0)
    (hst : ∀ env : List Int, env.length = p.m → Rng env (rngA (p.args.map .ww) ++ rngM p.mem) → (∀ x, x ∈ p.ex → A.pre x.id env) → Inv 0 env [])
    (hr : ∀ (i : Nat) (env ys : List Int), env.length = p.m → ys.length = (H i).mout → Rng (env ++ ys) (rngA ((H i).ret.map .ww) ++ rngM (H i).mem1) → Inv i env ys →
      (xcode C n fn blk (bodyOf C.P fn (2 * blk)) (headSt p (H i)) (kend p (H (i + 1)))).holds (A.rnd p i (H i) Inv μ) (env ++ ys)) : ∀ c, InF C.P fn (2 * blk, c) → PcKOk C.P A p c := by
  intro c hin
  have hc := piece_one h1 hin
  rw [piece_loop h2] at hc
  subst hc
  exact loop_of hm hE hC hP n (sub_of_in hin) H Inv μ h0 hst hr

/-! ### trees held against each other -/
def stB (S S' : St) : Bool :=
  Nat.beq S.nt S'.nt && (S.tm.isEmpty && S'.tm.isEmpty) && (S.fx.isEmpty && S'.fx.isEmpty) && (S.bt.isEmpty && S'.bt.isEmpty) && (S.mem.isEmpty && S'.mem.isEmpty) && Nat.beq S.ne S'.ne && Nat.beq S.fn S'.fn && Nat.beq S.blk S'.blk
theorem stB_eq {S S' : St} (h : stB S S' = true) : S = S' := by
  obtain ⟨a, b, c, d, e, f, g, i⟩ := S
  obtain ⟨a', b', c', d', e', f', g', i'⟩ := S'
  simp only [stB, Bool.and_eq_true, List.isEmpty_iff] at h
  obtain ⟨⟨⟨⟨⟨⟨⟨h1, h2, h3⟩, h4, h5⟩, h6, h7⟩, h8, h9⟩, h10⟩, h11⟩, h12⟩ := h
  rw [Nat.eq_of_beq_eq_true h1, h2, h3, h4, h5, h6, h7, h8, h9, Nat.eq_of_beq_eq_true h10, Nat.eq_of_beq_eq_true h11, Nat.eq_of_beq_eq_true h12]
def Tree.beq : Tree → Tree → Bool
  | .fin v S, .fin v' S' => SV.beq v v' && stB S S'
  | .dfn o xs t, .dfn o' xs' t' => decide (o = o') && (listBeq SI.beq xs xs' && Tree.beq t t')
  | .hav id xs m t, .hav id' xs' m' t' => Nat.beq id id' && (listBeq SI.beq xs xs' && (Nat.beq m m' && Tree.beq t t'))
  | .br x t f, .br x' t' f' => Nat.beq x x' && (Tree.beq t t' && Tree.beq f f')
  | .both t f, .both t' f' => Tree.beq t t' && Tree.beq f f'
  | .brE x j t f, .brE x' j' t' f' => Nat.beq x x' && (decide (j = j') && (Tree.beq t t' && Tree.beq f f'))
  | .obl e t, .obl e' t' => SI.beq e e' && Tree.beq t t'
  | .bad n, .bad m => Nat.beq n m
  | _, _ => false
theorem Tree.beq_eq : ∀ {s t : Tree}, Tree.beq s t = true → s = t := by
  intro s
  induction s with
  | leaf e S => intro t h; cases t <;> simp [Tree.beq] at h
  | fin v S =>
    intro t h
    cases t <;> simp only [Tree.beq, Bool.and_eq_true, Bool.false_eq_true] at h
    rw [SV.beq_eq h.1, stB_eq h.2]
  | dfn o xs t ih =>
    intro t h
    cases t <;> simp only [Tree.beq, Bool.and_eq_true, decide_eq_true_eq, Bool.false_eq_true] at h
    rw [h.1, listBeq_eq (fun _ _ => SI.beq_eq) h.2.1, ih h.2.2]
  | hav id xs m t ih =>
    intro t h
    cases t <;> simp only [Tree.beq, Bool.and_eq_true, Bool.false_eq_true] at h
    rw [Nat.eq_of_beq_eq_true h.1, listBeq_eq (fun _ _ => SI.beq_eq) h.2.1, Nat.eq_of_beq_eq_true h.2.2.1, ih h.2.2.2]
  | br x t f iht ihf =>
    intro t h
    cases t <;> simp only [Tree.beq, Bool.and_eq_true, Bool.false_eq_true] at h
    rw [Nat.eq_of_beq_eq_true h.1, iht h.2.1, ihf h.2.2]
  | both t f iht ihf =>
    intro t h
    cases t <;> simp only [Tree.beq, Bool.and_eq_true, Bool.false_eq_true] at h
    rw [iht h.1, ihf h.2]
  | brE x j t f iht ihf =>
    intro t h
    cases t <;> simp only [Tree.beq, Bool.and_eq_true, decide_eq_true_eq, Bool.false_eq_true] at h
    rw [Nat.eq_of_beq_eq_true h.1, h.2.1, iht h.2.2.1, ihf h.2.2.2]
  | obl e t ih =>
    intro t h
    cases t <;> simp only [Tree.beq, Bool.and_eq_true, Bool.false_eq_true] at h
    rw [SI.beq_eq h.1, ih h.2]
  | bad n =>
    intro t h
    cases t <;> simp only [Tree.beq, Bool.false_eq_true] at h
    rw [Nat.eq_of_beq_eq_true h]
theorem all_trees {f g : Nat → Tree} {n : Nat} (h : (List.range n).all (fun i => Tree.beq (f i) (g i)) = true) {i : Nat} (hi : i < n) : f i = g i :=
  Tree.beq_eq (List.all_eq_true.1 h i (List.mem_range.2 hi))
end Eng
