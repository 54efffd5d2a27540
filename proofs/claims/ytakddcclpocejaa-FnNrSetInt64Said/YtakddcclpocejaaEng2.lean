/-
  Whatever order a region draws, the lexical one serves: the theorem, and the Bool that the kernel reckons for a region.
-/
import Derived.Test.YtakddcclpocejaaEng1
namespace Eng
open Go

section
variable {P : Program} {ops : Array Oper} {Q : Exit → Act → World → Prop} {tg : Oper → Nat}

/-- The operations of these numbers, in this order. -/
def lexT (P : Program) (ops : Array Oper) (Q : Exit → Act → World → Prop) (tg : Oper → Nat) : List Nat → Act → World → Prop
  | [], a, w => Q .normal a w
  | i :: rest, a, w => match ops[i]? with
    | none => False
    | some o => wpT P ops Q (tg o) o (lexT P ops Q tg rest) a w

def indepB (ops : Array Oper) (tg : Oper → Nat) (x y : Oper) : Bool :=
  x.apart ops y && (Nat.beq (tg x) 0 || Nat.beq (tg y) 0 || (Nat.ble (tg x) 1 && Nat.ble (tg y) 1))

theorem indepB_spec {x y : Oper} (h : indepB ops tg x y = true) : x.apart ops y = true ∧ (tg x = 0 ∨ tg y = 0 ∨ (tg x ≤ 1 ∧ tg y ≤ 1)) := by
  unfold indepB at h
  rw [Bool.and_eq_true] at h
  refine ⟨h.1, ?_⟩
  have h2 := h.2
  rw [Bool.or_eq_true, Bool.or_eq_true, Bool.and_eq_true] at h2
  rcases h2 with (h2 | h2) | ⟨h2, h3⟩
  · exact .inl (Nat.eq_of_beq_eq_true h2)
  · exact .inr (.inl (Nat.eq_of_beq_eq_true h2))
  · exact .inr (.inr ⟨Nat.le_of_ble_eq_true h2, Nat.le_of_ble_eq_true h3⟩)

theorem bubble {j : Nat} {oj : Oper} (hj : ops[j]? = some oj) (hsel : Region.noSelect ops = true) (hQ : Calm Q) (post : List Nat) :
    ∀ (pre : List Nat) (a : Act) (w : World), (∀ i ∈ pre, ∀ oi, ops[i]? = some oi → indepB ops tg oi oj = true) →
      lexT P ops Q tg (pre ++ j :: post) a w → lexT P ops Q tg (j :: (pre ++ post)) a w
  | [], _, _, _, h => h
  | i :: pre, a, w, hi, h => by
    simp only [List.cons_append, lexT] at h
    cases hoi : ops[i]? with
    | none => simp only [hoi] at h
    | some oi =>
      simp only [hoi] at h
      obtain ⟨hap, hind⟩ := indepB_spec (hi i (by simp) oi hoi)
      have h1 := wpT_mono (K' := fun a' w' => wpT P ops Q (tg oj) oj (lexT P ops Q tg (pre ++ post)) a' w') (fun a' w' h' => by
        have := bubble hj hsel hQ post pre a' w' (fun k hk ok hok => hi k (by simp [hk]) ok hok) h'
        simp only [lexT, hj] at this
        exact this) h
      have h2 := wpT_swap hap (fun cs b => Region.noSelect_spec hsel i oi cs b hoi) (fun cs b => Region.noSelect_spec hsel j oj cs b hj) hind hQ h1
      simp only [lexT, hj]
      refine wpT_mono (fun a' w' h' => ?_) h2
      simp only [List.cons_append, lexT, hoi]
      exact h'

theorem getD_replicate_false' (m j : Nat) : (Array.replicate m false).getD j false = false := by
  rcases Nat.lt_or_ge j m with h | h
  · simp [h]
  · simp [h]

structure Plan (ops : Array Oper) (tg : Oper → Nat) (anc : Nat → Nat → Bool) : Prop where
  sel : Region.noSelect ops = true
  small : ∀ j o, ops[j]? = some o → ∀ e ∈ o.after, Region.binds .any e = true → e.on < j
  reach : ∀ j o i, ops[j]? = some o → anc j i = true → ∃ e ∈ o.after, Region.binds .any e = true ∧ (e.on = i ∨ anc e.on i = true)
  ind : ∀ i j oi oj, i < j → ops[i]? = some oi → ops[j]? = some oj → anc j i = true ∨ indepB ops tg oi oj = true

structure Down (ops : Array Oper) (listed : Array Bool) : Prop where
  size : listed.size = ops.size
  closed : ∀ j o, ops[j]? = some o → listed.getD j false = true → ∀ e ∈ o.after, Region.binds .any e = true → listed.getD e.on false = true

theorem anc_listed {anc : Nat → Nat → Bool} (hp : Plan ops tg anc) {listed : Array Bool} (hd : Down ops listed) :
    ∀ (j : Nat) (o : Oper) (i : Nat), ops[j]? = some o → (∀ e ∈ o.after, Region.binds .any e = true → listed.getD e.on false = true) → anc j i = true → listed.getD i false = true := by
  intro j
  induction j using Nat.strongRecOn with
  | _ j ih =>
    intro o i ho hall ha
    obtain ⟨e, he, hb, hor⟩ := hp.reach j o i ho ha
    have hl := hall e he hb
    rcases hor with rfl | hr
    · exact hl
    · have hlt := hp.small j o ho e he hb
      have hsz : e.on < ops.size := by
        have := (Array.getElem?_eq_some_iff.1 ho).1
        omega
      exact ih e.on hlt ops[e.on] i (Array.getElem?_eq_getElem hsz) (hd.closed e.on _ (Array.getElem?_eq_getElem hsz) hl) hr

theorem getD_flip {listed : Array Bool} {i : Nat} (hi : i < listed.size) : listed.getD i true = listed.getD i false := by simp [hi]

theorem Down.set {listed : Array Bool} (hd : Down ops listed) {i : Nat} (hr : i ∈ Region.ready .any ops listed) : Down ops (listed.setIfInBounds i true) := by
  obtain ⟨_, oi, hoi, hall⟩ := mem_ready.1 hr
  refine ⟨by simp [hd.size], fun j oj hj hl e he hb => ?_⟩
  by_cases hij : i = j
  · subst hij
    have : oj = oi := Option.some.inj (hj.symm.trans hoi)
    subst this
    exact getD_set_true (hall e he hb)
  · rw [getD_set_ne false hij] at hl
    exact getD_set_true (hd.closed j oj hj hl e he hb)

theorem lex_any {anc : Nat → Nat → Bool} (hp : Plan ops tg anc) (hQ : Calm Q) :
    ∀ (n : Nat) (listed : Array Bool) (rem : List Nat) (a : Act) (w : World), rem.length = n → rem.Pairwise (· < ·) →
      (∀ i, i ∈ rem ↔ (i < ops.size ∧ listed.getD i false = false)) → Down ops listed → lexT P ops Q tg rem a w → wpAny P .any ops Q n listed a w := by
  intro n
  induction n with
  | zero =>
    intro listed rem a w hlen _ hmem hd h
    have hrem : rem = [] := List.eq_nil_of_length_eq_zero hlen
    subst hrem
    refine ⟨?_, h⟩
    apply List.eq_nil_iff_forall_not_mem.2
    intro i hi
    obtain ⟨h0, o, ho, _⟩ := mem_ready.1 hi
    have hlt := (Array.getElem?_eq_some_iff.1 ho).1
    have : i ∈ ([] : List Nat) := (hmem i).2 ⟨hlt, by rw [← getD_flip (by rw [hd.size]; exact hlt)]; exact h0⟩
    cases this
  | succ n ih =>
    intro listed rem a w hlen hsort hmem hd h
    refine ⟨fun hnil => ?_, fun j hj => ?_⟩
    · -- the first that is left is ready
      exfalso
      match rem, hlen with
      | i :: rest, _ =>
      have hi := (hmem i).1 (by simp)
      have : i ∈ Region.ready .any ops listed := by
        refine mem_ready.2 ⟨by rw [getD_flip (by rw [hd.size]; exact hi.1)]; exact hi.2, ops[i]'hi.1, Array.getElem?_eq_getElem hi.1, fun e he hb => ?_⟩
        have hlt := hp.small i _ (Array.getElem?_eq_getElem hi.1) e he hb
        cases hl : listed.getD e.on false with
        | true => rfl
        | false =>
          have hm := (hmem e.on).2 ⟨by omega, hl⟩
          rw [List.pairwise_cons] at hsort
          rcases List.mem_cons.1 hm with h1 | h1
          · omega
          · have := hsort.1 _ h1
            omega
      rw [hnil] at this
      cases this
    · obtain ⟨h0, oj, hoj, hall⟩ := mem_ready.1 hj
      have hlt := (Array.getElem?_eq_some_iff.1 hoj).1
      have hjm : j ∈ rem := (hmem j).2 ⟨hlt, by rw [← getD_flip (by rw [hd.size]; exact hlt)]; exact h0⟩
      obtain ⟨pre, post, rfl⟩ := List.append_of_mem hjm
      have hpw := List.pairwise_append.1 hsort
      have hb := bubble (tg := tg) hoj hp.sel hQ post pre a w (fun i hi oi hoi => by
        have hij : i < j := hpw.2.2 i hi j (by simp)
        rcases hp.ind i j oi oj hij hoi hoj with ha | hind
        · have h1 := anc_listed hp hd j oj i hoj hall ha
          have h2 := (hmem i).1 (by simp [hi])
          rw [h2.2] at h1
          cases h1
        · exact hind) h
      simp only [lexT, hoj] at hb
      refine wpOp_mono (fun a' w' h' => ?_) (wpT_wpOp hoj hb)
      refine ih (listed.setIfInBounds j true) (pre ++ post) a' w' (by simp at hlen ⊢; omega) ?_ ?_ (hd.set hj) h'
      · refine List.pairwise_append.2 ⟨hpw.1, (List.pairwise_cons.1 hpw.2.1).2, fun x hx y hy => hpw.2.2 x hx y (by simp [hy])⟩
      · intro i
        have hm := hmem i
        by_cases hij : i = j
        · subst hij
          constructor
          · intro hi
            exfalso
            rcases List.mem_append.1 hi with h1 | h1
            · have := hpw.2.2 i h1 i (by simp)
              omega
            · have := (List.pairwise_cons.1 hpw.2.1).1 i h1
              omega
          · rintro ⟨_, h2⟩
            have : (listed.setIfInBounds i true).getD i false = true := by simp [hd.size, hlt]
            rw [this] at h2
            cases h2
        · rw [getD_set_ne false (Ne.symm hij), ← hm]
          simp [hij]

/-- What each operation waits for, directly or through others, as bits. -/
def mask1 (acc : List Nat) : List Edge → Nat
  | [] => 0
  | e :: r => bif Region.binds .any e then mask1 acc r ||| (2 ^ e.on ||| acc.getD e.on 0) else mask1 acc r
def masks : List Oper → List Nat → List Nat
  | [], acc => acc
  | o :: r, acc => masks r (acc ++ [mask1 acc o.after.toList])

theorem mask1_spec (acc : List Nat) (i : Nat) : ∀ (l : List Edge), (mask1 acc l).testBit i = true → ∃ e ∈ l, Region.binds .any e = true ∧ (e.on = i ∨ (acc.getD e.on 0).testBit i = true)
  | [], h => by simp [mask1] at h
  | e :: r, h => by
    unfold mask1 at h
    cases hb : Region.binds .any e
    · rw [hb, cond_false] at h
      obtain ⟨e', he', h'⟩ := mask1_spec acc i r h
      exact ⟨e', by simp [he'], h'⟩
    · rw [hb, cond_true, Nat.testBit_or, Nat.testBit_or, Bool.or_eq_true, Bool.or_eq_true] at h
      rcases h with h | h | h
      · obtain ⟨e', he', h'⟩ := mask1_spec acc i r h
        exact ⟨e', by simp [he'], h'⟩
      · refine ⟨e, by simp, hb, .inl ?_⟩
        rw [Nat.testBit_two_pow] at h
        simpa using h
      · exact ⟨e, by simp, hb, .inr h⟩

theorem masks_pre : ∀ (l : List Oper) (acc : List Nat), ∃ t, masks l acc = acc ++ t
  | [], acc => ⟨[], by simp [masks]⟩
  | o :: r, acc => by
    obtain ⟨t, ht⟩ := masks_pre r (acc ++ [mask1 acc o.after.toList])
    exact ⟨mask1 acc o.after.toList :: t, by rw [masks, ht]; simp⟩

theorem masks_get : ∀ (l : List Oper) (acc : List Nat) (j : Nat) (o : Oper), l[j]? = some o →
    (masks l acc).getD (acc.length + j) 0 = mask1 ((masks l acc).take (acc.length + j)) o.after.toList
  | [], _, _, _, h => by simp at h
  | o' :: r, acc, 0, o, h => by
    have : o' = o := by simpa using h
    subst this
    obtain ⟨t, ht⟩ := masks_pre r (acc ++ [mask1 acc o'.after.toList])
    rw [masks, ht]
    simp
  | o' :: r, acc, j + 1, o, h => by
    have := masks_get r (acc ++ [mask1 acc o'.after.toList]) j o (by simpa using h)
    rw [masks]
    rw [List.length_append, List.length_singleton] at this
    rw [show acc.length + (j + 1) = acc.length + 1 + j from by omega]
    exact this

def planB (ops : Array Oper) (tg : Oper → Nat) (m : List Nat) : Bool :=
  Region.noSelect ops && (List.range ops.size).all fun j => match ops[j]? with
    | none => true
    | some oj => (oj.after.toList.all fun e => !Region.binds .any e || Nat.blt e.on j) &&
      (List.range j).all fun i => (m.getD j 0).testBit i || match ops[i]? with
        | none => true
        | some oi => indepB ops tg oi oj

theorem plan_of {l : List Oper} (h : planB l.toArray tg (masks l []) = true) : Plan l.toArray tg (fun j i => ((masks l []).getD j 0).testBit i) := by
  unfold planB at h
  rw [Bool.and_eq_true] at h
  obtain ⟨h1, h2⟩ := h
  have small : ∀ j o, l.toArray[j]? = some o → ∀ e ∈ o.after, Region.binds .any e = true → e.on < j := by
    intro j o ho e he hb
    have hlt := (Array.getElem?_eq_some_iff.1 ho).1
    have h3 := List.all_eq_true.1 h2 j (List.mem_range.2 hlt)
    simp only [ho, Bool.and_eq_true, List.all_eq_true] at h3
    have h4 := h3.1 e (by simpa using he)
    simp only [hb, Bool.not_true, Bool.false_or, Nat.blt_eq] at h4
    exact h4
  refine ⟨h1, small, ?_, ?_⟩
  · intro j o i ho ha
    have hg := masks_get l [] j o (by simpa using ho)
    simp only [List.length_nil, Nat.zero_add] at hg
    simp only [hg] at ha
    obtain ⟨e, he, hb, hor⟩ := mask1_spec _ _ _ ha
    refine ⟨e, by simpa using he, hb, ?_⟩
    rcases hor with h | h
    · exact .inl h
    · right
      have hlt := small j o ho e (by simpa using he) hb
      simpa [List.getD_eq_getElem?_getD, List.getElem?_take, hlt] using h
  · intro i j oi oj hij hoi hoj
    have hlt := (Array.getElem?_eq_some_iff.1 hoj).1
    have h3 := List.all_eq_true.1 h2 j (List.mem_range.2 hlt)
    simp only [hoj, Bool.and_eq_true, List.all_eq_true] at h3
    have h4 := h3.2 i (List.mem_range.2 hij)
    rw [Bool.or_eq_true] at h4
    rcases h4 with h4 | h4
    · exact .inl h4
    · simp only [hoi] at h4; exact .inr h4

/-- THE LEXICAL ORDER, AS A LIST OF OPERATIONS. -/
def listT (P : Program) (ops : Array Oper) (Q : Exit → Act → World → Prop) (tg : Oper → Nat) : List Oper → Act → World → Prop
  | [], a, w => Q .normal a w
  | o :: rest, a, w => wpT P ops Q (tg o) o (listT P ops Q tg rest) a w

theorem lexT_of_listT : ∀ (l : List Oper) (k : Nat) (a : Act) (w : World), (∀ j, l[j]? = ops[k + j]?) → listT P ops Q tg l a w → lexT P ops Q tg (List.range' k l.length) a w
  | [], _, _, _, _, h => h
  | o :: l, k, a, w, hl, h => by
    have h0 : ops[k]? = some o := by simpa using (hl 0).symm
    simp only [List.length_cons, List.range'_succ, lexT, h0]
    exact wpT_mono (fun a' w' h' => lexT_of_listT l (k + 1) a' w' (fun j => by have := hl (j + 1); simpa [Nat.add_assoc, Nat.add_comm 1 j] using this) h') h

theorem wpOps_of_lexT : ∀ (l : List Nat) (a : Act) (w : World), lexT P ops Q tg l a w → wpOps P ops Q l a w
  | [], _, _, h => h
  | i :: l, a, w, h => by
    rw [wpOps_cons]
    cases hoi : ops[i]? with
    | none => simp only [lexT, hoi] at h
    | some oi =>
      simp only [lexT, hoi] at h
      exact wpT_wpOp hoi (wpT_mono (fun a' w' h' => wpOps_of_lexT l a' w' h') h)

/-- A region that does not draw. -/
theorem region_still {id : Nat} {l : List Oper} {a : Act} {w : World} (h : listT P l.toArray Q tg l a w) : (Code.region id l.toArray false).wp P Q a w := by
  apply wp_region
  have := wpOps_of_lexT _ a w (lexT_of_listT (ops := l.toArray) l 0 a w (fun j => by simp) h)
  rw [List.range_eq_range']
  simpa using this

/-- A region that draws. -/
theorem region_draw {id : Nat} {l : List Oper} {a : Act} {w : World} (hm : P.follows .mixedOrders = true) (hc : planB l.toArray tg (masks l []) = true) (hQ : Calm Q)
    (h : listT P l.toArray Q tg l a { w with drawn := w.drawn + 1 }) : (Code.region id l.toArray true).wp P Q a w := by
  apply wp_region_any hm
  have h1 := lexT_of_listT (ops := l.toArray) l 0 a _ (fun j => by simp) h
  rw [← List.range_eq_range'] at h1
  refine lex_any (plan_of hc) hQ l.toArray.size (Array.replicate l.toArray.size false) (List.range l.length) a _ (by simp) List.pairwise_lt_range ?_ ⟨by simp, ?_⟩ h1
  · intro i
    simp only [List.mem_range, List.size_toArray, getD_replicate_false', and_true]
  · intro j o _ hl
    rw [getD_replicate_false'] at hl
    cases hl
end
end Eng
