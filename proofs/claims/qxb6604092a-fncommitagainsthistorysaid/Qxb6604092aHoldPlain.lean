import Derived.Test.Qxb6604092aHeld
import Derived.Test.Qxb6604092aMatch
namespace Go.Proofs.Qxb6604092a
open Go.RowKit

/-! ### What is held, seen at a position -/
def view (A : List HP) (i t : Int) : Option (Ent × Int × Int) := (A.find? (HP.is i t)).map fun p => (p.e, p.prev, p.cnt)
def bumpV (o : Option (Ent × Int × Int)) (e : Ent) (prev : Int) : Option (Ent × Int × Int) :=
  match o with
  | none => some (e, prev, 1)
  | some (e', p', c) => some (e', p', wrap64 (c + 1))
def okV (o : Option (Ent × Int × Int)) (e : Ent) (prev : Int) : Bool :=
  match o with
  | none => true
  | some (e', p', _) => decide (p' = prev) && sameE e' e

theorem is_self (i t : Int) (p : HP) : HP.is i t p = true ↔ i = p.idx ∧ t = p.term := by simp [HP.is]
theorem find_bump (i t j s : Int) : ∀ A : List HP, (bump i t A).find? (HP.is j s) = (A.find? (HP.is j s)).map fun p => if j = i ∧ s = t then p.more else p
  | [] => rfl
  | p :: A => by
    have ih := find_bump i t j s A
    cases h : HP.is i t p with
    | true =>
      have h' := (is_self _ _ _).1 h
      simp only [bump, h, if_true, List.find?_cons]
      have hm : HP.is j s p.more = HP.is j s p := rfl
      rw [hm]
      cases h2 : HP.is j s p with
      | true =>
        have h3 := (is_self _ _ _).1 h2
        simp [h'.1, h'.2, h3.1, h3.2]
      | false =>
        have hne : ¬ (j = i ∧ s = t) := fun e => by rw [e.1, e.2, h] at h2; cases h2
        simp [hne]
    | false =>
      simp only [bump, h, Bool.false_eq_true, if_false, List.find?_cons]
      cases h2 : HP.is j s p with
      | true =>
        have hne : ¬ (j = i ∧ s = t) := fun e => by rw [e.1, e.2, h] at h2; cases h2
        simp [hne]
      | false => exact ih

theorem view_step (A : List HP) (i : Int) (e : Ent) (prev : Int) (j t : Int) :
    view (holdStep A i e prev).1 j t = if j = i ∧ t = e.term then bumpV (view A j t) e prev else view A j t := by
  unfold holdStep
  cases h : A.find? (HP.is i e.term) with
  | none =>
    simp only [view, List.find?_append]
    by_cases hc : j = i ∧ t = e.term
    · obtain ⟨rfl, rfl⟩ := hc
      simp [h, HP.is, bumpV]
    · rw [if_neg hc]
      have : HP.is j t ⟨i, e.term, e, prev, 1⟩ = false := by simpa [HP.is] using hc
      simp [this]
  | some p =>
    simp only [view, find_bump]
    by_cases hc : j = i ∧ t = e.term
    · obtain ⟨rfl, rfl⟩ := hc
      simp [h, bumpV, HP.more]
    · simp [hc]
theorem ok_step (A : List HP) (i : Int) (e : Ent) (prev : Int) : (holdStep A i e prev).2 = okV (view A i e.term) e prev := by
  unfold holdStep view
  cases h : A.find? (HP.is i e.term) <;> simp [okV]

theorem view_go (es : List Ent) (j : Nat) (t : Int) : ∀ (m i : Nat) (A : List HP) (ok : Bool),
    view (holdGo es m i A ok).1 j t = if i ≤ j ∧ j < i + m ∧ t = (es.getD (j - 1) ent0).term then bumpV (view A j t) (es.getD (j - 1) ent0) (prevT es j) else view A j t
  | 0, i, A, ok => by
    rw [if_neg (by omega)]
    rfl
  | m + 1, i, A, ok => by
    simp only [holdGo]
    rw [view_go es j t m (i + 1), view_step]
    by_cases hj : j = i
    · subst hj
      rw [if_neg (by omega)]
      by_cases ht : t = (es.getD (j - 1) ent0).term
      · rw [if_pos ⟨rfl, ht⟩, if_pos ⟨Nat.le_refl _, by omega, ht⟩]
      · rw [if_neg (fun h => ht h.2), if_neg (fun h => ht h.2.2)]
    · have hji : ¬ ((j : Int) = (i : Int) ∧ t = (es.getD (i - 1) ent0).term) := fun h => hj (by omega)
      rw [if_neg hji]
      by_cases hc : i + 1 ≤ j ∧ j < i + 1 + m ∧ t = (es.getD (j - 1) ent0).term
      · rw [if_pos hc, if_pos ⟨by omega, by omega, hc.2.2⟩]
      · rw [if_neg hc, if_neg (fun h => hc ⟨by omega, by omega, h.2.2⟩)]
theorem ok_go (es : List Ent) : ∀ (m i : Nat) (A : List HP) (ok : Bool),
    (holdGo es m i A ok).2 = true ↔ ok = true ∧ ∀ j : Nat, i ≤ j → j < i + m → okV (view A j (es.getD (j - 1) ent0).term) (es.getD (j - 1) ent0) (prevT es j) = true
  | 0, i, A, ok => by
    simp only [holdGo]
    exact ⟨fun h => ⟨h, fun j h1 h2 => by omega⟩, fun h => h.1⟩
  | m + 1, i, A, ok => by
    simp only [holdGo]
    rw [ok_go es m (i + 1), ok_step, Bool.and_eq_true]
    constructor
    · rintro ⟨⟨h1, h2⟩, h3⟩
      refine ⟨h1, fun j a b => ?_⟩
      by_cases hj : j = i
      · subst hj; exact h2
      · have := h3 j (by omega) (by omega)
        rw [view_step, if_neg (fun h => hj (by omega))] at this
        exact this
    · rintro ⟨h1, h2⟩
      refine ⟨⟨h1, h2 i (Nat.le_refl _) (by omega)⟩, fun j a b => ?_⟩
      rw [view_step, if_neg (fun h => by omega)]
      exact h2 j (by omega) (by omega)

/-! ### sameE is sameness of what an entry carries -/
theorem sameE_iff (e f : Ent) : sameE e f = true ↔ e.term = f.term ∧ e.data = f.data ∧ e.mems = f.mems ∧ e.addr.toList = f.addr.toList := by
  simp [sameE, eqL]
theorem sameE_symm {e f : Ent} (h : sameE e f = true) : sameE f e = true := by
  rw [sameE_iff] at *
  exact ⟨h.1.symm, h.2.1.symm, h.2.2.1.symm, h.2.2.2.symm⟩
theorem sameE_trans {e f g : Ent} (h : sameE e f = true) (k : sameE f g = true) : sameE e g = true := by
  rw [sameE_iff] at *
  exact ⟨h.1.trans k.1, h.2.1.trans k.2.1, h.2.2.1.trans k.2.2.1, h.2.2.2.trans k.2.2.2⟩

/-! ### All logs held, each whole -/
def holdAll : List (List Ent) → List HP → Bool → List HP × Bool
  | [], A, b => (A, b)
  | es :: ls, A, b => holdAll ls (holdGo es es.length 1 A true).1 (b && (holdGo es es.length 1 A true).2)

/-- Does the log bring an entry of index i (from 1 on) and term t? -/
def brings (i : Nat) (t : Int) (l : List Ent) : Bool := decide (i ≤ l.length) && decide ((l.getD (i - 1) ent0).term = t)
/-- What is held, but for the counts, as the logs that were held say: the first that brought an entry there. -/
def Shows (D : List (List Ent)) (A : List HP) : Prop :=
  ∀ (i : Nat) (t : Int), 1 ≤ i → (view A i t).map (fun x => (x.1, x.2.1)) = (D.find? (brings i t)).map fun l => (l.getD (i - 1) ent0, prevT l i)

theorem map_bumpV (o : Option (Ent × Int × Int)) (e : Ent) (prev : Int) : (bumpV o e prev).map (fun x => (x.1, x.2.1)) = (o.map (fun x => (x.1, x.2.1))).or (some (e, prev)) := by
  cases o with
  | none => rfl
  | some x => rfl

theorem Shows.step {D : List (List Ent)} {A : List HP} (h : Shows D A) (es : List Ent) : Shows (D ++ [es]) (holdGo es es.length 1 A true).1 := by
  intro i t hi
  rw [view_go, List.find?_append]
  by_cases hb : brings i t es = true
  · have hb' : i ≤ es.length ∧ (es.getD (i - 1) ent0).term = t := by simpa [brings] using hb
    rw [if_pos ⟨hi, by omega, hb'.2.symm⟩, map_bumpV, h i t hi]
    have : ([es].find? (brings i t)) = some es := by simp [hb]
    rw [this]
    cases D.find? (brings i t) <;> rfl
  · have hb' : ¬ (1 ≤ i ∧ i < 1 + es.length ∧ t = (es.getD (i - 1) ent0).term) := fun hc => hb (by simp only [brings, Bool.and_eq_true, decide_eq_true_eq]; exact ⟨by omega, hc.2.2.symm⟩)
    rw [if_neg hb', h i t hi]
    have : ([es].find? (brings i t)) = none := by simp [hb]
    rw [this]
    simp

/-- Every log agrees with the first of those before it that brought an entry at the same position. -/
def Agrees (D : List (List Ent)) (es : List Ent) : Prop :=
  ∀ i : Nat, 1 ≤ i → i ≤ es.length → ∀ l, D.find? (brings i (es.getD (i - 1) ent0).term) = some l → prevT l i = prevT es i ∧ sameE (l.getD (i - 1) ent0) (es.getD (i - 1) ent0) = true
theorem Shows.ok {D : List (List Ent)} {A : List HP} (h : Shows D A) (es : List Ent) : (holdGo es es.length 1 A true).2 = true ↔ Agrees D es := by
  rw [ok_go]
  constructor
  · rintro ⟨_, H⟩ i h1 h2 l hl
    have := H i h1 (by omega)
    have hs := h i (es.getD (i - 1) ent0).term h1
    rw [hl] at hs
    cases hv : view A i (es.getD (i - 1) ent0).term with
    | none => rw [hv] at hs; cases hs
    | some x =>
      rw [hv] at hs this
      simp only [Option.map_some, Option.some.injEq, Prod.mk.injEq] at hs
      simp only [okV, Bool.and_eq_true, decide_eq_true_eq] at this
      rw [← hs.1, ← hs.2]
      exact ⟨this.1, this.2⟩
  · intro H
    refine ⟨rfl, fun j h1 h2 => ?_⟩
    have hs := h j (es.getD (j - 1) ent0).term h1
    cases hv : view A j (es.getD (j - 1) ent0).term with
    | none => rfl
    | some x =>
      rw [hv] at hs
      cases hl : D.find? (brings j (es.getD (j - 1) ent0).term) with
      | none => rw [hl] at hs; cases hs
      | some l =>
        rw [hl] at hs
        simp only [Option.map_some, Option.some.injEq, Prod.mk.injEq] at hs
        have := H j h1 (by omega) l hl
        simp only [okV, Bool.and_eq_true, decide_eq_true_eq]
        rw [hs.1, hs.2]
        exact this
theorem holdAll_ok : ∀ (ls D : List (List Ent)) (A : List HP) (b : Bool), Shows D A → ((holdAll ls A b).2 = true ↔ b = true ∧ ∀ k, k < ls.length → Agrees (D ++ ls.take k) (ls.getD k []))
  | [], D, A, b, _ => by simp [holdAll]
  | es :: ls, D, A, b, h => by
    simp only [holdAll]
    rw [holdAll_ok ls (D ++ [es]) _ _ (h.step es), Bool.and_eq_true, h.ok es]
    constructor
    · rintro ⟨⟨h1, h2⟩, h3⟩
      refine ⟨h1, fun k hk => ?_⟩
      cases k with
      | zero => simpa using h2
      | succ k =>
        have := h3 k (by simpa using hk)
        simpa using this
    · rintro ⟨h1, h2⟩
      refine ⟨⟨h1, by simpa using h2 0 (by simp)⟩, fun k hk => ?_⟩
      have := h2 (k + 1) (by simpa using hk)
      simpa using this

/-! ### The plain law -/
theorem first_of {ls : List (List Ent)} {p : List Ent → Bool} : ∀ a, p (ls.getD a []) = true → ∃ f, f ≤ a ∧ p (ls.getD f []) = true ∧ ∀ g, g < f → p (ls.getD g []) = false := by
  intro a
  induction a using Nat.strongRecOn with
  | _ a ih =>
    intro hp
    by_cases h : ∃ g, g < a ∧ p (ls.getD g []) = true
    · obtain ⟨g, hg, hpg⟩ := h
      obtain ⟨f, h1, h2, h3⟩ := ih g hg hpg
      exact ⟨f, by omega, h2, h3⟩
    · refine ⟨a, Nat.le_refl _, hp, fun g hg => ?_⟩
      cases hq : p (ls.getD g []) with
      | false => rfl
      | true => exact absurd ⟨g, hg, hq⟩ h
theorem find_take {ls : List (List Ent)} {p : List Ent → Bool} {f c : Nat} (hf : p (ls.getD f []) = true) (hmin : ∀ g, g < f → p (ls.getD g []) = false) (hc : f < c) (hl : f < ls.length) : (ls.take c).find? p = some (ls.getD f []) := by
  rw [List.find?_eq_some_iff_getElem]
  refine ⟨hf, f, by simp; omega, by simp [hl], fun j hj => ?_⟩
  have := hmin j hj
  have hjl : j < ls.length := by omega
  simpa [hjl] using this
theorem of_find_take {ls : List (List Ent)} {p : List Ent → Bool} {c : Nat} {l : List Ent} (h : (ls.take c).find? p = some l) : ∃ f, f < c ∧ f < ls.length ∧ l = ls.getD f [] ∧ p l = true := by
  rw [List.find?_eq_some_iff_getElem] at h
  obtain ⟨hp, f, hf, he, _⟩ := h
  have hf' : f < c ∧ f < ls.length := by simp at hf; omega
  have hf2 := hf'.2
  refine ⟨f, hf'.1, hf2, ?_, hp⟩
  simp [hf2]
  simpa using he.symm

theorem brings_iff {i : Nat} {t : Int} {l : List Ent} : brings i t l = true ↔ i ≤ l.length ∧ (l.getD (i - 1) ent0).term = t := by simp [brings]

/-- Two logs that bring entries at one position agree there. -/
theorem agree_pair {ls : List (List Ent)} (H : ∀ k, k < ls.length → Agrees (ls.take k) (ls.getD k [])) {a b i : Nat} (hab : a < b) (hb : b < ls.length) (hi : 1 ≤ i) (ha : i ≤ (ls.getD a []).length) (hbl : i ≤ (ls.getD b []).length)
    (ht : ((ls.getD a []).getD (i - 1) ent0).term = ((ls.getD b []).getD (i - 1) ent0).term) : prevT (ls.getD a []) i = prevT (ls.getD b []) i ∧ sameE ((ls.getD a []).getD (i - 1) ent0) ((ls.getD b []).getD (i - 1) ent0) = true := by
  obtain ⟨f, f1, f2, f3⟩ := first_of (ls := ls) (p := brings i ((ls.getD b []).getD (i - 1) ent0).term) a (brings_iff.2 ⟨ha, ht⟩)
  have hB := H b hb i hi hbl _ (find_take f2 f3 (by omega) (by omega))
  by_cases e : f = a
  · subst e; exact hB
  · have hA := H a (by omega) i hi ha _ (find_take (by rw [ht]; exact f2) (by rw [ht]; exact f3) (by omega) (by omega))
    exact ⟨hA.1.symm.trans hB.1, sameE_trans (sameE_symm hA.2) hB.2⟩

theorem agrees_LM (ls : List (List Ent)) : (∀ k, k < ls.length → Agrees (ls.take k) (ls.getD k [])) ↔ LM ls := by
  constructor
  · intro H a b hab hb i hia hib ht j hj
    have key : ∀ d, d ≤ i → ((ls.getD a []).getD (i - d) ent0).term = ((ls.getD b []).getD (i - d) ent0).term := by
      intro d
      induction d with
      | zero => intro _; exact ht
      | succ d ih =>
        intro hd
        have h1 := (agree_pair H hab hb (i := i - d + 1) (by omega) (by omega) (by omega) (by simpa using ih (by omega))).1
        have h2 : 1 < i - d + 1 := by omega
        simp only [prevT, h2, if_true] at h1
        rw [show i - d + 1 - 2 = i - (d + 1) by omega] at h1
        exact h1
    have hj' := key (i - j) (by omega)
    rw [show i - (i - j) = j by omega] at hj'
    have := (agree_pair H hab hb (i := j + 1) (by omega) (by omega) (by omega) (by simpa using hj')).2
    simpa using this
  · intro M k hk i h1 h2 l hl
    obtain ⟨f, f1, f2, rfl, hp⟩ := of_find_take hl
    obtain ⟨g1, g2⟩ := brings_iff.1 hp
    have hm := M f k f1 hk (i - 1) (by omega) (by omega) g2
    refine ⟨?_, hm (i - 1) (Nat.le_refl _)⟩
    by_cases hi : 1 < i
    · have := (sameE_iff _ _).1 (hm (i - 2) (by omega))
      simp only [prevT, hi, if_true]
      exact this.1
    · simp [prevT, hi]

theorem holdAll_LM (ls : List (List Ent)) : (holdAll ls [] true).2 = true ↔ LM ls := by
  rw [holdAll_ok ls [] [] true (fun i t _ => by simp [view]), ← agrees_LM]
  simp
end Go.Proofs.Qxb6604092a
