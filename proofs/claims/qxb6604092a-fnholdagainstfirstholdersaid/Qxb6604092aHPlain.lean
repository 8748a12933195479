import Derived.Test.Qxb6604092aHModel
import Derived.Test.Qxb6604092aHoldPlain
import Derived.IntWalk
namespace Go.Proofs.Qxb6604092a
open Go.RowKit

/-! ### What is held behind a script of calls -/
def hStep (A : List HP) (c : HCall) : List HP := (holdGo c.log (c.log.length + 1 - c.f) c.f A true).1
def hst (cs : List HCall) : List HP := cs.foldl hStep []
theorem hst_take {cs : List HCall} {k : Nat} (hk : k < cs.length) : hst (cs.take (k + 1)) = hStep (hst (cs.take k)) (cs.getD k hcall0) := by
  unfold hst
  rw [List.take_succ_eq_append_getElem hk, List.foldl_append]
  simp [hk]

theorem bringsC_iff {i : Nat} {t : Int} {c : HCall} : bringsC i t c = true ↔ c.f ≤ i ∧ i ≤ c.log.length ∧ (c.log.getD (i - 1) ent0).term = t := by
  simp only [bringsC, Bool.and_eq_true, decide_eq_true_eq, and_assoc]

/-- What is held, as the calls say: the first that brought the position, and how many did. -/
def Shows2 (D : List HCall) (A : List HP) : Prop :=
  ∀ (i : Nat) (t : Int), 1 ≤ i → view A i t = (D.find? (bringsC i t)).map fun c => (c.log.getD (i - 1) ent0, prevT c.log i, ((D.countP (bringsC i t) : Nat) : Int))

theorem wrap64_small {z : Int} (h0 : 0 ≤ z) (h1 : z ≤ 9223372036854775807) : wrap64 z = z := by
  unfold wrap64
  omega

theorem Shows2.step {D : List HCall} {A : List HP} (h : Shows2 D A) (c : HCall) (hD : D.length ≤ 100000) : Shows2 (D ++ [c]) (hStep A c) := by
  intro i t hi
  unfold hStep
  rw [view_go, List.find?_append, List.countP_append, h i t hi]
  by_cases hb : bringsC i t c = true
  · obtain ⟨b1, b2, b3⟩ := bringsC_iff.1 hb
    rw [if_pos ⟨b1, by omega, b3.symm⟩]
    have hc1 : [c].countP (bringsC i t) = 1 := by simp [hb]
    have hf1 : [c].find? (bringsC i t) = some c := by simp [hb]
    rw [hc1, hf1]
    cases hf : D.find? (bringsC i t) with
    | none =>
      have h0 : D.countP (bringsC i t) = 0 := by
        rw [List.countP_eq_zero]
        simpa using hf
      rw [h0]
      simp [bumpV]
    | some c' =>
      have hle : D.countP (bringsC i t) ≤ D.length := List.countP_le_length
      simp only [Option.map_some, bumpV, Option.some_or]
      rw [wrap64_small (by omega) (by omega)]
      rfl
  · have hb' : ¬ (c.f ≤ i ∧ i < c.f + (c.log.length + 1 - c.f) ∧ t = (c.log.getD (i - 1) ent0).term) := fun hc => hb (bringsC_iff.2 ⟨hc.1, by omega, hc.2.2.symm⟩)
    have hbf : bringsC i t c = false := by simpa using hb
    rw [if_neg hb']
    have hc1 : [c].countP (bringsC i t) = 0 := by simp [hbf]
    have hf1 : [c].find? (bringsC i t) = none := by simp [hbf]
    rw [hc1, hf1]
    simp

theorem shows_take {cs : List HCall} (hl : cs.length ≤ 100000) : ∀ k, k ≤ cs.length → Shows2 (cs.take k) (hst (cs.take k))
  | 0, _ => fun i t _ => by simp [hst, view]
  | k + 1, hk => by
    rw [hst_take (by omega), List.take_succ_eq_append_getElem (by omega)]
    have e : cs.getD k hcall0 = cs[k] := by simp [show k < cs.length by omega]
    rw [e]
    exact (shows_take hl k (by omega)).step _ (by simp; omega)

theorem find_take_none {cs : List HCall} {p : HCall → Bool} {k : Nat} (h : ∀ g, g < k → p (cs.getD g hcall0) = false) : (cs.take k).find? p = none := by
  rw [List.find?_eq_none]
  intro x hx
  obtain ⟨g, hg, rfl⟩ := List.mem_iff_getElem.1 hx
  have hg' : g < k ∧ g < cs.length := by simp at hg; omega
  have := h g hg'.1
  have h2 := hg'.2
  simp [h2] at this
  simp [this]
theorem find_take_some {cs : List HCall} {p : HCall → Bool} {j k : Nat} (hk : k ≤ cs.length) (hj : j < k) (hp : p (cs.getD j hcall0) = true) (hmin : ∀ g, g < j → p (cs.getD g hcall0) = false) : (cs.take k).find? p = some (cs.getD j hcall0) := by
  rw [List.find?_eq_some_iff_getElem]
  refine ⟨hp, j, by simp; omega, by simp [show j < cs.length by omega], fun g hg => ?_⟩
  have := hmin g hg
  have hgl : g < cs.length := by omega
  simpa [hgl] using this
theorem firstOf {q : Nat → Bool} : ∀ k, (∀ g, g < k → q g = false) ∨ ∃ j, j < k ∧ q j = true ∧ ∀ g, g < j → q g = false
  | 0 => .inl fun g hg => absurd hg (Nat.not_lt_zero _)
  | k + 1 => by
    rcases firstOf (q := q) k with h | ⟨j, h1, h2, h3⟩
    · cases hq : q k with
      | true => exact .inr ⟨k, by omega, hq, h⟩
      | false => exact .inl (snoc_lt (P := fun g => q g = false) h hq)
    · exact .inr ⟨j, by omega, h2, h3⟩

theorem okV_posOk {cs : List HCall} {k : Nat} {A : List HP} (hS : Shows2 (cs.take k) A) (hk : k < cs.length) (i : Nat) (hi : 1 ≤ i) :
    okV (view A i ((cs.getD k hcall0).log.getD (i - 1) ent0).term) ((cs.getD k hcall0).log.getD (i - 1) ent0) (prevT (cs.getD k hcall0).log i) = true ↔ PosOk cs k i := by
  obtain ⟨m, rfl⟩ : ∃ m, i = m + 1 := ⟨i - 1, by omega⟩
  rw [hS _ _ hi]
  simp only [Nat.add_sub_cancel]
  rcases firstOf (q := fun g => bringsC (m + 1) ((cs.getD k hcall0).log.getD m ent0).term (cs.getD g hcall0)) k with h | ⟨j, h1, h2, h3⟩
  · rw [find_take_none h]
    exact ⟨fun _ => posOk_none rfl h, fun _ => rfl⟩
  · rw [find_take_some (by omega) h1 h2 h3, posOk_some rfl h1 h2 h3]
    simp [okV]

theorem ok_iff {cs : List HCall} {k : Nat} {A : List HP} (hS : Shows2 (cs.take k) A) (hk : k < cs.length) (hf : 1 ≤ (cs.getD k hcall0).f) :
    (holdGo (cs.getD k hcall0).log ((cs.getD k hcall0).log.length + 1 - (cs.getD k hcall0).f) (cs.getD k hcall0).f A true).2 = true ↔ AllOk cs k := by
  rw [ok_go]
  constructor
  · rintro ⟨_, H⟩ i h1 h2
    exact (okV_posOk hS hk i (by omega)).1 (H i h1 (by omega))
  · intro H
    exact ⟨rfl, fun i h1 h2 => (okV_posOk hS hk i (by omega)).2 (H i h1 (by omega))⟩

/-! ### The number of positions -/
theorem holdGo_snoc (es : List Ent) : ∀ (m i : Nat) (A : List HP) (ok : Bool), (holdGo es (m + 1) i A ok).1 = (holdStep (holdGo es m i A ok).1 ((i + m : Nat) : Int) (es.getD (i + m - 1) ent0) (prevT es (i + m))).1
  | 0, i, A, ok => rfl
  | m + 1, i, A, ok => by
    rw [holdGo, holdGo_snoc es m (i + 1)]
    simp only [holdGo]
    rw [show i + 1 + m = i + (m + 1) by omega]
theorem length_bump (i t : Int) : ∀ A : List HP, (bump i t A).length = A.length
  | [] => rfl
  | p :: A => by
    simp only [bump]
    split
    · rfl
    · simp [length_bump i t A]
theorem length_step (A : List HP) (i : Int) (e : Ent) (prev : Int) : (holdStep A i e prev).1.length = if (view A i e.term).isNone then A.length + 1 else A.length := by
  unfold holdStep view
  cases A.find? (HP.is i e.term) with
  | none => simp
  | some p => simp [length_bump]
/-- How many positions are held when the k-th call has brought m entries. -/
def posOf (cs : List HCall) (k m : Nat) : Nat := (holdGo (cs.getD k hcall0).log m (cs.getD k hcall0).f (hst (cs.take k)) true).1.length
theorem posOf_zero (cs : List HCall) (k : Nat) : posOf cs k 0 = (hst (cs.take k)).length := rfl
theorem posOf_all {cs : List HCall} {k : Nat} (hk : k < cs.length) : posOf cs k ((cs.getD k hcall0).log.length + 1 - (cs.getD k hcall0).f) = (hst (cs.take (k + 1))).length := by
  rw [hst_take hk]
  rfl
theorem posOf_succ {cs : List HCall} (hl : cs.length ≤ 100000) {k m i : Nat} {t : Int} (hk : k < cs.length) (hi : i = (cs.getD k hcall0).f + m) (h1 : 1 ≤ i) (ht : ((cs.getD k hcall0).log.getD (i - 1) ent0).term = t) :
    posOf cs k (m + 1) = if ((cs.take k).find? (bringsC i t)).isNone then posOf cs k m + 1 else posOf cs k m := by
  unfold posOf
  have hv : view (holdGo (cs.getD k hcall0).log m (cs.getD k hcall0).f (hst (cs.take k)) true).1 i t = view (hst (cs.take k)) i t := by
    rw [view_go, if_neg (fun hh => by omega)]
  rw [holdGo_snoc, ← hi, length_step, ht, hv, shows_take hl k (by omega) i t h1]
  simp
theorem posOf_new {cs : List HCall} (hl : cs.length ≤ 100000) {k m i : Nat} {t : Int} (hk : k < cs.length) (hi : i = (cs.getD k hcall0).f + m) (h1 : 1 ≤ i) (ht : ((cs.getD k hcall0).log.getD (i - 1) ent0).term = t)
    (h : ∀ g, g < k → bringsC i t (cs.getD g hcall0) = false) : posOf cs k (m + 1) = posOf cs k m + 1 := by
  rw [posOf_succ hl hk hi h1 ht, find_take_none h]
  rfl
theorem posOf_old {cs : List HCall} (hl : cs.length ≤ 100000) {k m i j : Nat} {t : Int} (hk : k < cs.length) (hi : i = (cs.getD k hcall0).f + m) (h1 : 1 ≤ i) (ht : ((cs.getD k hcall0).log.getD (i - 1) ent0).term = t)
    (hj : j < k) (hb : bringsC i t (cs.getD j hcall0) = true) (h : ∀ g, g < j → bringsC i t (cs.getD g hcall0) = false) : posOf cs k (m + 1) = posOf cs k m := by
  rw [posOf_succ hl hk hi h1 ht, find_take_some (by omega) hj hb h]
  rfl

/-- At the end: what is held at a position that the k-th call was the first to bring. -/
theorem held_first {cs : List HCall} (hl : cs.length ≤ 100000) {M : List HR} (hM : M.map HR.p = hst cs) {k i : Nat} {t : Int} (hk : k < cs.length) (h1 : 1 ≤ i)
    (hb : bringsC i t (cs.getD k hcall0) = true) (h : ∀ g, g < k → bringsC i t (cs.getD g hcall0) = false) :
    ∃ r, rfind M i t = some r ∧ r.p.e = (cs.getD k hcall0).log.getD (i - 1) ent0 ∧ r.p.prev = prevT (cs.getD k hcall0).log i ∧ r.p.cnt = ((cs.countP (bringsC i t) : Nat) : Int) := by
  have hs := shows_take hl cs.length (Nat.le_refl _) i t h1
  rw [find_take_some (Nat.le_refl _) hk hb h, List.take_length, ← hM] at hs
  unfold view at hs
  rw [find_p] at hs
  cases hr : rfind M i t with
  | none => rw [hr] at hs; simp at hs
  | some r =>
    rw [hr] at hs
    simp only [Option.map_some, Option.some.injEq, Prod.mk.injEq] at hs
    exact ⟨r, rfl, hs.1, hs.2.1, hs.2.2⟩
end Go.Proofs.Qxb6604092a
