import Derived.Test.Qxb6604092aIdxMap
import Derived.Test.Qxb6604092aHoldPlain
import Derived.Test.Qxb6604092aGot
namespace Go.Proofs.Qxb6604092a
open Go.RowKit

/-! ### Handing an entry again -/
theorem cis_iff (i : Int) (p : CP) : CP.is i p = true ↔ i = p.idx := by simp [CP.is]
theorem find_lower (i t j : Int) : ∀ A : List CP, (lower i t A).find? (CP.is j) = (A.find? (CP.is j)).map fun p => if j = i then p.low t else p
  | [] => rfl
  | p :: A => by
    have ih := find_lower i t j A
    cases h : CP.is i p with
    | true =>
      have h' := (cis_iff _ _).1 h
      simp only [lower, h, if_true, List.find?_cons]
      have hm : CP.is j (p.low t) = CP.is j p := rfl
      rw [hm]
      cases h2 : CP.is j p with
      | true =>
        have h3 := (cis_iff _ _).1 h2
        simp [h', h3]
      | false =>
        have hne : ¬ j = i := fun e => by rw [e, h] at h2; cases h2
        simp [hne]
    | false =>
      simp only [lower, h, Bool.false_eq_true, if_false, List.find?_cons]
      cases h2 : CP.is j p with
      | true =>
        have hne : ¬ j = i := fun e => by rw [e, h] at h2; cases h2
        simp [hne]
      | false => exact ih
theorem length_lower (i t : Int) : ∀ A : List CP, (lower i t A).length = A.length
  | [] => rfl
  | p :: A => by
    simp only [lower]
    split
    · rfl
    · simp [length_lower i t A]
theorem sameE_refl (e : Ent) : sameE e e = true := (sameE_iff e e).2 ⟨rfl, rfl, rfl, rfl⟩
theorem gotB_refl (e : Ent) : gotB e e = true := by simp [gotB, sameE_refl]
theorem eqL_refl (l : List Int) : eqL l l = true := by simp [eqL]

/-- Behind a commit there is a commitment at the index; handing the entry again answers as it did, is never the earliest, and finds the commitment as it was. -/
theorem commit_again (S : CSt) (c : CCall) : ∃ p, (commitStep S c).1.A.find? (CP.is c.idx) = some p ∧ sameE p.e c.e = (commitStep S c).2.1 ∧ decide (c.nt < p.term) = false ∧
    (lower c.idx c.nt (commitStep S c).1.A).find? (CP.is c.idx) = some p := by
  unfold commitStep
  cases h : S.A.find? (CP.is c.idx) with
  | none =>
    refine ⟨⟨c.idx, c.e, c.nt⟩, ?_, ?_, by simp, ?_⟩
    · simp [List.find?_append, h, CP.is]
    · exact sameE_refl _
    · rw [find_lower]
      simp [List.find?_append, h, CP.is, CP.low, mn2]
  | some p =>
    refine ⟨p.low c.nt, ?_, rfl, ?_, ?_⟩
    · simp [find_lower, h]
    · rw [decide_eq_false_iff_not]
      simp only [CP.low, mn2]
      split <;> omega
    · simp only [find_lower, h, Option.map_some, if_true, Option.some.injEq]
      simp only [CP.low, mn2]
      congr 1
      split <;> simp_all
end Go.Proofs.Qxb6604092a
