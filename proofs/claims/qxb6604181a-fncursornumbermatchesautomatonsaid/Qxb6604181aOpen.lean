import Derived.Test.Qxb6604181aHeap
import Derived.ProofKit
import Derived.OpenShut
import Derived.ShutString
import Derived.ChangeOld
import Derived.Deep.Slices
namespace Go.Proofs.Qxb6604181a
open Go.ChangeShapes Go.WideShapes Go.ChangeAt Go.RowKit Go.Deep

/-! ### The arguments opened: from how they read to what lies in memory -/
section
variable {H : Type} {enc : TypeId × Value → H} {w : World}
theorem Try.cells5 : Try.prog.cellsOf 5 = 1 := by kernel_rfl

/-- A row of integers, out of its reading. -/
theorem open_row {t e : TypeId} {k : IntKind} {fuel : Nat} {cs : List Value} {x : DataW H × List MemPlace} (ht : Try.prog.underlying t = some (.slice e)) (he : Try.prog.underlying e = some (.int k)) (hc : Try.prog.cellsOf e = 1)
    (h : DataW.trod enc Try.prog w 0 (fun _ => true) true fuel t cs = some x) : ∃ a n c zs, cs = [.slice a n c] ∧ RowAt w 0 w.heap.size k a n c zs := by
  rcases open_ints ht he hc h with ⟨rfl, _⟩ | ⟨a, len, cap, zs, rfl, _, hl, hm, hz, _, hcell, hwz⟩
  · exact ⟨none, 0, 0, [], rfl, rfl, Nat.le_refl _, Nat.zero_le _, (fun z hz => by cases hz), .inl rfl⟩
  · simp only [if_true] at hz
    refine ⟨some a, len, cap, zs.take len, rfl, by simp; omega, hl, hm, fun z hz' => hwz z (List.mem_of_mem_take hz'), ?_⟩
    by_cases h0 : len = 0
    · exact .inl h0
    · obtain ⟨b, off, spot⟩ := a
      have hs : spot = none := by simpa [Addr.add] using World.cell?_spot (hcell 0 (by omega))
      subst hs
      have hc0 := hcell 0 (by omega)
      refine .inr ⟨b, off, rfl, Nat.zero_le _, block_lt_of_cell hc0, fun i hi => ?_⟩
      rw [← add_plain, hcell i (by omega)]
      simp [List.getD, hi]
end
end Go.Proofs.Qxb6604181a
