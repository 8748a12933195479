import Derived.Test.Qxb6604092aCModel
import Derived.Test.Qxb6604092aRepeat
import Derived.Test.Qxb6604092aGot
import Derived.WalkSpells
namespace Go.Proofs.Qxb6604092a
open Go.RowKit
open Go.ChangeMaps (setBlock)

theorem first_entry {cs : List CCall} {k : Nat} (hk : k < cs.length) (hf : isFirst cs k) : ∀ d, k + 1 + d ≤ cs.length → ∃ l, seenAll (cs.take (k + 1 + d)) (cs.getD k call0).idx = some ((cs.getD k call0).e, l)
  | 0, _ => by
    rw [Nat.add_zero, seenAll_take_succ hk, seen_same rfl, (first_none hk).2 hf]
    exact ⟨_, rfl⟩
  | d + 1, hd => by
    obtain ⟨l, hl⟩ := first_entry hk hf d (by omega)
    rw [show k + 1 + (d + 1) = (k + 1 + d) + 1 by omega, seenAll_take_succ (by omega)]
    by_cases h : (cs.getD (k + 1 + d) call0).idx = (cs.getD k call0).idx
    · rw [seen_same h, hl]
      exact ⟨_, rfl⟩
    · rw [seen_other h]
      exact ⟨l, hl⟩
theorem held_commit {S0 : CSt} (h0 : S0.A = []) {cs : List CCall} {k : Nat} (hk : k < cs.length) (hf : isFirst cs k) :
    ∃ p, (cst S0 cs).A.find? (CP.is (cs.getD k call0).idx) = some p ∧ p.e = (cs.getD k call0).e ∧ seenAll cs (cs.getD k call0).idx = some ((cs.getD k call0).e, p.term) := by
  obtain ⟨l, hl⟩ := first_entry hk hf (cs.length - (k + 1)) (by omega)
  rw [show k + 1 + (cs.length - (k + 1)) = cs.length by omega, List.take_length] at hl
  have hv := viewC_cst h0 (cs.getD k call0).idx cs cs.length (Nat.le_refl _)
  rw [List.take_length, hl] at hv
  unfold viewC at hv
  obtain ⟨p, hp, he⟩ := Option.map_eq_some_iff.1 hv
  simp only [Prod.mk.injEq] at he
  exact ⟨p, hp, he.1, by rw [hl, he.2]⟩
theorem model_answers {S0 : CSt} (h0 : S0.A = []) {cs : List CCall} {k : Nat} (hk : k < cs.length) : modelOf (seenAll (cs.take k) (cs.getD k call0).idx) (cs.getD k call0) = (commitStep (cst S0 (cs.take k)) (cs.getD k call0)).2 := by
  rw [answers, viewC_cst h0 _ cs k (by omega)]
  rfl

/-! ### The block of marks -/
def Marks (w : World) (g n j : Nat) (cs : List CCall) : Prop :=
  ∃ (cur : Array Value) (f : Nat → Bool), w.heap[g]? = some (.cells cur 4 (0, 0)) ∧ cur.size = n ∧ (∀ i, i < n → cur[i]? = some (.bool (f i))) ∧ ∀ i, f i = true ↔ i < j ∧ Change cs i
theorem Marks.lt {w : World} {g n j : Nat} {cs : List CCall} (h : Marks w g n j cs) : g < w.heap.size := by
  obtain ⟨cur, f, h1, _⟩ := h
  exact (Array.getElem?_eq_some_iff.1 h1).1
theorem Marks.below {w w' : World} {g n j : Nat} {cs : List CCall} (h : Marks w g n j cs) (hb : Below w.heap.size w w') : Marks w' g n j cs := by
  have hlt := h.lt
  obtain ⟨cur, f, h1, h2⟩ := h
  exact ⟨cur, f, (hb.block g hlt).trans h1, h2⟩
theorem Marks.skip {w : World} {g n j : Nat} {cs : List CCall} (h : Marks w g n j cs) (hc : ¬ Change cs j) : Marks w g n (j + 1) cs := by
  obtain ⟨cur, f, h1, h2, h3, h4⟩ := h
  refine ⟨cur, f, h1, h2, h3, fun i => (h4 i).trans ⟨fun hh => ⟨by omega, hh.2⟩, fun hh => ⟨?_, hh.2⟩⟩⟩
  by_cases e : i = j
  · subst e; exact absurd hh.2 hc
  · omega
theorem Marks.old {w : World} {g n j : Nat} {cs : List CCall} (h : Marks w g n j cs) {i : Nat} (hi : i < n) : ∃ v, w.cell? ⟨g, i, none⟩ = some v := by
  obtain ⟨cur, f, h1, h2, h3, h4⟩ := h
  exact ⟨cur[i], by simp [World.cell?, h1]⟩
theorem Marks.frozen {w : World} {g n j : Nat} {cs : List CCall} (h : Marks w g n j cs) (i : Nat) : w.frozen? ⟨g, i, none⟩ = false := by
  obtain ⟨cur, f, h1, _⟩ := h
  simp [World.frozen?, h1]
theorem Marks.set {w : World} {g n j : Nat} {cs : List CCall} (h : Marks w g n j cs) (hj : j < n) {b : Bool} (hb : b = true ↔ Change cs j) : Marks (w.setCell ⟨g, j, none⟩ (.bool b)) g n (j + 1) cs := by
  obtain ⟨cur, f, h1, h2, h3, h4⟩ := h
  refine ⟨cur.setIfInBounds j (.bool b), fun i => if i = j then b else f i, heap_setCell_at h1, by simpa using h2, fun i hi => ?_, fun i => ?_⟩
  · by_cases e : i = j
    · subst e; simp [h2, hi]
    · rw [Array.getElem?_setIfInBounds_ne (by omega)]
      simp [e, h3 i hi]
  · by_cases e : i = j
    · subst e
      simp only [if_true]
      exact hb.trans ⟨fun hh => ⟨by omega, hh⟩, fun hh => hh.2⟩
    · simp only [e, if_false]
      exact (h4 i).trans ⟨fun hh => ⟨by omega, hh.2⟩, fun hh => ⟨by omega, hh.2⟩⟩
theorem Marks.ch {w : World} {g n j : Nat} {cs : List CCall} (h : Marks w g n j cs) : ∃ f, ChAt w g n f ∧ ∀ i, f i = true ↔ i < j ∧ Change cs i := by
  obtain ⟨cur, f, h1, h2, h3, h4⟩ := h
  exact ⟨f, fun i hi => by simpa [World.cell?, h1] using h3 i hi, h4⟩
theorem Marks.start {w : World} {g n : Nat} {base : Nat} {xs : List Value} (cs : List CCall) (h : w.ownsRow base 4 1 (.slice (Option.some ⟨g, 0, none⟩) n n) n xs) (hx : xs = List.replicate n (.bool false)) : Marks w g n 0 cs := by
  obtain ⟨h1, h2⟩ := h
  rcases h2 with ⟨h2, _⟩ | ⟨g', cap, cur, hv, hg, hh, r1, r2, r3, r4⟩
  · cases h2
  · simp at hv
    obtain ⟨rfl, rfl⟩ := hv
    refine ⟨cur, fun _ => false, hh, by simpa using r3, fun i hi => ?_, fun i => by simp⟩
    rw [hx, List.take_of_length_le (by simp; omega)] at r4
    have : cur.toList[i]? = some (.bool false) := by rw [r4]; simp [hi]
    simpa using this
theorem made_false (n : Nat) : (madeCells (Value.bool false).cells (n * 1)).toList = List.replicate n (.bool false) := by
  apply List.ext_getElem
  · simp [madeCells]
  · intro i h1 h2
    simp [madeCells, Value.cells, Nat.mod_one]

theorem Try.info4 : (Try.prog.info? 4).map (fun i => (i.zero, i.size, i.bytes)) = some (some (.bool false), 1, 1) := by kernel_rfl
end Go.Proofs.Qxb6604092a
