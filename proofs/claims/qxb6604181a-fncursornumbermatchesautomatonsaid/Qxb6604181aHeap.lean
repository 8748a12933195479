import Derived.Test.Qxb6604181aRows
import Derived.WalkKit
import Derived.WalkSpells
import Derived.WalkLawsBesides
import Derived.Deep.QuietTactic
import Derived.BigQuiet
import Derived.Deep.RegionHeld3
import Derived.Deep.DrawnRows
import Derived.Deep.RegionLaw
import Derived.Laws.CopyOwn
namespace Go.Proofs.Qxb6604181a
open Go.RowKit

/-- A number that fits its kind. -/
def Fits (k : IntKind) (z : Int) : Prop := (Lit.int k z).wf = true

/-! ### What stays -/
/-- The blocks from L on and below B are in w' as they were in w. -/
def Keeps (L B : Nat) (w w' : World) : Prop := ∀ b, L ≤ b → b < B → w'.heap[b]? = w.heap[b]?
theorem Keeps.refl (L B : Nat) (w : World) : Keeps L B w w := fun _ _ _ => rfl
theorem Keeps.of_below {L B : Nat} {w w' : World} (h : Below B w w') : Keeps L B w w' := fun b _ hb => h.block b hb
theorem Keeps.setCell {L B : Nat} {w : World} {p : Addr} (h : p.block < L ∨ B ≤ p.block) (v : Value) : Keeps L B w (w.setCell p v) := fun b h1 h2 => Below.heap_setCell _ _ _ _ (by omega)
theorem Keeps.trans {L B : Nat} {a b c : World} (h : Keeps L B a b) (k : Keeps L B b c) : Keeps L B a c := fun i h1 h2 => (k i h1 h2).trans (h i h1 h2)
theorem Keeps.mono {L B L' B' : Nat} {w w' : World} (h : Keeps L B w w') (h1 : L ≤ L') (h2 : B' ≤ B) : Keeps L' B' w w' := fun b a c => h b (by omega) (by omega)
theorem Keeps.cell {L B : Nat} {w w' : World} (h : Keeps L B w w') {b o : Nat} (h1 : L ≤ b) (h2 : b < B) : w'.cell? ⟨b, o, none⟩ = w.cell? ⟨b, o, none⟩ := World.cell?_of_block (w := w) (a := ⟨b, o, none⟩) (h b h1 h2)

/-! ### Rows of integers in memory -/
/-- A row of integers that a slice value leads to: the slice's length is the list's; where there is an element, the slice's address is plain, its block is among those from L on and below B, and each cell holds its number. -/
def RowAt (w : World) (L B : Nat) (k : IntKind) (a : Option Addr) (n c : Nat) (zs : List Int) : Prop :=
  zs.length = n ∧ n ≤ c ∧ c ≤ maxLen ∧ (∀ z ∈ zs, Fits k z) ∧ (n = 0 ∨ ∃ b off, a = some ⟨b, off, none⟩ ∧ L ≤ b ∧ b < B ∧ ∀ i, i < n → w.cell? ⟨b, off + i, none⟩ = some (.int k (zs.getD i 0)))

theorem RowAt.keep {w w' : World} {L B L' B' : Nat} {k : IntKind} {a : Option Addr} {n c : Nat} {zs : List Int} (h : RowAt w L B k a n c zs) (hk : Keeps L B w w') (hL : L' ≤ L) (hB : B ≤ B') : RowAt w' L' B' k a n c zs := by
  obtain ⟨h1, h2, h3, h5, h4⟩ := h
  refine ⟨h1, h2, h3, h5, ?_⟩
  rcases h4 with h4 | ⟨b, off, e, hl, hlt, hc⟩
  · exact .inl h4
  · exact .inr ⟨b, off, e, by omega, by omega, fun i hi => (hk.cell hl hlt).trans (hc i hi)⟩

/-- Where there is an element: the address, and the cell. -/
theorem RowAt.at {w : World} {L B : Nat} {k : IntKind} {a : Option Addr} {n c : Nat} {zs : List Int} (h : RowAt w L B k a n c zs) {i : Nat} (hi : i < n) :
    ∃ b off, a = some ⟨b, off, none⟩ ∧ b < B ∧ ∀ j, j < n → w.cell? ⟨b, off + j, none⟩ = some (.int k (zs.getD j 0)) := by
  rcases h.2.2.2.2 with h4 | ⟨b, off, e, _, hb, hc⟩
  · omega
  · exact ⟨b, off, e, hb, hc⟩

theorem RowAt.drewN {w : World} {L B : Nat} {k : IntKind} {a : Option Addr} {n c : Nat} {zs : List Int} (h : RowAt w L B k a n c zs) (q : Nat) : RowAt (w.drewN q) L B k a n c zs := h

/-- Rules for the walk behind a contract that ends in 'Below'. -/
theorem bcell {W w1 : World} (hb : Below W.heap.size W w1) : (∀ b o, b < W.heap.size → w1.cell? ⟨b, o, none⟩ = W.cell? ⟨b, o, none⟩) ∧ (∀ b o, b < W.heap.size → w1.frozen? ⟨b, o, none⟩ = W.frozen? ⟨b, o, none⟩) :=
  ⟨fun b o h => hb.cell (p := ⟨b, o, none⟩) h, fun b o h => hb.frozen (p := ⟨b, o, none⟩) h⟩

/-! ### A block of the call's own, being filled with numbers -/
/-- The first k cells hold the first k numbers. -/
def Filling (w : World) (g : Nat) (e : TypeId) (q : IntKind) (n k : Nat) (zs : List Int) : Prop :=
  ∃ cur : Array Value, w.heap[g]? = some (.cells cur e (0, 0)) ∧ cur.size = n ∧ ∀ i, i < k → cur[i]? = some (.int q (zs.getD i 0))

section
variable {w : World} {g : Nat} {e : TypeId} {q : IntKind} {n k : Nat} {zs : List Int}
theorem Filling.cell (h : Filling w g e q n k zs) {i : Nat} (hi : i < k) : w.cell? ⟨g, i, none⟩ = some (.int q (zs.getD i 0)) := by
  obtain ⟨cur, h1, h2, h3⟩ := h
  simp [World.cell?, h1, h3 i hi]
theorem Filling.some (h : Filling w g e q n k zs) {i : Nat} (hi : i < n) : ∃ v, w.cell? ⟨g, i, none⟩ = some v := by
  obtain ⟨cur, h1, h2, h3⟩ := h
  exact ⟨cur[i], by simp [World.cell?, h1]⟩
theorem Filling.frozen (h : Filling w g e q n k zs) {i : Nat} : w.frozen? ⟨g, i, none⟩ = false := by
  obtain ⟨cur, h1, h2, h3⟩ := h
  simp [World.frozen?, h1]
theorem Filling.step (h : Filling w g e q n k zs) (hk : k < n) {v : Value} (hv : v = .int q (zs.getD k 0)) : Filling (w.setCell ⟨g, k, none⟩ v) g e q n (k + 1) zs := by
  subst hv
  obtain ⟨cur, h1, h2, h3⟩ := h
  refine ⟨cur.setIfInBounds k (.int q (zs.getD k 0)), ?_, by simpa using h2, fun i hi => ?_⟩
  · simp [World.setCell, Array.getElem?_modify, h1]
  · by_cases e : i = k
    · subst e; simp [h2, hk]
    · rw [Array.getElem?_setIfInBounds_ne (by omega)]; exact h3 i (by omega)
theorem Filling.start {xs : List Value} {base : Nat} (zs : List Int) (h : w.ownsRow base e 1 (.slice (Option.some ⟨g, 0, none⟩) n n) n xs) : Filling w g e q n 0 zs := by
  obtain ⟨h1, h2⟩ := h
  rcases h2 with ⟨h2, _⟩ | ⟨g', cap, cur, hv, hg, hh, r1, r2, r3, r4⟩
  · cases h2
  · simp at hv
    obtain ⟨rfl, rfl⟩ := hv
    exact ⟨cur, hh, by simpa using r3, fun i hi => by omega⟩
theorem Filling.row (h : Filling w g e q n n zs) (hl : zs.length = n) (hm : n ≤ maxLen) (hf : ∀ z ∈ zs, Fits q z) : RowAt w g w.heap.size q (Option.some ⟨g, 0, none⟩) n n zs := by
  have hg : g < w.heap.size := by
    obtain ⟨cur, h1, h2, h3⟩ := h
    exact (Array.getElem?_eq_some_iff.1 h1).1
  exact ⟨hl, Nat.le_refl _, hm, hf, .inr ⟨g, 0, rfl, Nat.le_refl _, hg, fun i hi => by simpa using h.cell hi⟩⟩
end

end Go.Proofs.Qxb6604181a
