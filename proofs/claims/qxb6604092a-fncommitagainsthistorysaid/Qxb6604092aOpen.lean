import Derived.Test.Qxb6604092aHeap
import Derived.ProofKit
import Derived.OpenShut
import Derived.ShutString
import Derived.ChangeOld
import Derived.Deep.Slices
namespace Go.Proofs.Qxb6604092a
open Go.ChangeShapes Go.WideShapes Go.ChangeAt Go.RowKit Go.Deep

/-! ### The arguments opened: from how they read to what lies in memory -/
section
variable {H : Type} {enc : TypeId × Value → H} {w : World}
theorem Try.cells5 : Try.prog.cellsOf 5 = 1 := by kernel_rfl
theorem Try.cells26 : Try.prog.cellsOf 26 = 1 := by kernel_rfl
theorem Try.cells48 : Try.prog.cellsOf 48 = 4 := by kernel_rfl
theorem Try.cells25 : Try.prog.cellsOf 25 = 1 := by kernel_rfl

/-- A row of integers, out of its reading. -/
theorem open_row {t e : TypeId} {k : IntKind} {fuel : Nat} {cs : List Value} {x : DataW H × List MemPlace} (ht : Try.prog.underlying t = some (.slice e)) (he : Try.prog.underlying e = some (.int k)) (hc : Try.prog.cellsOf e = 1)
    (h : DataW.trod enc Try.prog w 0 (fun _ => true) true fuel t cs = some x) : ∃ a n c zs, cs = [.slice a n c] ∧ RowAt w 0 w.heap.size k a n c zs := by
  rcases open_ints ht he hc h with ⟨rfl, _⟩ | ⟨a, len, cap, zs, rfl, _, hl, hm, hz, _, hcell, hwz⟩
  · exact ⟨none, 0, 0, [], rfl, rfl, Nat.le_refl _, Nat.zero_le _, (fun z hz => by cases hz), .inl rfl⟩
  · simp only [if_true] at hz
    refine ⟨some a, len, cap, zs.take len, rfl, by simp; omega, hl, hm, fun z hz' => hwz z (List.mem_of_mem_take hz'), ?_⟩
    by_cases h0 : len = 0
    · exact .inl h0
    · obtain ⟨b, off, spot⟩ := a
      have hs : spot = none := by simpa [Addr.add] using World.cell?_spot (hcell 0 (by omega))
      subst hs
      have hc0 := hcell 0 (by omega)
      refine .inr ⟨b, off, rfl, Nat.zero_le _, block_lt_of_cell hc0, fun i hi => ?_⟩
      rw [← add_plain, hcell i (by omega)]
      simp [List.getD, hi]

theorem four {α : Type} {l : List α} (h : l.length = 4) : ∃ a b c d, l = [a, b, c, d] := by
  match l, h with
  | [a, b, c, d], _ => exact ⟨a, b, c, d, rfl⟩

set_option maxRecDepth 100000 in
theorem open_ent {fuel : Nat} {cs : List Value} {x : DataW H × List MemPlace} (h : DataW.trod enc Try.prog w 0 (fun _ => true) true fuel 48 cs = some x) :
    ∃ v0 v1 v2 v3 e, cs = [v0, v1, v2, v3] ∧ EntV w 0 w.heap.size v0 v1 v2 v3 e := by
  obtain ⟨xs, n, _, _, hl, hlen, hf⟩ := DataW.trod_struct Try.underlying48 h
  obtain ⟨v0, v1, v2, v3, rfl⟩ := four (hl.trans Try.cells48)
  obtain ⟨y0, y1, y2, y3, rfl⟩ := four hlen
  have h0 : DataW.trod enc Try.prog w 0 (fun _ => true) true n 26 [v0] = some y0 := hf 0 _ rfl
  have h1 : DataW.trod enc Try.prog w 0 (fun _ => true) true n 46 [v1] = some y1 := hf 1 _ rfl
  have h2 : DataW.trod enc Try.prog w 0 (fun _ => true) true n 36 [v2] = some y2 := hf 2 _ rfl
  have h3 : DataW.trod enc Try.prog w 0 (fun _ => true) true n 9 [v3] = some y3 := hf 3 _ rfl
  obtain ⟨t, e0, _, wt⟩ := DataW.trod_int Try.underlying26 h0
  obtain ⟨da, dl, dc, ds, e1, r1⟩ := open_row Try.underlying46 Try.underlying5 Try.cells5 h1
  obtain ⟨ma, ml, mc, ms, e2, r2⟩ := open_row Try.underlying36 Try.underlying26 Try.cells26 h2
  obtain ⟨s, e3, _, ws⟩ := DataW.trod_string Try.underlying9 h3
  simp only [List.cons.injEq, and_true] at e0 e1 e2 e3
  exact ⟨v0, v1, v2, v3, ⟨t, da.isNone, ds, ma.isNone, ms, s⟩, rfl, da, dl, dc, ma, ml, mc, e0, e1, e2, e3, r1, rfl, r2, rfl, wt, ws⟩

/-- A log, out of its reading. -/
theorem open_log {fuel : Nat} {cs : List Value} {x : DataW H × List MemPlace} (h : DataW.trod enc Try.prog w 0 (fun _ => true) true fuel 25 cs = some x) :
    ∃ a n c es, cs = [.slice a n c] ∧ LogAt w 0 w.heap.size a n c es := by
  rcases open_slice Try.underlying25 h with ⟨rfl, _⟩ | ⟨a, len, cap, m, n, D, Pl, rfl, _, hl, hm, hmm, _, hx⟩
  · exact ⟨none, 0, 0, [], rfl, rfl, Nat.le_refl _, Nat.zero_le _, .inl rfl⟩
  · rw [Try.cells48] at hx
    simp only [if_true] at hmm
    have hE : ∀ i, i < len → ∃ e, ∃ v0 v1 v2 v3, w.cells? 0 (a.add (i * 4)) 4 = some [v0, v1, v2, v3] ∧ EntV w 0 w.heap.size v0 v1 v2 v3 e := by
      intro i hi
      obtain ⟨cs', h1, h2⟩ := hx i (by omega)
      obtain ⟨v0, v1, v2, v3, e, rfl, hv⟩ := open_ent h2
      exact ⟨e, v0, v1, v2, v3, h1, hv⟩
    obtain ⟨E, hE⟩ := @choose_lt Ent ⟨ent0⟩ _ _ hE
    refine ⟨some a, len, cap, (List.range len).map E, rfl, by simp, hl, hm, ?_⟩
    by_cases h0 : len = 0
    · exact .inl h0
    · obtain ⟨b, off, spot⟩ := a
      have hs : spot = none := by
        obtain ⟨v0, v1, v2, v3, h1, _⟩ := hE 0 (by omega)
        have := (World.cells?_some h1).2.2 0 (by omega)
        simpa [Addr.add] using World.cell?_spot this
      subst hs
      have key : ∀ i, i < len → EntAt w 0 w.heap.size b (off + i * 4) (E i) := by
        intro i hi
        obtain ⟨v0, v1, v2, v3, h1, h2⟩ := hE i hi
        have hc := (World.cells?_some h1).2.2
        rw [add_plain] at hc
        have c0 := hc 0 (by omega)
        have c1 := hc 1 (by omega)
        have c2 := hc 2 (by omega)
        have c3 := hc 3 (by omega)
        rw [add_plain] at c0 c1 c2 c3
        exact ⟨v0, v1, v2, v3, c0, c1, c2, c3, h2⟩
      obtain ⟨_, _, _, _, c0, _⟩ := key 0 (by omega)
      refine .inr ⟨b, off, rfl, Nat.zero_le _, block_lt_of_cell c0, fun i hi => ?_⟩
      have : ((List.range len).map E).getD i ent0 = E i := by simp [hi]
      rw [this]
      exact key i hi

/-- A slice of logs, out of its reading. -/
theorem open_logs {fuel : Nat} {cs : List Value} {x : DataW H × List MemPlace} (h : DataW.trod enc Try.prog w 0 (fun _ => true) true fuel 58 cs = some x) :
    ∃ a n c ls, cs = [.slice a n c] ∧ LogsAt w 0 w.heap.size a n c ls := by
  rcases open_slice1 Try.underlying58 Try.cells25 h with ⟨rfl, _⟩ | ⟨a, len, cap, m, n, V, D, Pl, rfl, _, hl, hm, hmm, _, hx⟩
  · exact ⟨none, 0, 0, [], rfl, rfl, Nat.le_refl _, Nat.zero_le _, .inl rfl⟩
  · simp only [if_true] at hmm
    have hE : ∀ i, i < len → ∃ es, ∃ la ll lc, w.cell? (a.add i) = some (.slice la ll lc) ∧ LogAt w 0 w.heap.size la ll lc es := by
      intro i hi
      obtain ⟨h1, h2⟩ := hx i (by omega)
      obtain ⟨la, ll, lc, es, e, hv⟩ := open_log h2
      simp only [List.cons.injEq, and_true] at e
      exact ⟨es, la, ll, lc, by rw [h1, e], hv⟩
    obtain ⟨E, hE⟩ := choose_lt hE
    refine ⟨some a, len, cap, (List.range len).map E, rfl, by simp, hl, hm, ?_⟩
    by_cases h0 : len = 0
    · exact .inl h0
    · obtain ⟨b, off, spot⟩ := a
      have hs : spot = none := by
        obtain ⟨_, _, _, h1, _⟩ := hE 0 (by omega)
        simpa [Addr.add] using World.cell?_spot h1
      subst hs
      obtain ⟨_, _, _, c0, _⟩ := hE 0 (by omega)
      rw [add_plain] at c0
      refine .inr ⟨b, off, rfl, Nat.zero_le _, block_lt_of_cell c0, fun i hi => ?_⟩
      have : ((List.range len).map E).getD i [] = E i := by simp [hi]
      rw [this]
      obtain ⟨la, ll, lc, c1, c2⟩ := hE i hi
      rw [add_plain] at c1
      exact ⟨la, ll, lc, c1, c2⟩
end
end Go.Proofs.Qxb6604092a
