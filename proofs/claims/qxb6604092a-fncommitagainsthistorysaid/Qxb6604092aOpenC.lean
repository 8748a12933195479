import Derived.Test.Qxb6604092aOpen
import Derived.Test.Qxb6604092aCalls
namespace Go.Proofs.Qxb6604092a
open Go.ChangeShapes Go.WideShapes Go.ChangeAt Go.RowKit Go.Deep

section
variable {H : Type} {enc : TypeId × Value → H} {w : World}
theorem Try.cells72 : Try.prog.cellsOf 72 = 6 := by kernel_rfl

theorem six {α : Type} {l : List α} (h : l.length = 6) : ∃ a b c d e f, l = [a, b, c, d, e, f] := by
  match l, h with
  | [a, b, c, d, e, f], _ => exact ⟨a, b, c, d, e, f, rfl⟩

set_option maxRecDepth 100000 in
theorem open_call {fuel : Nat} {cs : List Value} {x : DataW H × List MemPlace} (h : DataW.trod enc Try.prog w 0 (fun _ => true) true fuel 72 cs = some x) :
    ∃ (c : CCall) (v0 v1 v2 v3 : Value), cs = [.int .u64 c.idx, v0, v1, v2, v3, .int .u64 c.nt] ∧ EntV w 0 w.heap.size v0 v1 v2 v3 c.e ∧ Fits .u64 c.idx ∧ Fits .u64 c.nt := by
  obtain ⟨xs, n, _, _, hl, hlen, hf⟩ := DataW.trod_struct Try.underlying72 h
  obtain ⟨vi, v0, v1, v2, v3, vn, rfl⟩ := six (hl.trans Try.cells72)
  obtain ⟨yi, y0, y1, y2, y3, yn, rfl⟩ := six hlen
  have hi : DataW.trod enc Try.prog w 0 (fun _ => true) true n 26 [vi] = some yi := hf 0 _ rfl
  have h0 : DataW.trod enc Try.prog w 0 (fun _ => true) true n 26 [v0] = some y0 := hf 1 _ rfl
  have h1 : DataW.trod enc Try.prog w 0 (fun _ => true) true n 46 [v1] = some y1 := hf 2 _ rfl
  have h2 : DataW.trod enc Try.prog w 0 (fun _ => true) true n 36 [v2] = some y2 := hf 3 _ rfl
  have h3 : DataW.trod enc Try.prog w 0 (fun _ => true) true n 9 [v3] = some y3 := hf 4 _ rfl
  have hn : DataW.trod enc Try.prog w 0 (fun _ => true) true n 26 [vn] = some yn := hf 5 _ rfl
  obtain ⟨ti, ei, _, wi⟩ := DataW.trod_int Try.underlying26 hi
  obtain ⟨t, e0, _, wt⟩ := DataW.trod_int Try.underlying26 h0
  obtain ⟨da, dl, dc, ds, e1, r1⟩ := open_row Try.underlying46 Try.underlying5 Try.cells5 h1
  obtain ⟨ma, ml, mc, ms, e2, r2⟩ := open_row Try.underlying36 Try.underlying26 Try.cells26 h2
  obtain ⟨s, e3, _, ws⟩ := DataW.trod_string Try.underlying9 h3
  obtain ⟨tn, en, _, wn⟩ := DataW.trod_int Try.underlying26 hn
  simp only [List.cons.injEq, and_true] at ei e0 e1 e2 e3 en
  subst ei
  subst en
  exact ⟨⟨ti, ⟨t, da.isNone, ds, ma.isNone, ms, s⟩, tn⟩, v0, v1, v2, v3, rfl, ⟨da, dl, dc, ma, ml, mc, e0, e1, e2, e3, r1, rfl, r2, rfl, wt, ws⟩, wi, wn⟩

/-- The calls, out of their reading. -/
theorem open_calls {fuel : Nat} {cs : List Value} {x : DataW H × List MemPlace} (h : DataW.trod enc Try.prog w 0 (fun _ => true) true fuel 61 cs = some x) :
    ∃ a n c es, cs = [.slice a n c] ∧ CallsAt w 0 w.heap.size a n c es := by
  rcases open_slice Try.underlying61 h with ⟨rfl, _⟩ | ⟨a, len, cap, m, n, D, Pl, rfl, _, hl, hm, hmm, _, hx⟩
  · exact ⟨none, 0, 0, [], rfl, rfl, Nat.le_refl _, Nat.zero_le _, .inl rfl⟩
  · rw [Try.cells72] at hx
    simp only [if_true] at hmm
    have hE : ∀ i, i < len → ∃ c : CCall, ∃ v0 v1 v2 v3, w.cells? 0 (a.add (i * 6)) 6 = some [.int .u64 c.idx, v0, v1, v2, v3, .int .u64 c.nt] ∧ EntV w 0 w.heap.size v0 v1 v2 v3 c.e ∧ Fits .u64 c.idx ∧ Fits .u64 c.nt := by
      intro i hi
      obtain ⟨cs', h1, h2⟩ := hx i (by omega)
      obtain ⟨e, v0, v1, v2, v3, rfl, hv⟩ := open_call h2
      exact ⟨e, v0, v1, v2, v3, h1, hv⟩
    obtain ⟨E, hE⟩ := @choose_lt CCall ⟨call0⟩ _ _ hE
    refine ⟨some a, len, cap, (List.range len).map E, rfl, by simp, hl, hm, ?_⟩
    by_cases h0 : len = 0
    · exact .inl h0
    · obtain ⟨b, off, spot⟩ := a
      have hs : spot = none := by
        obtain ⟨v0, v1, v2, v3, h1, _⟩ := hE 0 (by omega)
        have := (World.cells?_some h1).2.2 0 (by omega)
        simpa [Addr.add] using World.cell?_spot this
      subst hs
      have key : ∀ i, i < len → CallAt w 0 w.heap.size b (off + i * 6) (E i) := by
        intro i hi
        obtain ⟨v0, v1, v2, v3, h1, h2, h3, h4⟩ := hE i hi
        have hc := (World.cells?_some h1).2.2
        rw [add_plain] at hc
        have c0 := hc 0 (by omega)
        have c1 := hc 1 (by omega)
        have c2 := hc 2 (by omega)
        have c3 := hc 3 (by omega)
        have c4 := hc 4 (by omega)
        have c5 := hc 5 (by omega)
        rw [add_plain] at c0 c1 c2 c3 c4 c5
        exact ⟨v0, v1, v2, v3, c0, c1, c2, c3, c4, c5, h2, h3, h4⟩
      obtain ⟨_, _, _, _, c0, _⟩ := key 0 (by omega)
      refine .inr ⟨b, off, rfl, Nat.zero_le _, block_lt_of_cell c0, fun i hi => ?_⟩
      have : ((List.range len).map E).getD i call0 = E i := by simp [hi]
      rw [this]
      exact key i hi
end
end Go.Proofs.Qxb6604092a
