import Derived.Test.Qxb6604092aOpen
import Derived.Test.Qxb6604092aHCalls
namespace Go.Proofs.Qxb6604092a
open Go.ChangeShapes Go.WideShapes Go.ChangeAt Go.RowKit Go.Deep

section
variable {H : Type} {enc : TypeId × Value → H} {w : World}
theorem Try.cells28 : Try.prog.cellsOf 28 = 2 := by kernel_rfl

theorem two {α : Type} {l : List α} (h : l.length = 2) : ∃ a b, l = [a, b] := by
  match l, h with
  | [a, b], _ => exact ⟨a, b, rfl⟩

set_option maxRecDepth 100000 in
theorem open_hcall {fuel : Nat} {cs : List Value} {x : DataW H × List MemPlace} (h : DataW.trod enc Try.prog w 0 (fun _ => true) true fuel 28 cs = some x) :
    ∃ (c : HCall) (la : Option Addr) (ll lc : Nat), cs = [.slice la ll lc, .int .u64 c.f] ∧ LogAt w 0 w.heap.size la ll lc c.log ∧ (c.f : Int) ≤ 18446744073709551615 := by
  obtain ⟨xs, n, _, _, hl, hlen, hf⟩ := DataW.trod_struct Try.underlying28 h
  obtain ⟨v0, v1, rfl⟩ := two (hl.trans Try.cells28)
  obtain ⟨y0, y1, rfl⟩ := two hlen
  have h0 : DataW.trod enc Try.prog w 0 (fun _ => true) true n 25 [v0] = some y0 := hf 0 _ rfl
  have h1 : DataW.trod enc Try.prog w 0 (fun _ => true) true n 26 [v1] = some y1 := hf 1 _ rfl
  obtain ⟨la, ll, lc, es, e0, r0⟩ := open_log h0
  obtain ⟨t, e1, _, wt⟩ := DataW.trod_int Try.underlying26 h1
  simp only [List.cons.injEq, and_true] at e0 e1
  subst e0
  subst e1
  have hw : IntKind.u64.min ≤ t ∧ t ≤ IntKind.u64.max := by simpa [Lit.wf] using wt
  have hmin : IntKind.u64.min = 0 := by decide
  have hmax : IntKind.u64.max = 18446744073709551615 := by decide
  rw [hmin, hmax] at hw
  obtain ⟨f, rfl⟩ : ∃ f : Nat, t = f := ⟨t.toNat, by omega⟩
  exact ⟨⟨es, f⟩, la, ll, lc, rfl, r0, hw.2⟩

/-- The calls of hold, out of their reading. -/
theorem open_hcalls {fuel : Nat} {cs : List Value} {x : DataW H × List MemPlace} (h : DataW.trod enc Try.prog w 0 (fun _ => true) true fuel 22 cs = some x) :
    ∃ a n c es, cs = [.slice a n c] ∧ HCallsAt w 0 w.heap.size a n c es := by
  rcases open_slice Try.underlying22 h with ⟨rfl, _⟩ | ⟨a, len, cap, m, n, D, Pl, rfl, _, hl, hm, hmm, _, hx⟩
  · exact ⟨none, 0, 0, [], rfl, rfl, Nat.le_refl _, Nat.zero_le _, .inl rfl⟩
  · rw [Try.cells28] at hx
    simp only [if_true] at hmm
    have hE : ∀ i, i < len → ∃ c : HCall, ∃ la ll lc, w.cells? 0 (a.add (i * 2)) 2 = some [.slice la ll lc, .int .u64 c.f] ∧ LogAt w 0 w.heap.size la ll lc c.log ∧ (c.f : Int) ≤ 18446744073709551615 := by
      intro i hi
      obtain ⟨cs', h1, h2⟩ := hx i (by omega)
      obtain ⟨e, la, ll, lc, rfl, hv⟩ := open_hcall h2
      exact ⟨e, la, ll, lc, h1, hv⟩
    obtain ⟨E, hE⟩ := @choose_lt HCall ⟨hcall0⟩ _ _ hE
    refine ⟨some a, len, cap, (List.range len).map E, rfl, by simp, hl, hm, ?_⟩
    by_cases h0 : len = 0
    · exact .inl h0
    · obtain ⟨b, off, spot⟩ := a
      have hs : spot = none := by
        obtain ⟨la, ll, lc, h1, _⟩ := hE 0 (by omega)
        have := (World.cells?_some h1).2.2 0 (by omega)
        simpa [Addr.add] using World.cell?_spot this
      subst hs
      have key : ∀ i, i < len → HCallAt w 0 w.heap.size b (off + i * 2) (E i) := by
        intro i hi
        obtain ⟨la, ll, lc, h1, h2, h3⟩ := hE i hi
        have hc := (World.cells?_some h1).2.2
        rw [add_plain] at hc
        have c0 := hc 0 (by omega)
        have c1 := hc 1 (by omega)
        rw [add_plain] at c0 c1
        exact ⟨la, ll, lc, c0, c1, h2, h3⟩
      obtain ⟨_, _, _, c0, _⟩ := key 0 (by omega)
      refine .inr ⟨b, off, rfl, Nat.zero_le _, block_lt_of_cell c0, fun i hi => ?_⟩
      have : ((List.range len).map E).getD i hcall0 = E i := by simp [hi]
      rw [this]
      exact key i hi
end
end Go.Proofs.Qxb6604092a
