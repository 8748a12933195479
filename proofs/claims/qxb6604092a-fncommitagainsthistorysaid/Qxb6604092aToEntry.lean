import Derived.Test.Qxb6604092aSizes
namespace Go.Proofs.Qxb6604092a
open Go.RowKit

set_option maxHeartbeats 400000 in
theorem toEntry (v0 v1 v2 v3 : Value) (e : Ent) (w : World) (L : Nat) (h : EntV w L w.heap.size v0 v1 v2 v3 e) (hs : SmallE e) :
    Calls Try.prog 44 #[v0, v1, v2, v3] w fun r w' => (∃ u0 u1 u2 u3, r = .returned (.agg #[u0, u1, u2, u3]) ∧ EntV w' w.heap.size w'.heap.size u0 u1 u2 u3 e) ∧ Below w.heap.size w w' := by
  obtain ⟨da, dl, dc, ma, ml, mc, rfl, rfl, rfl, rfl, r1, r2, r3, r4, r5, r6⟩ := h
  have s1 : dl ≤ 1048576 := by rw [← r1.1]; exact hs.1
  have s2 : ml ≤ 1048576 := by rw [← r3.1]; exact hs.2.1
  go_enter Try.func44, Try.ntmps44
  go_wp2_with fail
  have b0 : Below w.heap.size w (w.alloc (Obj.cells #[Value.int IntKind.u64 0, Value.slice none 0 0, Value.slice none 0 0, Value.string { data := #[] }] 51)) := (Below.refl _ _).alloc (Nat.le_refl _) _
  refine (copyBytes da dl dc e.data _ L (r1.keep (.of_below b0) (Nat.le_refl _) (by simp)) s1).mono ?_
  rintro _ w1 ⟨a1, n1, c1, rfl, q1, q2, q3⟩
  obtain ⟨hc, hf⟩ := bcell q3
  have hz : w.heap.size + 1 ≤ w1.heap.size := by have := q3.size; simpa using this
  have b1 : Below w.heap.size w w1 := b0.trans (q3.mono (by simp))
  go_wp2_with fail
  refine (toIDs ma ml mc e.mems _ L (r3.keep (.of_below b1) (Nat.le_refl _) (by omega)) s2).mono ?_
  rintro _ w2 ⟨a2, n2, c2, rfl, p1, p2, p3⟩
  obtain ⟨hc2, hf2⟩ := bcell p3
  have hz2 : w1.heap.size ≤ w2.heap.size := p3.size
  have hlt : w.heap.size < w1.heap.size := by omega
  have b2 : Below w.heap.size w w2 := b1.trans (p3.mono (by omega))
  go_wp2
  have q1' : RowAt w1 (w.heap.size + 1) w1.heap.size .u8 a1 n1 c1 e.data := by simpa using q1
  refine bodyPost_ret (v := .agg #[.int .u64 e.term, .slice a1 n1 c1, .slice a2 n2 c2, .string e.addr]) (by simp [results, Try.results44, go_sem, hlt, hc2, hc]) rfl ⟨⟨_, _, _, _, rfl, a1, n1, c1, a2, n2, c2, rfl, rfl, rfl, rfl, ?_, q2.trans r2, ?_, p2.trans r4, r5, r6⟩, ?_⟩
  · refine q1'.keep ((Keeps.of_below p3).trans ?_) (by omega) (by simp; omega)
    exact (((Keeps.setCell (.inl (by simp)) _).trans (Keeps.setCell (.inl (by simp)) _)).trans (Keeps.setCell (.inl (by simp)) _)).trans (Keeps.setCell (.inl (by simp)) _)
  · refine p1.keep ?_ (by omega) (by simp)
    exact (((Keeps.setCell (.inl hlt) _).trans (Keeps.setCell (.inl hlt) _)).trans (Keeps.setCell (.inl hlt) _)).trans (Keeps.setCell (.inl hlt) _)
  · exact (((b2.setCell (Nat.le_refl _) _).setCell (Nat.le_refl _) _).setCell (Nat.le_refl _) _).setCell (Nat.le_refl _) _
end Go.Proofs.Qxb6604092a
