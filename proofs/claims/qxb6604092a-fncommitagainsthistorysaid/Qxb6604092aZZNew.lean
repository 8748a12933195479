import Derived.Test.Qxb6604092aChecker
namespace Go.Proofs.Qxb6604092a
open Go.RowKit

theorem IsMap.mono {B B' : Nat} {w : World} {x : Value} (h : IsMap B w x) (hB : B' ≤ B) : IsMap B' w x := by
  obtain ⟨r, rfl, h1, h2⟩ := h
  exact ⟨r, rfl, by omega, h2⟩
theorem ckOf_one {v x5 x6 x7 x8 x9 x12 x14 x16 : Value} {B : Nat} {w : World} (hv : v.oneCell' = true) (m0 : IsMap B w x5) (m1 : IsMap B w x6) (m2 : IsMap B w x7) (m3 : IsMap B w x8) (m4 : IsMap B w x9) (s7 : IsSlice x12) (s9 : IsSlice x14) (s11 : IsSlice x16) :
    (ckOf v x5 x6 x7 x8 x9 x12 x14 x16).all (·.oneCell') = true := by
  obtain ⟨r0, rfl, _⟩ := m0
  obtain ⟨r1, rfl, _⟩ := m1
  obtain ⟨r2, rfl, _⟩ := m2
  obtain ⟨r3, rfl, _⟩ := m3
  obtain ⟨r4, rfl, _⟩ := m4
  obtain ⟨b0, b1, b2, rfl⟩ := s7
  obtain ⟨b3, b4, b5, rfl⟩ := s9
  obtain ⟨b6, b7, b8, rfl⟩ := s11
  have hv' := hv
  simp only [Value.oneCell'] at hv'
  simp [ckOf, Value.oneCell', hv']

set_option maxHeartbeats 1000000 in
theorem zzNewChecker (ao : Option Addr) (mn mc : Nat) (w : World) :
    Calls Try.prog 10 #[.int .i64 0, .slice ao mn mc] w fun r w' => MadeCk w.heap.size (.slice ao mn mc) r w' ∧ Below w.heap.size w w' := by
  go_enter Try.func10, Try.ntmps10
  go_wp2_with fail
  refine (newChecker ao mn mc _).mono ?_
  rintro _ w1 ⟨⟨x5, x6, x7, x8, x9, x12, x14, x16, rfl, m0, m1, m2, m3, m4, m34, s7, s9, s11⟩, hb⟩
  have h1c := ckOf_one (v := .slice ao mn mc) rfl m0 m1 m2 m3 m4 s7 s9 s11
  have hw1 : w1.heap[w.heap.size]? = some (.cells zeroCk 41 (0, 0)) := by
    rw [hb.block w.heap.size (by simp)]
    exact heap_alloc_new _ _
  have hb' : Below w.heap.size w w1 := ((Below.refl _ _).alloc (Nat.le_refl _) _).trans (hb.mono (by simp))
  have hB : ∀ x, IsMap (w.alloc (Obj.cells zeroCk 41)).heap.size w1 x → IsMap w.heap.size (w1.setRow w.heap.size (ckOf (.slice ao mn mc) x5 x6 x7 x8 x9 x12 x14 x16)) x := by
    rintro _ ⟨r, rfl, q1, q2⟩
    have q1' : w.heap.size + 1 < r := by simpa using q1
    exact ⟨r, rfl, by omega, (setRow_other _ _ _ _ (by omega)).trans q2⟩
  have M0 := hB _ m0
  have M1 := hB _ m1
  have M2 := hB _ m2
  have M3 := hB _ m3
  have M4 := hB _ m4
  have hrow := setRow_heap w1 w.heap.size zeroCk (ckOf (.slice ao mn mc) x5 x6 x7 x8 x9 x12 x14 x16) 41 (0, 0) hw1
  clear hB m0 m1 m2 m3 m4 hb
  have HW : Hid (w1.heap[w.heap.size]? = some (.cells zeroCk 41 (0, 0))) := hw1
  have HR : Hid _ := hrow
  clear hw1 hrow
  go_wp2_with (refine wpList_store_row rfl 41 _ _ rfl w.heap.size _ rfl rfl 41 zeroCk HW.out (by kernel_rfl) rfl h1c ?_)
  exact bodyPost_ret (v := .agg (ckOf (.slice ao mn mc) x5 x6 x7 x8 x9 x12 x14 x16)) (results_cell_row Try.results10 _ _ w.heap.size 41 _ (0, 0) _ rfl HR.out Try.underlying41 rfl (by kernel_rfl)) rfl ⟨⟨x5, x6, x7, x8, x9, x12, x14, x16, rfl, M0, M1, M2, M3, M4, m34, s7, s9, s11⟩, below_setRow hb' (Nat.le_refl _) _⟩
end Go.Proofs.Qxb6604092a
