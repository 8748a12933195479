import Derived.Test.Qxb6604092aComm
import Derived.Test.Qxb6604092aHold
namespace Go.Proofs.Qxb6604092a
open Go.RowKit
open Go.ChangeMaps (setBlock)

/-- What is committed, the records left unnamed. -/
def Comm (w : World) (L B1 cb mb : Nat) (S : CSt) : Prop := ∃ M, CommAt w L B1 cb mb M S
theorem commit_none {M : List CR} {S : CSt} {idx nt : Int} {e : Ent} (hA : S.A = M.map CR.p) (h : cfind M idx = none) (hc : e.mn = true ∨ ¬ S.chg < idx) :
    (commitStep S ⟨idx, e, nt⟩).1 = { S with A := S.A ++ [⟨idx, e, nt⟩], last := mx S.last idx } := by
  unfold commitStep
  rw [hA, cfind_p, h]
  have hn : ¬ (e.mn = false ∧ S.chg < idx) := fun hx => by
    rcases hc with hc | hc
    · rw [hc] at hx; cases hx.1
    · exact hc hx.2
  simp [hn]
theorem commit_change {M : List CR} {S : CSt} {idx nt : Int} {e : Ent} (hA : S.A = M.map CR.p) (h : cfind M idx = none) (h1 : e.mn = false) (h2 : S.chg < idx) :
    (commitStep S ⟨idx, e, nt⟩).1 = { A := S.A ++ [⟨idx, e, nt⟩], last := mx S.last idx, chg := idx, mn := e.mn, ms := e.mems } := by
  unfold commitStep
  rw [hA, cfind_p, h]
  simp [h1, h2]

set_option maxRecDepth 20000 in
set_option maxHeartbeats 4000000 in
theorem commit_new (cb mb : Nat) (idx nt : Int) (v0 v1 v2 v3 : Value) (e : Ent) (M : List CR) (S : CSt) (w : World) (L B1 : Nat) (hE : EntV w L B1 v0 v1 v2 v3 e) (hC : CommAt w L B1 cb mb M S) (hfd : cfind M idx = none) :
    Calls Try.prog 51 #[.pointer (some ⟨cb, 0, none⟩), .agg #[.int .u64 idx, v0, v1, v2, v3], .int .u64 nt] w fun r w' => r = .returned (.tuple #[.bool true, .bool true]) ∧ Comm w' L B1 cb mb (commitStep S ⟨idx, e, nt⟩).1 ∧ Below B1 w w' := by
  have hB1 := hC.2.2.1
  have hA := hC.2.2.2.2.2.2.2
  have HA : Hid (S.A = M.map CR.p) := hA
  clear hA
  obtain ⟨da, dl, dc, ma, ml, mc, rfl, rfl, rfl, rfl, rest⟩ := hE
  have b1 : Below w.heap.size w (w.alloc (Obj.cells #[.int .u64 idx, .int .u64 e.term, .slice da dl dc, .slice ma ml mc, .string e.addr] 70)) := (Below.refl _ _).alloc (Nat.le_refl _) _
  obtain ⟨W1, hW1⟩ : ∃ W1, W1 = w.alloc (Obj.cells #[.int .u64 idx, .int .u64 e.term, .slice da dl dc, .slice ma ml mc, .string e.addr] 70) := ⟨_, rfl⟩
  have e0 : W1.heap[w.heap.size]? = some (Obj.cells #[.int .u64 idx, .int .u64 e.term, .slice da dl dc, .slice ma ml mc, .string e.addr] 70) := by rw [hW1]; exact heap_alloc_new _ _
  have hsz : W1.heap.size = w.heap.size + 1 := by rw [hW1]; simp
  have hC1 : CommAt W1 L B1 cb mb M S := by rw [hW1]; exact hC.below b1
  rw [← hW1] at b1
  have hE1 : EntV W1 L B1 (.int .u64 e.term) (.slice da dl dc) (.slice ma ml mc) (.string e.addr) e := EntV.keep ⟨da, dl, dc, ma, ml, mc, rfl, rfl, rfl, rfl, rest⟩ ((Keeps.of_below b1).mono (Nat.le_refl _) hB1) (Nat.le_refl _) (Nat.le_refl _)
  have HBL : Below B1 w W1 := b1.mono hB1
  have k0 : W1.cell? ⟨w.heap.size, 0, none⟩ = some (.int .u64 idx) := by simp [World.cell?, e0]
  have k1 : W1.cell? ⟨w.heap.size, 1, none⟩ = some (.int .u64 e.term) := by simp [World.cell?, e0]
  have k2 : W1.cell? ⟨w.heap.size, 2, none⟩ = some (.slice da dl dc) := by simp [World.cell?, e0]
  have k3 : W1.cell? ⟨w.heap.size, 3, none⟩ = some (.slice ma ml mc) := by simp [World.cell?, e0]
  have k4 : W1.cell? ⟨w.heap.size, 4, none⟩ = some (.string e.addr) := by simp [World.cell?, e0]
  have c5 := hC1.2.2.2.1.c5
  obtain ⟨esM, clk, hmap, hes⟩ := hC1.2.2.2.2.1
  have hlook : ∀ q, (Instr.lookup 38 (.map (some mb)) (.int .u64 idx) false).run Try.prog (W1.drewN q) = .ok (.pointer none) (W1.drewN q) := fun q => by
    have := run_lookup_idx (W1.drewN q) (M := M) hmap hes idx
    rw [hfd] at this
    exact this
  have hup : ∀ q, (Instr.mapUpdate 38 (.map (some mb)) (.int .u64 idx) (.pointer (some ⟨w.heap.size + 1, 0, none⟩))).run Try.prog ((W1.drewN q).alloc (Obj.cells #[.int .u64 e.term, .slice da dl dc, .slice ma ml mc, .string e.addr, .int .u64 nt] 104)) = .ok () ((setBlock (W1.alloc (Obj.cells #[.int .u64 e.term, .slice da dl dc, .slice ma ml mc, .string e.addr, .int .u64 nt] 104)) mb (.map (esM.push ⟨.int .u64 idx, .pointer (some ⟨w.heap.size + 1, 0, none⟩), clk⟩) (clk + 1))).drewN q) :=
    fun q => run_update_idx ((W1.drewN q).alloc (Obj.cells #[.int .u64 e.term, .slice da dl dc, .slice ma ml mc, .string e.addr, .int .u64 nt] 104)) (M := M) ((Below.heap_alloc _ _ _ (Array.getElem?_eq_some_iff.1 hmap).1).trans hmap) hes idx hfd (.pointer (some ⟨w.heap.size + 1, 0, none⟩))
  have c5' : ∀ q, ((W1.drewN q).alloc (Obj.cells #[.int .u64 e.term, .slice da dl dc, .slice ma ml mc, .string e.addr, .int .u64 nt] 104)).cell? ⟨cb, 5, none⟩ = some (.map (some mb)) := fun q => cell_alloc c5
  have k0' : ∀ q, ((W1.drewN q).alloc (Obj.cells #[.int .u64 e.term, .slice da dl dc, .slice ma ml mc, .string e.addr, .int .u64 nt] 104)).cell? ⟨w.heap.size, 0, none⟩ = some (.int .u64 idx) := fun q => cell_alloc k0
  have HPU := hC1.alloc_push hmap hes hsz idx nt hE1
  have HFD : Hid (cfind M idx = none) := hfd
  have HW1 : Hid (W1 = w.alloc (Obj.cells #[.int .u64 idx, .int .u64 e.term, .slice da dl dc, .slice ma ml mc, .string e.addr] 70)) := hW1
  have hmne : mb ≠ w.heap.size := fun h => by rw [h, e0] at hmap; cases hmap
  clear hfd hW1 hmap hes hC
  go_enter Try.func51, Try.ntmps51
  go_wp2
  rw [← HW1.out]
  go_quiet (fail)
  go_wp2
  go_region
  obtain ⟨W3, hW3⟩ : ∃ W3, W3 = ((setBlock (W1.alloc (Obj.cells #[.int .u64 e.term, .slice da dl dc, .slice ma ml mc, .string e.addr, .int .u64 nt] 104)) mb (.map (esM.push ⟨.int .u64 idx, .pointer (some ⟨w.heap.size + 1, 0, none⟩), clk⟩) (clk + 1))).drewN (nq + 1)) := ⟨_, rfl⟩
  have C3 : CommAt W3 L B1 cb mb (M ++ [⟨⟨idx, e, nt⟩, w.heap.size + 1, clk⟩]) { S with A := S.A ++ [⟨idx, e, nt⟩] } := by rw [hW3]; exact HPU.drewN _
  have hBL3 : Below B1 w W3 := by rw [hW3]; exact below_drewN (below_setBlock (HBL.alloc (by omega) _) hC1.2.1 _) _
  have e3 : W3.heap[w.heap.size]? = some (Obj.cells #[.int .u64 idx, .int .u64 e.term, .slice da dl dc, .slice ma ml mc, .string e.addr] 70) := by
    rw [hW3]
    show (setBlock (W1.alloc _) mb _).heap[w.heap.size]? = _
    simp only [setBlock]
    rw [Array.getElem?_setIfInBounds_ne hmne, Below.heap_alloc _ _ _ (by omega)]
    exact e0
  have hrow : RowAt W3 L B1 .u64 ma ml mc e.mems := by
    have : Keeps L B1 w W3 := Keeps.of_below hBL3
    exact rest.2.2.1.keep this (Nat.le_refl _) (Nat.le_refl _)
  have HEMN : Hid (ma.isNone = e.mn) := rest.2.2.2.1
  rw [← hW3]
  clear hW3 k0 k1 k2 k3 k4 c5 c5' k0' hup hlook HPU e0 hE1 hC1 HBL rest b1 HW1 hsz hmne
  have c6 := C3.2.2.2.1.c6
  have c8 := C3.2.2.2.1.c8
  obtain ⟨xa, xl, xc, c7, _⟩ := C3.2.2.2.1.c7
  have f6 := C3.2.2.2.1.fz 6
  have g0 : W3.cell? ⟨w.heap.size, 0, none⟩ = some (.int .u64 idx) := by simp [World.cell?, e3]
  have g3 : W3.cell? ⟨w.heap.size, 3, none⟩ = some (.slice ma ml mc) := by simp [World.cell?, e3]
  have hmx : (if S.last < idx then idx else S.last) = mx S.last idx := rfl
  have hne : w.heap.size ≠ cb := fun h => by
    obtain ⟨cur, q1, q2, _⟩ := C3.2.2.2.1
    rw [← h, e3] at q1
    cases q1
  go_wp2
  go_region
  obtain ⟨W4, hW4⟩ : ∃ W4, W4 = (W3.setCell ⟨cb, 6, none⟩ (.int .u64 (mx S.last idx))).drew := ⟨_, rfl⟩
  have C4 : CommAt W4 L B1 cb mb (M ++ [⟨⟨idx, e, nt⟩, w.heap.size + 1, clk⟩]) { S with A := S.A ++ [⟨idx, e, nt⟩], last := mx S.last idx } := by
    rw [hW4]; exact C3.own (C3.2.2.2.1.set6 C3.1 _) rfl
  have hBL4 : Below B1 w W4 := by rw [hW4]; exact (hBL3.setCell C3.1 _).drew
  have hrow4 : RowAt W4 L B1 .u64 ma ml mc e.mems := by
    rw [hW4]; exact hrow.keep (Keeps.setCell (.inr C3.1) _) (Nat.le_refl _) (Nat.le_refl _)
  have e4 : W4.heap[w.heap.size]? = some (Obj.cells #[.int .u64 idx, .int .u64 e.term, .slice da dl dc, .slice ma ml mc, .string e.addr] 70) := by
    rw [hW4]; exact (heap_setCell_other W3 _ _ _ hne).trans e3
  rw [← hW4]
  clear hW4 c6 c8 c7 f6 g0 g3 C3 hBL3 e3 hrow hmx
  have c8 := C4.2.2.2.1.c8
  obtain ⟨ya, yl, yc, c7, _⟩ := C4.2.2.2.1.c7
  have f7 := C4.2.2.2.1.fz 7
  have f8 := C4.2.2.2.1.fz 8
  have g0 : W4.cell? ⟨w.heap.size, 0, none⟩ = some (.int .u64 idx) := by simp [World.cell?, e4]
  have g3 : W4.cell? ⟨w.heap.size, 3, none⟩ = some (.slice ma ml mc) := by simp [World.cell?, e4]
  have hnil := fun w a n c => run_neq_slice_nil_any (P := Try.prog) w 39 99 a n c 0 0 Try.underlying39
  cases ma with
  | none =>
    go_wp2
    go_quiet (fail)
    go_wp2
    go_ret2
    rw [commit_none HA.out HFD.out (.inl HEMN.out.symm)]
    exact ⟨rfl, ⟨_, C4.drewN _⟩, below_drewN hBL4 _⟩
  | some x =>
    by_cases hgt : S.chg < idx
    · have HGT : Hid (S.chg < idx) := hgt
      go_wp2
      go_quiet (fail)
      go_wp2
      go_region
      have C5 := C4.own (C4.2.2.2.1.set7 C4.1 hrow4) rfl
      have C6 := C5.own (C5.2.2.2.1.set8 C5.1 idx) rfl
      have hBL6 : Below B1 w ((W4.setCell ⟨cb, 7, none⟩ (.slice (some x) ml mc)).setCell ⟨cb, 8, none⟩ (.int .u64 idx)) := (hBL4.setCell C4.1 _).setCell C4.1 _
      clear C5 g0 g3 f7 f8 c7 c8 hnil
      go_wp2
      go_ret2
      rw [commit_change HA.out HFD.out HEMN.out.symm HGT.out, ← HEMN.out]
      exact ⟨rfl, ⟨_, C6.drewN _⟩, below_drewN hBL6 _⟩
    · have hgt' : decide (S.chg < idx) = false := decide_eq_false hgt
      have HGT : Hid (¬ S.chg < idx) := hgt
      go_wp2
      go_quiet (fail)
      go_wp2
      go_ret2
      rw [commit_none HA.out HFD.out (.inr (by have := HGT.out; omega))]
      exact ⟨rfl, ⟨_, C4.drewN _⟩, below_drewN hBL4 _⟩
end Go.Proofs.Qxb6604092a
