import Derived.Test.Qxb6604092aCommitNew
namespace Go.Proofs.Qxb6604092a
open Go.RowKit
open Go.ChangeMaps (setBlock)

theorem commit_found {M : List CR} {S : CSt} {idx nt : Int} {e : Ent} {r : CR} (hA : S.A = M.map CR.p) (h : cfind M idx = some r) :
    commitStep S ⟨idx, e, nt⟩ = ({ S with A := lower idx nt S.A }, sameE r.p.e e, decide (nt < r.p.term)) := by
  unfold commitStep
  rw [hA, cfind_p, h]
  rfl

/-- Of what was there, one block alone may have turned. -/
def OnlyAt (pb : Nat) (w w' : World) : Prop := ∀ k, k < w.heap.size → k ≠ pb → w'.heap[k]? = w.heap[k]?

set_option maxRecDepth 20000 in
set_option maxHeartbeats 4000000 in
theorem commit_old (cb mb : Nat) (idx nt : Int) (v0 v1 v2 v3 : Value) (e : Ent) (M : List CR) (S : CSt) (w : World) (L B1 : Nat) (r : CR) (hE : EntV w L B1 v0 v1 v2 v3 e) (hC : CommAt w L B1 cb mb M S) (hfd : cfind M idx = some r) :
    Calls Try.prog 51 #[.pointer (some ⟨cb, 0, none⟩), .agg #[.int .u64 idx, v0, v1, v2, v3], .int .u64 nt] w fun res w' => res = .returned (.tuple #[.bool (sameE r.p.e e), .bool (decide (nt < r.p.term))]) ∧ CommAt w' L B1 cb mb (lowerR idx nt M) { S with A := lower idx nt S.A } ∧ Below B1 w w' ∧ OnlyAt r.pb w w' := by
  have hB1 := hC.2.2.1
  obtain ⟨da, dl, dc, ma, ml, mc, rfl, rfl, rfl, rfl, rest⟩ := hE
  have b1 : Below w.heap.size w (w.alloc (Obj.cells #[.int .u64 idx, .int .u64 e.term, .slice da dl dc, .slice ma ml mc, .string e.addr] 70)) := (Below.refl _ _).alloc (Nat.le_refl _) _
  obtain ⟨W1, hW1⟩ : ∃ W1, W1 = w.alloc (Obj.cells #[.int .u64 idx, .int .u64 e.term, .slice da dl dc, .slice ma ml mc, .string e.addr] 70) := ⟨_, rfl⟩
  have e0 : W1.heap[w.heap.size]? = some (Obj.cells #[.int .u64 idx, .int .u64 e.term, .slice da dl dc, .slice ma ml mc, .string e.addr] 70) := by rw [hW1]; exact heap_alloc_new _ _
  have hC1 : CommAt W1 L B1 cb mb M S := by rw [hW1]; exact hC.below b1
  rw [← hW1] at b1
  have hE1 : EntV W1 L B1 (.int .u64 e.term) (.slice da dl dc) (.slice ma ml mc) (.string e.addr) e := EntV.keep ⟨da, dl, dc, ma, ml, mc, rfl, rfl, rfl, rfl, rest⟩ ((Keeps.of_below b1).mono (Nat.le_refl _) hB1) (Nat.le_refl _) (Nat.le_refl _)
  have HBL : Below B1 w W1 := b1.mono hB1
  have k0 : W1.cell? ⟨w.heap.size, 0, none⟩ = some (.int .u64 idx) := by simp [World.cell?, e0]
  have k1 : W1.cell? ⟨w.heap.size, 1, none⟩ = some (.int .u64 e.term) := by simp [World.cell?, e0]
  have k2 : W1.cell? ⟨w.heap.size, 2, none⟩ = some (.slice da dl dc) := by simp [World.cell?, e0]
  have k3 : W1.cell? ⟨w.heap.size, 3, none⟩ = some (.slice ma ml mc) := by simp [World.cell?, e0]
  have k4 : W1.cell? ⟨w.heap.size, 4, none⟩ = some (.string e.addr) := by simp [World.cell?, e0]
  have c5 := hC1.2.2.2.1.c5
  obtain ⟨esM, clk, hmap, hes⟩ := hC1.2.2.2.2.1
  have hlook : ∀ q, (Instr.lookup 38 (.map (some mb)) (.int .u64 idx) false).run Try.prog (W1.drewN q) = .ok (.pointer (some ⟨r.pb, 0, none⟩)) (W1.drewN q) := fun q => by
    have := run_lookup_idx (W1.drewN q) (M := M) hmap hes idx
    rw [hfd] at this
    exact this
  obtain ⟨hr1, hr2, u0, u1, u2, u3, hrb, hrE⟩ := hC1.2.2.2.2.2.1 r (List.mem_of_find?_eq_some hfd)
  have C3 := hC1.lower (t := nt) hfd
  have p0 : W1.cell? ⟨r.pb, 0, none⟩ = some u0 := by simp [World.cell?, hrb]
  have p1 : W1.cell? ⟨r.pb, 1, none⟩ = some u1 := by simp [World.cell?, hrb]
  have p2 : W1.cell? ⟨r.pb, 2, none⟩ = some u2 := by simp [World.cell?, hrb]
  have p3 : W1.cell? ⟨r.pb, 3, none⟩ = some u3 := by simp [World.cell?, hrb]
  have p4 : W1.cell? ⟨r.pb, 4, none⟩ = some (.int .u64 r.p.term) := by simp [World.cell?, hrb]
  have f4 : W1.frozen? ⟨r.pb, 4, none⟩ = false := by simp [World.frozen?, hrb]
  have hmn : (if nt < r.p.term then nt else r.p.term) = mn2 r.p.term nt := rfl
  have hne : w.heap.size ≠ r.pb := fun h => by
    rw [← h, e0] at hrb
    cases hrb
  have HW1 : Hid (W1 = w.alloc (Obj.cells #[.int .u64 idx, .int .u64 e.term, .slice da dl dc, .slice ma ml mc, .string e.addr] 70)) := hW1
  clear hfd hW1 hmap hes hC rest
  go_enter Try.func51, Try.ntmps51
  go_wp2
  rw [← HW1.out]
  go_quiet (fail)
  go_wp2
  obtain ⟨W3, hW3⟩ : ∃ W3, W3 = ((W1.drewN nq).setCell ⟨r.pb, 4, none⟩ (.int .u64 (mn2 r.p.term nt))) := ⟨_, rfl⟩
  have C3' : CommAt W3 L B1 cb mb (lowerR idx nt M) { S with A := lower idx nt S.A } := by rw [hW3]; exact C3
  have hk3 : Keeps L B1 W1 W3 := by rw [hW3]; exact Keeps.setCell (w := W1) (.inr hr1) _
  have VR := hrE.keep hk3 (Nat.le_refl _) (Nat.le_refl _)
  have VE := hE1.keep hk3 (Nat.le_refl _) (Nat.le_refl _)
  have oth : ∀ (bb oo : Nat), (bb ≠ r.pb ∨ oo ≠ 4) → W3.cell? ⟨bb, oo, none⟩ = W1.cell? ⟨bb, oo, none⟩ := fun bb oo h => by
    rw [hW3]; exact cell_set_other W1 h
  have P0 := (oth _ _ (.inr (by decide))).trans p0
  have P1 := (oth _ _ (.inr (by decide))).trans p1
  have P2 := (oth _ _ (.inr (by decide))).trans p2
  have P3 := (oth _ _ (.inr (by decide))).trans p3
  have K1 := (oth _ _ (.inl hne)).trans k1
  have K2 := (oth _ _ (.inl hne)).trans k2
  have K3 := (oth _ _ (.inl hne)).trans k3
  have K4 := (oth _ _ (.inl hne)).trans k4
  have HON : Hid (OnlyAt r.pb w W3) := fun k hk hne' => by
    rw [hW3, heap_setCell_other _ _ _ _ hne']
    exact b1.block k hk
  have HB3 : Hid (Below B1 w W3) := by rw [hW3]; exact (below_drewN HBL _).setCell hr1 _
  have hpl : r.pb < W3.heap.size := block_lt_of_cell P0
  have hel : w.heap.size < W3.heap.size := block_lt_of_cell K1
  have hBs : B1 ≤ W3.heap.size := C3'.2.2.1
  rw [← hW3]
  clear hW3 oth p0 p1 p2 p3 p4 f4 k0 k1 k2 k3 k4 c5 hlook HBL hrE hE1 hrb hk3 hne hC1 C3 e0 HW1 b1 hmn
  go_region_held3 (fun w' => w'.cell? ⟨r.pb, 0, none⟩ = some u0 ∧ w'.cell? ⟨r.pb, 1, none⟩ = some u1 ∧ w'.cell? ⟨r.pb, 2, none⟩ = some u2 ∧ w'.cell? ⟨r.pb, 3, none⟩ = some u3 ∧ w'.cell? ⟨w.heap.size, 1, none⟩ = some (.int .u64 e.term) ∧ w'.cell? ⟨w.heap.size, 2, none⟩ = some (.slice da dl dc) ∧ w'.cell? ⟨w.heap.size, 3, none⟩ = some (.slice ma ml mc) ∧ w'.cell? ⟨w.heap.size, 4, none⟩ = some (.string e.addr))
    (first | exact ⟨(hcc _ _ hpl).trans P0, (hcc _ _ hpl).trans P1, (hcc _ _ hpl).trans P2, (hcc _ _ hpl).trans P3, (hcc _ _ hel).trans K1, (hcc _ _ hel).trans K2, (hcc _ _ hel).trans K3, (hcc _ _ hel).trans K4⟩ | exact ⟨P0, P1, P2, P3, K1, K2, K3, K4⟩)
    (first | (go_at_call 55; refine (sameEntry u0 u1 u2 u3 _ _ _ _ r.p.e e W3.drew L B1 L B1 (by exact VR) (by exact VE) hBs hBs).mono ?_; rintro _ w5 ⟨rfl, hB5⟩; obtain ⟨hcc, hff⟩ := bcell hB5))
  all_goals
    have HM5 : CommAt w5 L B1 cb mb (lowerR idx nt M) { S with A := lower idx nt S.A } := C3'.below ⟨hB5.os, hB5.tape, hB5.output, hB5.size, hB5.block⟩
    have HB5 : Below B1 w w5 := HB3.out.trans ⟨hB5.os, hB5.tape, hB5.output, hB5.size, fun i hi => hB5.block i (Nat.lt_of_lt_of_le hi hBs)⟩
    have HO5 : OnlyAt r.pb w w5 := fun k hk hne' => (hB5.block k (Nat.lt_of_lt_of_le hk (Nat.le_of_lt hel))).trans (HON.out k hk hne')
    clear hcc hff hB5 P0 P1 P2 P3 K1 K2 K3 K4 VR VE C3' hpl hel
    go_wp2
    go_ret2
    exact ⟨rfl, HM5, HB5, HO5⟩

/-- commit, whatever the index. -/
theorem commit (cb mb : Nat) (idx nt : Int) (v0 v1 v2 v3 : Value) (e : Ent) (S : CSt) (w : World) (L B1 : Nat) (hE : EntV w L B1 v0 v1 v2 v3 e) (hC : Comm w L B1 cb mb S) :
    Calls Try.prog 51 #[.pointer (some ⟨cb, 0, none⟩), .agg #[.int .u64 idx, v0, v1, v2, v3], .int .u64 nt] w fun res w' =>
      res = .returned (.tuple #[.bool (commitStep S ⟨idx, e, nt⟩).2.1, .bool (commitStep S ⟨idx, e, nt⟩).2.2]) ∧ Comm w' L B1 cb mb (commitStep S ⟨idx, e, nt⟩).1 ∧ Below B1 w w' := by
  obtain ⟨M, hC⟩ := hC
  have hA := hC.2.2.2.2.2.2.2
  cases h : cfind M idx with
  | none =>
    have h2 : (commitStep S ⟨idx, e, nt⟩).2 = (true, true) := by
      unfold commitStep
      rw [hA, cfind_p, h]
      rfl
    rw [h2]
    exact commit_new cb mb idx nt v0 v1 v2 v3 e M S w L B1 hE hC h
  | some r =>
    rw [commit_found hA h]
    exact (commit_old cb mb idx nt v0 v1 v2 v3 e M S w L B1 r hE hC h).mono fun res w' ⟨h1, h2, h3, _⟩ => ⟨h1, ⟨_, h2⟩, h3⟩

theorem Comm.below {w w' : World} {L B1 cb mb : Nat} {S : CSt} (h : Comm w L B1 cb mb S) (hb : Below w.heap.size w w') : Comm w' L B1 cb mb S := by
  obtain ⟨M, h⟩ := h
  exact ⟨M, h.below hb⟩
theorem Comm.le {w : World} {L B1 cb mb : Nat} {S : CSt} (h : Comm w L B1 cb mb S) : B1 ≤ w.heap.size := by
  obtain ⟨M, h⟩ := h
  exact h.2.2.1

set_option maxHeartbeats 1000000 in
theorem zzCommit (cb mb : Nat) (idx nt : Int) (v0 v1 v2 v3 : Value) (e : Ent) (S : CSt) (w : World) (L B1 : Nat) (hE : EntV w L B1 v0 v1 v2 v3 e) (hC : Comm w L B1 cb mb S) :
    Calls Try.prog 26 #[.pointer (some ⟨cb, 0, none⟩), .agg #[.int .u64 idx, v0, v1, v2, v3], .int .u64 nt] w fun res w' =>
      res = .returned (.tuple #[.bool (commitStep S ⟨idx, e, nt⟩).2.1, .bool (commitStep S ⟨idx, e, nt⟩).2.2]) ∧ Comm w' L B1 cb mb (commitStep S ⟨idx, e, nt⟩).1 ∧ Below B1 w w' := by
  have hB1 := hC.le
  have hE' := hE
  obtain ⟨da, dl, dc, ma, ml, mc, rfl, rfl, rfl, rfl, rest⟩ := hE
  have b1 : Below w.heap.size w (w.alloc (Obj.cells #[.int .u64 idx, .int .u64 e.term, .slice da dl dc, .slice ma ml mc, .string e.addr] 70)) := (Below.refl _ _).alloc (Nat.le_refl _) _
  have H := commit cb mb idx nt _ _ _ _ e S _ L B1 (hE'.keep ((Keeps.of_below b1).mono (Nat.le_refl _) hB1) (Nat.le_refl _) (Nat.le_refl _)) (hC.below b1)
  clear hE' hC rest
  go_enter Try.func26, Try.ntmps26
  go_wp2_with (go_at_call 51; refine H.mono ?_; rintro _ w1 ⟨rfl, h1, h2⟩)
  go_ret2
  exact ⟨rfl, h1, (b1.mono hB1).trans h2⟩

set_option maxHeartbeats 1000000 in
/-- At an index that was handed before: what has turned, told to the block. -/
theorem zzCommitOld (cb mb : Nat) (idx nt : Int) (v0 v1 v2 v3 : Value) (e : Ent) (M : List CR) (S : CSt) (w : World) (L B1 : Nat) (r : CR) (hE : EntV w L B1 v0 v1 v2 v3 e) (hC : CommAt w L B1 cb mb M S) (hfd : cfind M idx = some r) :
    Calls Try.prog 26 #[.pointer (some ⟨cb, 0, none⟩), .agg #[.int .u64 idx, v0, v1, v2, v3], .int .u64 nt] w fun res w' =>
      res = .returned (.tuple #[.bool (sameE r.p.e e), .bool (decide (nt < r.p.term))]) ∧ CommAt w' L B1 cb mb (lowerR idx nt M) { S with A := lower idx nt S.A } ∧ Below B1 w w' ∧ OnlyAt r.pb w w' := by
  have hB1 := hC.2.2.1
  have hE' := hE
  obtain ⟨da, dl, dc, ma, ml, mc, rfl, rfl, rfl, rfl, rest⟩ := hE
  have b1 : Below w.heap.size w (w.alloc (Obj.cells #[.int .u64 idx, .int .u64 e.term, .slice da dl dc, .slice ma ml mc, .string e.addr] 70)) := (Below.refl _ _).alloc (Nat.le_refl _) _
  have H := commit_old cb mb idx nt _ _ _ _ e M S _ L B1 r (hE'.keep ((Keeps.of_below b1).mono (Nat.le_refl _) hB1) (Nat.le_refl _) (Nat.le_refl _)) (hC.below b1) hfd
  clear hE' hC rest hfd
  go_enter Try.func26, Try.ntmps26
  go_wp2_with (go_at_call 51; refine H.mono ?_; rintro _ w1 ⟨rfl, h1, h2, h3⟩)
  go_ret2
  exact ⟨rfl, h1, (b1.mono hB1).trans h2, fun k hk hne => (h3 k (by simp; omega) hne).trans (b1.block k hk)⟩
end Go.Proofs.Qxb6604092a
