import Derived.Test.Qxb6604092aHeld
namespace Go.Proofs.Qxb6604092a
open Go.RowKit
open Go.ChangeMaps (setBlock)

set_option maxHeartbeats 400000 in
theorem lastIndex (a : Option Addr) (n c : Nat) (w : World) (hn : n ≤ 1048576) :
    Calls Try.prog 54 #[.slice a n c] w fun r w' => r = .returned (.int .u64 n) ∧ w = w' := by
  go_enter Try.func54, Try.ntmps54
  go_wp2
  go_ret
  exact ⟨rfl, rfl⟩


theorem cell_alloc {w : World} {p : Addr} {v : Value} {q : Nat} {o : Obj} (h : w.cell? p = some v) : ((w.drewN q).alloc o).cell? p = some v := by
  rw [World.cell?_alloc_some _ _ _ (show ((w.drewN q).cell? p).isSome = true by rw [show (w.drewN q).cell? p = w.cell? p from rfl, h]; rfl)]
  exact h
theorem cell_set_other (w : World) {g o b i : Nat} {v : Value} (h : b ≠ g ∨ i ≠ o) : (w.setCell ⟨g, o, none⟩ v).cell? ⟨b, i, none⟩ = w.cell? ⟨b, i, none⟩ := by
  refine World.cell?_setCell_other _ _ _ _ ?_
  intro e
  cases e
  simp at h
theorem below_setBlock {B hb : Nat} {w0 w : World} (h : Below B w0 w) (hB : B ≤ hb) (o : Obj) : Below B w0 (setBlock w hb o) :=
  h.trans ⟨rfl, rfl, rfl, by simp [setBlock], fun k hk => by simp only [setBlock]; rw [Array.getElem?_setIfInBounds_ne (by omega)]⟩
theorem holdGo_step {es : List Ent} {n k : Nat} {A : List HP} {b : Bool} (h : k ≤ n) : holdGo es (n + 1 - k) k A b = holdGo es (n + 1 - (k + 1)) (k + 1) (holdStep A k (es.getD (k - 1) ent0) (prevT es k)).1 (b && (holdStep A k (es.getD (k - 1) ent0) (prevT es k)).2) := by
  rw [show n + 1 - k = (n + 1 - (k + 1)) + 1 by omega]
  rfl
theorem step_none {M : List HR} {i : Int} {e : Ent} {prev : Int} (h : rfind M i e.term = none) : holdStep (M.map HR.p) i e prev = (M.map HR.p ++ [⟨i, e.term, e, prev, 1⟩], true) := by
  unfold holdStep
  rw [find_p, h]
  rfl
theorem step_some {M : List HR} {i : Int} {e : Ent} {prev : Int} {r : HR} (h : rfind M i e.term = some r) : holdStep (M.map HR.p) i e prev = ((bumpR i e.term M).map HR.p, decide (r.p.prev = prev) && sameE r.p.e e) := by
  unfold holdStep
  rw [find_p, h, bump_p]
  rfl
/-- The state of the walk at the head of a round. -/
def HoldRel (w : World) (L B1 cb hb n f : Nat) (es : List Ent) (A0 : List HP) (ok i : Value) (wr : World) : Prop :=
  ∃ (k : Nat) (b : Bool) (M : List HR), 1 ≤ k ∧ (k : Int) ≤ 18446744073709551615 ∧ (k ≤ n + 1 ∨ k = f) ∧ ok = .bool b ∧ i = .int .u64 k ∧ HeldAt wr L B1 cb hb M ∧ Below B1 w wr ∧ holdGo es (n + 1 - k) k (M.map HR.p) b = holdGo es (n + 1 - f) f A0 true

set_option maxRecDepth 20000 in
set_option maxHeartbeats 4000000 in
theorem hold (a : Option Addr) (n c f cb hb : Nat) (es : List Ent) (M0 : List HR) (w : World) (L B1 : Nat) (hL : LogAt w L B1 a n c es) (hn : n ≤ 1048576) (hf : 1 ≤ f) (hf' : (f : Int) ≤ 18446744073709551615) (hH : HeldAt w L B1 cb hb M0) :
    Calls Try.prog 46 #[.pointer (some ⟨cb, 0, none⟩), .slice a n c, .int .u64 f] w fun r w' => ∃ (M : List HR) (b : Bool), r = .returned (.bool b) ∧ HeldAt w' L B1 cb hb M ∧ Below B1 w w' ∧ (M.map HR.p, b) = holdGo es (n + 1 - f) f (M0.map HR.p) true := by
  have hB1 : B1 ≤ w.heap.size := hH.2.2.1
  go_enter Try.func46, Try.ntmps46
  go_wp2
  go_loopw [7, 8] (fun ok i wr => HoldRel w L B1 cb hb n f es (M0.map HR.p) ok i wr) (fun _ i _ => n + 1 - (intOf i).toNat)
  case atStart => exact ⟨f, true, M0, hf, hf', .inr rfl, rfl, rfl, hH, Below.refl _ _, rfl⟩
  case round =>
    obtain ⟨k, b, M, hk1, hk2, hk3, rfl, rfl, hM, hbl, hgo⟩ := hrel
    have HGO : Hid (holdGo es (n + 1 - k) k (M.map HR.p) b = holdGo es (n + 1 - f) f (M0.map HR.p) true) := hgo
    clear hgo
    by_cases hlt : k ≤ n
    · by_cases hone : k = 1
      · subst hone
        skip
        obtain ⟨bx, ox, rfl, hbx, hcx⟩ := hL.at (i := 0) (by omega)
        have hbw : B1 ≤ wr.heap.size := hM.2.2.1
        have EX := (hcx (0) (by omega))
        generalize hex : es.getD (0) ent0 = ex at EX
        have HEX : Hid (es.getD (0) ent0 = ex) := hex
        obtain ⟨x0, x1, x2, x3, cx0', cx1', cx2', cx3', VX⟩ := EX
        have cx0 := (hbl.cell (p := ⟨bx, _, none⟩) hbx).trans cx0'
        have cx1 := (hbl.cell (p := ⟨bx, _, none⟩) hbx).trans cx1'
        have cx2 := (hbl.cell (p := ⟨bx, _, none⟩) hbx).trans cx2'
        have cx3 := (hbl.cell (p := ⟨bx, _, none⟩) hbx).trans cx3'
        have VX' := VX.keep (Keeps.of_below hbl) (Nat.le_refl _) (Nat.le_refl _)
        clear cx0' cx1' cx2' cx3' hex VX hk2 hf' hk3
        have hbx' : bx < wr.heap.size := by omega
        have hhb : B1 ≤ hb := hM.2.1
        have hcbl : cb < wr.heap.size := block_lt_of_cell hM.2.2.2.1
        simp only [Nat.zero_mul, Nat.add_zero] at cx0 cx1 cx2 cx3
        obtain ⟨da, dl, dc, ma, ml, mc, rfl, rfl, rfl, rfl, rest⟩ := VX'
        go_wp2_with (go_at_call 54; refine (lastIndex _ _ _ _ hn).mono ?_; rintro _ w1 ⟨rfl, rfl⟩)
        have b2 : Below wr.heap.size wr ((wr.alloc (Obj.cells #[.int .u64 ex.term, .slice da dl dc, .slice ma ml mc, .string ex.addr] 51)).alloc (Obj.cells #[.int .u64 (1), .int .u64 ex.term] 94)) := ((Below.refl _ _).alloc (Nat.le_refl _) _).alloc (by simp) _
        obtain ⟨W2, hW2⟩ : ∃ W2, W2 = ((wr.alloc (Obj.cells #[.int .u64 ex.term, .slice da dl dc, .slice ma ml mc, .string ex.addr] 51)).alloc (Obj.cells #[.int .u64 (1), .int .u64 ex.term] 94)) := ⟨_, rfl⟩
        have e0 : W2.heap[wr.heap.size]? = some (Obj.cells #[.int .u64 ex.term, .slice da dl dc, .slice ma ml mc, .string ex.addr] 51) := by rw [hW2]; exact heap_alloc2_old _ _ _
        have e1 : W2.heap[wr.heap.size + 1]? = some (Obj.cells #[.int .u64 (1), .int .u64 ex.term] 94) := by rw [hW2]; exact heap_alloc2_new _ _ _
        have hsz : W2.heap.size = wr.heap.size + 2 := by rw [hW2]; simp
        rw [← hW2] at b2 ⊢
        have HM2 : HeldAt W2 L B1 cb hb M := hM.below b2
        have k0 : W2.cell? ⟨wr.heap.size, 0, none⟩ = some (.int .u64 ex.term) := by simp [World.cell?, e0]
        have k1 : W2.cell? ⟨wr.heap.size, 1, none⟩ = some (.slice da dl dc) := by simp [World.cell?, e0]
        have k2 : W2.cell? ⟨wr.heap.size, 2, none⟩ = some (.slice ma ml mc) := by simp [World.cell?, e0]
        have k3 : W2.cell? ⟨wr.heap.size, 3, none⟩ = some (.string ex.addr) := by simp [World.cell?, e0]
        have q0 : W2.cell? ⟨wr.heap.size + 1, 0, none⟩ = some (.int .u64 (1)) := by simp [World.cell?, e1]
        have q1 : W2.cell? ⟨wr.heap.size + 1, 1, none⟩ = some (.int .u64 ex.term) := by simp [World.cell?, e1]
        have c4 := HM2.2.2.2.1
        obtain ⟨esM, clk, hmap, hes⟩ := HM2.2.2.2.2.1
        have hlook : ∀ q, (Instr.lookup 37 (.map (some hb)) (.agg #[.int .u64 (1), .int .u64 ex.term]) false).run Try.prog (W2.drewN q) = .ok (.pointer ((rfind M (1) ex.term).map fun r => ⟨r.pb, 0, none⟩)) (W2.drewN q) := fun q => by
          have := run_lookup_pos (W2.drewN q) (M := M.map HR.toRec) hmap hes (1) ex.term
          rw [ptr_rec] at this
          exact this
        have rest' : EntV W2 L B1 (.int .u64 ex.term) (.slice da dl dc) (.slice ma ml mc) (.string ex.addr) ex := EntV.keep ⟨da, dl, dc, ma, ml, mc, rfl, rfl, rfl, rfl, rest⟩ ((Keeps.of_below b2).mono (Nat.le_refl _) hbw) (Nat.le_refl _) (Nat.le_refl _)
        have HBL : Below B1 w W2 := hbl.trans (b2.mono hbw)
        have kz : W2.cell? ⟨wr.heap.size, 4, none⟩ = none := by simp [World.cell?, e0]
        clear hW2 e0 e1 hM cx0 cx1 cx2 cx3 hcx rest hbl hL hH
        cases hfd : rfind M (1) ex.term with
        | none =>
          rw [hfd] at hlook
          simp only [Option.map_none] at hlook
          have HFD : Hid (rfind M (1) ex.term = none) := hfd
          have hup : ∀ q, (Instr.mapUpdate 37 (.map (some hb)) (.agg #[.int .u64 (1), .int .u64 ex.term]) (.pointer (some ⟨wr.heap.size + 2, 0, none⟩))).run Try.prog ((W2.drewN q).alloc (Obj.cells #[.int .u64 ex.term, .slice da dl dc, .slice ma ml mc, .string ex.addr, .int .u64 (0), .int .i64 1] 96)) = .ok () ((setBlock (W2.alloc (Obj.cells #[.int .u64 ex.term, .slice da dl dc, .slice ma ml mc, .string ex.addr, .int .u64 (0), .int .i64 1] 96)) hb (.map (esM.push ⟨posKey (1) ex.term, .pointer (some ⟨wr.heap.size + 2, 0, none⟩), clk⟩) (clk + 1))).drewN q) :=
            fun q => run_update_pos ((W2.drewN q).alloc (Obj.cells #[.int .u64 ex.term, .slice da dl dc, .slice ma ml mc, .string ex.addr, .int .u64 (0), .int .i64 1] 96)) (M := M.map HR.toRec) ((Below.heap_alloc _ _ _ (Array.getElem?_eq_some_iff.1 hmap).1).trans hmap) hes (1) ex.term (by rw [hfind_rec, hfd]; rfl) (.pointer (some ⟨wr.heap.size + 2, 0, none⟩))
          have c4' : ∀ q, ((W2.drewN q).alloc (Obj.cells #[.int .u64 ex.term, .slice da dl dc, .slice ma ml mc, .string ex.addr, .int .u64 (0), .int .i64 1] 96)).cell? ⟨cb, 4, none⟩ = some (.map (some hb)) := fun q => cell_alloc c4
          have q0' : ∀ q, ((W2.drewN q).alloc (Obj.cells #[.int .u64 ex.term, .slice da dl dc, .slice ma ml mc, .string ex.addr, .int .u64 (0), .int .i64 1] 96)).cell? ⟨wr.heap.size + 1, 0, none⟩ = some (.int .u64 (1)) := fun q => cell_alloc q0
          have q1' : ∀ q, ((W2.drewN q).alloc (Obj.cells #[.int .u64 ex.term, .slice da dl dc, .slice ma ml mc, .string ex.addr, .int .u64 (0), .int .i64 1] 96)).cell? ⟨wr.heap.size + 1, 1, none⟩ = some (.int .u64 ex.term) := fun q => cell_alloc q1
          have HPU := HM2.alloc_push hmap hes hsz (1) (0) rest' hcbl
          clear hfd
          go_quiet (fail)
          go_wp2
          clear hmap hes hlook
          go_region
          clear c4' q0' q1' hup k0 k1 k2 k3
          go_wp2
          go_roundw
          case rel =>
            refine ⟨1 + 1, b, _, by omega, by omega, by omega, rfl, by go_num, HPU.drewN _, below_drewN (below_setBlock (HBL.alloc (by omega) _) hhb _) _, ?_⟩
            rw [← HGO.out, holdGo_step hlt, show (1) - 1 = 0 from rfl, HEX.out, show prevT es 1 = 0 from rfl, show (((1 : Nat)) : Int) = 1 from rfl, step_none (M := M) HFD.out]
            simp
          case measure => simp [intOf]; omega
        | some r =>
          rw [hfd] at hlook
          simp only [Option.map_some] at hlook
          have HFD : Hid (rfind M (1) ex.term = some r) := hfd
          obtain ⟨hr1, hr2, v0, v1, v2, v3, hrb, hrE⟩ := HM2.2.2.2.2.2.1 r (List.mem_of_find?_eq_some hfd)
          have HM3 := HM2.bump hfd
          have p0 : W2.cell? ⟨r.pb, 0, none⟩ = some v0 := by simp [World.cell?, hrb]
          have p1 : W2.cell? ⟨r.pb, 1, none⟩ = some v1 := by simp [World.cell?, hrb]
          have p2 : W2.cell? ⟨r.pb, 2, none⟩ = some v2 := by simp [World.cell?, hrb]
          have p3 : W2.cell? ⟨r.pb, 3, none⟩ = some v3 := by simp [World.cell?, hrb]
          have p4 : W2.cell? ⟨r.pb, 4, none⟩ = some (.int .u64 r.p.prev) := by simp [World.cell?, hrb]
          have p5 : W2.cell? ⟨r.pb, 5, none⟩ = some (.int .i64 r.p.cnt) := by simp [World.cell?, hrb]
          have f5 : W2.frozen? ⟨r.pb, 5, none⟩ = false := by simp [World.frozen?, hrb]
          have hne : wr.heap.size ≠ r.pb := fun e => by
            rw [← e] at p4
            have h4 : W2.cell? ⟨wr.heap.size, 4, none⟩ = none := kz
            rw [h4] at p4
            cases p4
          clear hfd
          go_quiet (fail)
          go_wp2
          obtain ⟨W3, hW3⟩ : ∃ W3, W3 = ((W2.drewN nq).setCell ⟨r.pb, 5, none⟩ (.int .i64 (wrap64 (r.p.cnt + 1)))) := ⟨_, rfl⟩
          have HM3' : HeldAt W3 L B1 cb hb (bumpR (1) ex.term M) := by rw [hW3]; exact HM3
          have hk3 : Keeps L B1 W2 W3 := by rw [hW3]; exact Keeps.setCell (w := W2) (.inr hr1) _
          have VR := hrE.keep hk3 (Nat.le_refl _) (Nat.le_refl _)
          have VE := rest'.keep hk3 (Nat.le_refl _) (Nat.le_refl _)
          have hs3 : W3.heap.size = W2.heap.size := by rw [hW3]; simp [World.setCell]
          have oth : ∀ (bb oo : Nat), (bb ≠ r.pb ∨ oo ≠ 5) → W3.cell? ⟨bb, oo, none⟩ = W2.cell? ⟨bb, oo, none⟩ := fun bb oo h => by
            rw [hW3]; exact cell_set_other W2 h
          have P0 := (oth _ _ (.inr (by decide))).trans p0
          have P1 := (oth _ _ (.inr (by decide))).trans p1
          have P2 := (oth _ _ (.inr (by decide))).trans p2
          have P3 := (oth _ _ (.inr (by decide))).trans p3
          have P4 := (oth _ _ (.inr (by decide))).trans p4
          have K0 := (oth _ _ (.inl hne)).trans k0
          have K1 := (oth _ _ (.inl hne)).trans k1
          have K2 := (oth _ _ (.inl hne)).trans k2
          have K3 := (oth _ _ (.inl hne)).trans k3
          have hbW3 : Below B1 w W3 := by rw [hW3]; exact (below_drewN HBL _).setCell hr1 _
          have HB3 : Hid (Below B1 w W3) := hbW3
          have hpl : r.pb < W3.heap.size := block_lt_of_cell P0
          have hel : wr.heap.size < W3.heap.size := block_lt_of_cell K0
          have hBs : B1 ≤ W3.heap.size := HM3'.2.2.1
          rw [← hW3]
          clear hW3 oth p0 p1 p2 p3 p4 p5 f5 k0 k1 k2 k3 q0 q1 c4 hmap hes hlook hbW3 HM3 hrE rest' hrb hk3 hne kz HM2
          cases b with
          | false =>
            go_quiet (fail)
            go_wp2
            go_roundw
            case rel =>
              refine ⟨1 + 1, false, _, by omega, by omega, by omega, rfl, by go_num, HM3'.drewN _, below_drewN HB3.out _, ?_⟩
              rw [← HGO.out, holdGo_step hlt, show (1) - 1 = 0 from rfl, HEX.out, show prevT es 1 = 0 from rfl, show (((1 : Nat)) : Int) = 1 from rfl, step_some (M := M) HFD.out]
              simp
            case measure => simp [intOf]; omega
          | true =>
            by_cases hpr : r.p.prev = 0
            · have hpr' : (r.p.prev == 0) = true := by simpa using hpr
              have HPR : Hid (r.p.prev = 0) := hpr
              clear hpr
              go_region_held3 (fun w' => w'.cell? ⟨r.pb, 0, none⟩ = some v0 ∧ w'.cell? ⟨r.pb, 1, none⟩ = some v1 ∧ w'.cell? ⟨r.pb, 2, none⟩ = some v2 ∧ w'.cell? ⟨r.pb, 3, none⟩ = some v3 ∧ w'.cell? ⟨r.pb, 4, none⟩ = some (.int .u64 r.p.prev) ∧ w'.cell? ⟨wr.heap.size, 0, none⟩ = some (.int .u64 ex.term) ∧ w'.cell? ⟨wr.heap.size, 1, none⟩ = some (.slice da dl dc) ∧ w'.cell? ⟨wr.heap.size, 2, none⟩ = some (.slice ma ml mc) ∧ w'.cell? ⟨wr.heap.size, 3, none⟩ = some (.string ex.addr))
                (first | exact ⟨(hcc _ _ hpl).trans P0, (hcc _ _ hpl).trans P1, (hcc _ _ hpl).trans P2, (hcc _ _ hpl).trans P3, (hcc _ _ hpl).trans P4, (hcc _ _ hel).trans K0, (hcc _ _ hel).trans K1, (hcc _ _ hel).trans K2, (hcc _ _ hel).trans K3⟩ | exact ⟨P0, P1, P2, P3, P4, K0, K1, K2, K3⟩)
                (first | (go_at_call 55; refine (sameEntry v0 v1 v2 v3 _ _ _ _ r.p.e ex W3.drew L B1 L B1 (by exact VR) (by exact VE) hBs hBs).mono ?_; rintro _ w5 ⟨rfl, hB5⟩; obtain ⟨hcc, hff⟩ := bcell hB5))
              have HM5 : HeldAt w5 L B1 cb hb (bumpR (1) ex.term M) := HM3'.below ⟨hB5.os, hB5.tape, hB5.output, hB5.size, hB5.block⟩
              have HB5 : Below B1 w w5 := HB3.out.trans ⟨hB5.os, hB5.tape, hB5.output, hB5.size, fun i hi => hB5.block i (Nat.lt_of_lt_of_le hi hBs)⟩
              clear hcc hff hB5 P0 P1 P2 P3 P4 K0 K1 K2 K3 VR VE HM3' hpl hel
              go_wp2
              go_roundw
              case rel =>
                refine ⟨1 + 1, sameE r.p.e ex, _, by omega, by omega, by omega, rfl, by go_num, HM5, HB5, ?_⟩
                rw [← HGO.out, holdGo_step hlt, show (1) - 1 = 0 from rfl, HEX.out, show prevT es 1 = 0 from rfl, show (((1 : Nat)) : Int) = 1 from rfl, step_some (M := M) HFD.out, decide_eq_true HPR.out]
                simp
              case measure => simp [intOf]; omega
            · have hpr' : (r.p.prev == 0) = false := by simpa using hpr
              have HPR : Hid (¬ r.p.prev = 0) := hpr
              clear hpr
              go_quiet (fail)
              go_wp2
              go_roundw
              case rel =>
                refine ⟨1 + 1, false, _, by omega, by omega, by omega, rfl, by go_num, HM3'.drewN _, below_drewN HB3.out _, ?_⟩
                rw [← HGO.out, holdGo_step hlt, show (1) - 1 = 0 from rfl, HEX.out, show prevT es 1 = 0 from rfl, show (((1 : Nat)) : Int) = 1 from rfl, step_some (M := M) HFD.out, decide_eq_false HPR.out]
                simp
              case measure => simp [intOf]; omega
  
      · obtain ⟨i, rfl⟩ : ∃ i, k = i + 2 := ⟨k - 2, by omega⟩
        skip
        obtain ⟨bx, ox, rfl, hbx, hcx⟩ := hL.at (i := i + 1) (by omega)
        have hbw : B1 ≤ wr.heap.size := hM.2.2.1
        have EX := (hcx (i + 1) (by omega))
        generalize hex : es.getD (i + 1) ent0 = ex at EX
        have HEX : Hid (es.getD (i + 1) ent0 = ex) := hex
        obtain ⟨x0, x1, x2, x3, cx0', cx1', cx2', cx3', VX⟩ := EX
        have cx0 := (hbl.cell (p := ⟨bx, _, none⟩) hbx).trans cx0'
        have cx1 := (hbl.cell (p := ⟨bx, _, none⟩) hbx).trans cx1'
        have cx2 := (hbl.cell (p := ⟨bx, _, none⟩) hbx).trans cx2'
        have cx3 := (hbl.cell (p := ⟨bx, _, none⟩) hbx).trans cx3'
        have VX' := VX.keep (Keeps.of_below hbl) (Nat.le_refl _) (Nat.le_refl _)
        clear cx0' cx1' cx2' cx3' hex VX hk2 hf' hk3
        have hbx' : bx < wr.heap.size := by omega
        have hhb : B1 ≤ hb := hM.2.1
        have hcbl : cb < wr.heap.size := block_lt_of_cell hM.2.2.2.1
        obtain ⟨da, dl, dc, ma, ml, mc, rfl, rfl, rfl, rfl, rest⟩ := VX'
        obtain ⟨y0, y1, y2, y3, cy0', _, _, _, ya, yb, yc, yd, ye, yf, rfl, _⟩ := hcx i (by omega)
        have cy0 := (hbl.cell (p := ⟨bx, _, none⟩) hbx).trans cy0'
        generalize hpt : (es.getD i ent0).term = pt at cy0
        have HPT : Hid ((es.getD i ent0).term = pt) := hpt
        clear hpt cy0'
        go_wp2_with (go_at_call 54; refine (lastIndex _ _ _ _ hn).mono ?_; rintro _ w1 ⟨rfl, rfl⟩)
        have b2 : Below wr.heap.size wr ((wr.alloc (Obj.cells #[.int .u64 ex.term, .slice da dl dc, .slice ma ml mc, .string ex.addr] 51)).alloc (Obj.cells #[.int .u64 (↑i + 2), .int .u64 ex.term] 94)) := ((Below.refl _ _).alloc (Nat.le_refl _) _).alloc (by simp) _
        obtain ⟨W2, hW2⟩ : ∃ W2, W2 = ((wr.alloc (Obj.cells #[.int .u64 ex.term, .slice da dl dc, .slice ma ml mc, .string ex.addr] 51)).alloc (Obj.cells #[.int .u64 (↑i + 2), .int .u64 ex.term] 94)) := ⟨_, rfl⟩
        have e0 : W2.heap[wr.heap.size]? = some (Obj.cells #[.int .u64 ex.term, .slice da dl dc, .slice ma ml mc, .string ex.addr] 51) := by rw [hW2]; exact heap_alloc2_old _ _ _
        have e1 : W2.heap[wr.heap.size + 1]? = some (Obj.cells #[.int .u64 (↑i + 2), .int .u64 ex.term] 94) := by rw [hW2]; exact heap_alloc2_new _ _ _
        have hsz : W2.heap.size = wr.heap.size + 2 := by rw [hW2]; simp
        rw [← hW2] at b2 ⊢
        have HM2 : HeldAt W2 L B1 cb hb M := hM.below b2
        have k0 : W2.cell? ⟨wr.heap.size, 0, none⟩ = some (.int .u64 ex.term) := by simp [World.cell?, e0]
        have k1 : W2.cell? ⟨wr.heap.size, 1, none⟩ = some (.slice da dl dc) := by simp [World.cell?, e0]
        have k2 : W2.cell? ⟨wr.heap.size, 2, none⟩ = some (.slice ma ml mc) := by simp [World.cell?, e0]
        have k3 : W2.cell? ⟨wr.heap.size, 3, none⟩ = some (.string ex.addr) := by simp [World.cell?, e0]
        have q0 : W2.cell? ⟨wr.heap.size + 1, 0, none⟩ = some (.int .u64 (↑i + 2)) := by simp [World.cell?, e1]
        have q1 : W2.cell? ⟨wr.heap.size + 1, 1, none⟩ = some (.int .u64 ex.term) := by simp [World.cell?, e1]
        have c4 := HM2.2.2.2.1
        obtain ⟨esM, clk, hmap, hes⟩ := HM2.2.2.2.2.1
        have hlook : ∀ q, (Instr.lookup 37 (.map (some hb)) (.agg #[.int .u64 (↑i + 2), .int .u64 ex.term]) false).run Try.prog (W2.drewN q) = .ok (.pointer ((rfind M (↑i + 2) ex.term).map fun r => ⟨r.pb, 0, none⟩)) (W2.drewN q) := fun q => by
          have := run_lookup_pos (W2.drewN q) (M := M.map HR.toRec) hmap hes (↑i + 2) ex.term
          rw [ptr_rec] at this
          exact this
        have rest' : EntV W2 L B1 (.int .u64 ex.term) (.slice da dl dc) (.slice ma ml mc) (.string ex.addr) ex := EntV.keep ⟨da, dl, dc, ma, ml, mc, rfl, rfl, rfl, rfl, rest⟩ ((Keeps.of_below b2).mono (Nat.le_refl _) hbw) (Nat.le_refl _) (Nat.le_refl _)
        have HBL : Below B1 w W2 := hbl.trans (b2.mono hbw)
        have kz : W2.cell? ⟨wr.heap.size, 4, none⟩ = none := by simp [World.cell?, e0]
        clear hW2 e0 e1 hM cx0 cx1 cx2 cx3 hcx rest hbl hL hH
        cases hfd : rfind M (↑i + 2) ex.term with
        | none =>
          rw [hfd] at hlook
          simp only [Option.map_none] at hlook
          have HFD : Hid (rfind M (↑i + 2) ex.term = none) := hfd
          have hup : ∀ q, (Instr.mapUpdate 37 (.map (some hb)) (.agg #[.int .u64 (↑i + 2), .int .u64 ex.term]) (.pointer (some ⟨wr.heap.size + 2, 0, none⟩))).run Try.prog ((W2.drewN q).alloc (Obj.cells #[.int .u64 ex.term, .slice da dl dc, .slice ma ml mc, .string ex.addr, .int .u64 (pt), .int .i64 1] 96)) = .ok () ((setBlock (W2.alloc (Obj.cells #[.int .u64 ex.term, .slice da dl dc, .slice ma ml mc, .string ex.addr, .int .u64 (pt), .int .i64 1] 96)) hb (.map (esM.push ⟨posKey (↑i + 2) ex.term, .pointer (some ⟨wr.heap.size + 2, 0, none⟩), clk⟩) (clk + 1))).drewN q) :=
            fun q => run_update_pos ((W2.drewN q).alloc (Obj.cells #[.int .u64 ex.term, .slice da dl dc, .slice ma ml mc, .string ex.addr, .int .u64 (pt), .int .i64 1] 96)) (M := M.map HR.toRec) ((Below.heap_alloc _ _ _ (Array.getElem?_eq_some_iff.1 hmap).1).trans hmap) hes (↑i + 2) ex.term (by rw [hfind_rec, hfd]; rfl) (.pointer (some ⟨wr.heap.size + 2, 0, none⟩))
          have c4' : ∀ q, ((W2.drewN q).alloc (Obj.cells #[.int .u64 ex.term, .slice da dl dc, .slice ma ml mc, .string ex.addr, .int .u64 (pt), .int .i64 1] 96)).cell? ⟨cb, 4, none⟩ = some (.map (some hb)) := fun q => cell_alloc c4
          have q0' : ∀ q, ((W2.drewN q).alloc (Obj.cells #[.int .u64 ex.term, .slice da dl dc, .slice ma ml mc, .string ex.addr, .int .u64 (pt), .int .i64 1] 96)).cell? ⟨wr.heap.size + 1, 0, none⟩ = some (.int .u64 (↑i + 2)) := fun q => cell_alloc q0
          have q1' : ∀ q, ((W2.drewN q).alloc (Obj.cells #[.int .u64 ex.term, .slice da dl dc, .slice ma ml mc, .string ex.addr, .int .u64 (pt), .int .i64 1] 96)).cell? ⟨wr.heap.size + 1, 1, none⟩ = some (.int .u64 ex.term) := fun q => cell_alloc q1
          have HPU := HM2.alloc_push hmap hes hsz (↑i + 2) (pt) rest' hcbl
          clear hfd
          go_quiet (fail)
          go_wp2
          clear hmap hes hlook
          go_region
          clear c4' q0' q1' hup k0 k1 k2 k3
          go_wp2
          go_roundw
          case rel =>
            refine ⟨i + 2 + 1, b, _, by omega, by omega, by omega, rfl, by go_num, HPU.drewN _, below_drewN (below_setBlock (HBL.alloc (by omega) _) hhb _) _, ?_⟩
            rw [← HGO.out, holdGo_step hlt, show (i + 2) - 1 = i + 1 from rfl, HEX.out, show prevT es (i + 2) = pt from HPT.out, show (((i + 2 : Nat)) : Int) = ↑i + 2 from by omega, step_none (M := M) HFD.out]
            simp
          case measure => simp [intOf]; omega
        | some r =>
          rw [hfd] at hlook
          simp only [Option.map_some] at hlook
          have HFD : Hid (rfind M (↑i + 2) ex.term = some r) := hfd
          obtain ⟨hr1, hr2, v0, v1, v2, v3, hrb, hrE⟩ := HM2.2.2.2.2.2.1 r (List.mem_of_find?_eq_some hfd)
          have HM3 := HM2.bump hfd
          have p0 : W2.cell? ⟨r.pb, 0, none⟩ = some v0 := by simp [World.cell?, hrb]
          have p1 : W2.cell? ⟨r.pb, 1, none⟩ = some v1 := by simp [World.cell?, hrb]
          have p2 : W2.cell? ⟨r.pb, 2, none⟩ = some v2 := by simp [World.cell?, hrb]
          have p3 : W2.cell? ⟨r.pb, 3, none⟩ = some v3 := by simp [World.cell?, hrb]
          have p4 : W2.cell? ⟨r.pb, 4, none⟩ = some (.int .u64 r.p.prev) := by simp [World.cell?, hrb]
          have p5 : W2.cell? ⟨r.pb, 5, none⟩ = some (.int .i64 r.p.cnt) := by simp [World.cell?, hrb]
          have f5 : W2.frozen? ⟨r.pb, 5, none⟩ = false := by simp [World.frozen?, hrb]
          have hne : wr.heap.size ≠ r.pb := fun e => by
            rw [← e] at p4
            have h4 : W2.cell? ⟨wr.heap.size, 4, none⟩ = none := kz
            rw [h4] at p4
            cases p4
          clear hfd
          go_quiet (fail)
          go_wp2
          obtain ⟨W3, hW3⟩ : ∃ W3, W3 = ((W2.drewN nq).setCell ⟨r.pb, 5, none⟩ (.int .i64 (wrap64 (r.p.cnt + 1)))) := ⟨_, rfl⟩
          have HM3' : HeldAt W3 L B1 cb hb (bumpR (↑i + 2) ex.term M) := by rw [hW3]; exact HM3
          have hk3 : Keeps L B1 W2 W3 := by rw [hW3]; exact Keeps.setCell (w := W2) (.inr hr1) _
          have VR := hrE.keep hk3 (Nat.le_refl _) (Nat.le_refl _)
          have VE := rest'.keep hk3 (Nat.le_refl _) (Nat.le_refl _)
          have hs3 : W3.heap.size = W2.heap.size := by rw [hW3]; simp [World.setCell]
          have oth : ∀ (bb oo : Nat), (bb ≠ r.pb ∨ oo ≠ 5) → W3.cell? ⟨bb, oo, none⟩ = W2.cell? ⟨bb, oo, none⟩ := fun bb oo h => by
            rw [hW3]; exact cell_set_other W2 h
          have P0 := (oth _ _ (.inr (by decide))).trans p0
          have P1 := (oth _ _ (.inr (by decide))).trans p1
          have P2 := (oth _ _ (.inr (by decide))).trans p2
          have P3 := (oth _ _ (.inr (by decide))).trans p3
          have P4 := (oth _ _ (.inr (by decide))).trans p4
          have K0 := (oth _ _ (.inl hne)).trans k0
          have K1 := (oth _ _ (.inl hne)).trans k1
          have K2 := (oth _ _ (.inl hne)).trans k2
          have K3 := (oth _ _ (.inl hne)).trans k3
          have hbW3 : Below B1 w W3 := by rw [hW3]; exact (below_drewN HBL _).setCell hr1 _
          have HB3 : Hid (Below B1 w W3) := hbW3
          have hpl : r.pb < W3.heap.size := block_lt_of_cell P0
          have hel : wr.heap.size < W3.heap.size := block_lt_of_cell K0
          have hBs : B1 ≤ W3.heap.size := HM3'.2.2.1
          rw [← hW3]
          clear hW3 oth p0 p1 p2 p3 p4 p5 f5 k0 k1 k2 k3 q0 q1 c4 hmap hes hlook hbW3 HM3 hrE rest' hrb hk3 hne kz HM2
          cases b with
          | false =>
            go_quiet (fail)
            go_wp2
            go_roundw
            case rel =>
              refine ⟨i + 2 + 1, false, _, by omega, by omega, by omega, rfl, by go_num, HM3'.drewN _, below_drewN HB3.out _, ?_⟩
              rw [← HGO.out, holdGo_step hlt, show (i + 2) - 1 = i + 1 from rfl, HEX.out, show prevT es (i + 2) = pt from HPT.out, show (((i + 2 : Nat)) : Int) = ↑i + 2 from by omega, step_some (M := M) HFD.out]
              simp
            case measure => simp [intOf]; omega
          | true =>
            by_cases hpr : r.p.prev = pt
            · have hpr' : (r.p.prev == pt) = true := by simpa using hpr
              have HPR : Hid (r.p.prev = pt) := hpr
              clear hpr
              go_region_held3 (fun w' => w'.cell? ⟨r.pb, 0, none⟩ = some v0 ∧ w'.cell? ⟨r.pb, 1, none⟩ = some v1 ∧ w'.cell? ⟨r.pb, 2, none⟩ = some v2 ∧ w'.cell? ⟨r.pb, 3, none⟩ = some v3 ∧ w'.cell? ⟨r.pb, 4, none⟩ = some (.int .u64 r.p.prev) ∧ w'.cell? ⟨wr.heap.size, 0, none⟩ = some (.int .u64 ex.term) ∧ w'.cell? ⟨wr.heap.size, 1, none⟩ = some (.slice da dl dc) ∧ w'.cell? ⟨wr.heap.size, 2, none⟩ = some (.slice ma ml mc) ∧ w'.cell? ⟨wr.heap.size, 3, none⟩ = some (.string ex.addr))
                (first | exact ⟨(hcc _ _ hpl).trans P0, (hcc _ _ hpl).trans P1, (hcc _ _ hpl).trans P2, (hcc _ _ hpl).trans P3, (hcc _ _ hpl).trans P4, (hcc _ _ hel).trans K0, (hcc _ _ hel).trans K1, (hcc _ _ hel).trans K2, (hcc _ _ hel).trans K3⟩ | exact ⟨P0, P1, P2, P3, P4, K0, K1, K2, K3⟩)
                (first | (go_at_call 55; refine (sameEntry v0 v1 v2 v3 _ _ _ _ r.p.e ex W3.drew L B1 L B1 (by exact VR) (by exact VE) hBs hBs).mono ?_; rintro _ w5 ⟨rfl, hB5⟩; obtain ⟨hcc, hff⟩ := bcell hB5))
              have HM5 : HeldAt w5 L B1 cb hb (bumpR (↑i + 2) ex.term M) := HM3'.below ⟨hB5.os, hB5.tape, hB5.output, hB5.size, hB5.block⟩
              have HB5 : Below B1 w w5 := HB3.out.trans ⟨hB5.os, hB5.tape, hB5.output, hB5.size, fun i hi => hB5.block i (Nat.lt_of_lt_of_le hi hBs)⟩
              clear hcc hff hB5 P0 P1 P2 P3 P4 K0 K1 K2 K3 VR VE HM3' hpl hel
              go_wp2
              go_roundw
              case rel =>
                refine ⟨i + 2 + 1, sameE r.p.e ex, _, by omega, by omega, by omega, rfl, by go_num, HM5, HB5, ?_⟩
                rw [← HGO.out, holdGo_step hlt, show (i + 2) - 1 = i + 1 from rfl, HEX.out, show prevT es (i + 2) = pt from HPT.out, show (((i + 2 : Nat)) : Int) = ↑i + 2 from by omega, step_some (M := M) HFD.out, decide_eq_true HPR.out]
                simp
              case measure => simp [intOf]; omega
            · have hpr' : (r.p.prev == pt) = false := by simpa using hpr
              have HPR : Hid (¬ r.p.prev = pt) := hpr
              clear hpr
              go_quiet (fail)
              go_wp2
              go_roundw
              case rel =>
                refine ⟨i + 2 + 1, false, _, by omega, by omega, by omega, rfl, by go_num, HM3'.drewN _, below_drewN HB3.out _, ?_⟩
                rw [← HGO.out, holdGo_step hlt, show (i + 2) - 1 = i + 1 from rfl, HEX.out, show prevT es (i + 2) = pt from HPT.out, show (((i + 2 : Nat)) : Int) = ↑i + 2 from by omega, step_some (M := M) HFD.out, decide_eq_false HPR.out]
                simp
              case measure => simp [intOf]; omega
  
    · clear hk2 hf'
      go_wp2_with (go_at_call 54; refine (lastIndex _ _ _ _ hn).mono ?_; rintro _ w1 ⟨rfl, rfl⟩)
      go_ret
      rw [← HGO.out, show n + 1 - k = 0 by omega]
      exact ⟨M, b, rfl, hM, hbl, rfl⟩
end Go.Proofs.Qxb6604092a
