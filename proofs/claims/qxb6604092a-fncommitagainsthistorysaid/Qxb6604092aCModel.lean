import Derived.Test.Qxb6604092aCFns
namespace Go.Proofs.Qxb6604092a
open Go.RowKit

set_option maxRecDepth 20000 in
set_option maxHeartbeats 1000000 in
theorem sameCall (i1 n1 i2 n2 : Int) (v0 v1 v2 v3 u0 u1 u2 u3 : Value) (e f : Ent) (w : World) (L B L' B' : Nat) (h : EntV w L B v0 v1 v2 v3 e) (k : EntV w L' B' u0 u1 u2 u3 f) (hB : B ≤ w.heap.size) (hB' : B' ≤ w.heap.size) :
    Calls Try.prog 52 #[.agg #[.int .u64 i1, v0, v1, v2, v3, .int .u64 n1], .agg #[.int .u64 i2, u0, u1, u2, u3, .int .u64 n2]] w fun r w' => r = .returned (.bool (sameE e f)) ∧ Below w.heap.size w w' := by
  have hk := fun (o : Obj) (o' : Obj) => Keeps.of_below (L := 0) (((Below.refl w.heap.size w).alloc (Nat.le_refl _) o).alloc (by simp) o')
  have hbb : ∀ (o o' : Obj) (q : Nat), Below w.heap.size w (((w.alloc o).alloc o').drewN q) := fun o o' q => below_drewN (((Below.refl w.heap.size w).alloc (Nat.le_refl _) o).alloc (by simp) o') q
  obtain ⟨da, dl, dc, ma, ml, mc, rfl, rfl, rfl, rfl, r1, r2, r3, r4, r5, r6⟩ := h
  obtain ⟨da', dl', dc', ma', ml', mc', rfl, rfl, rfl, rfl, s1, s2, s3, s4, s5, s6⟩ := k
  have R1 : ∀ (o o' : Obj) (q : Nat), RowAt (((w.alloc o).alloc o').drewN q) L B .u8 da dl dc e.data := fun o o' q => (r1.keep ((hk o o').mono (Nat.zero_le _) hB) (Nat.le_refl _) (Nat.le_refl _)).drewN q
  have S1 : ∀ (o o' : Obj) (q : Nat), RowAt (((w.alloc o).alloc o').drewN q) L' B' .u8 da' dl' dc' f.data := fun o o' q => (s1.keep ((hk o o').mono (Nat.zero_le _) hB') (Nat.le_refl _) (Nat.le_refl _)).drewN q
  have R3 : ∀ (o o' : Obj) (q : Nat), RowAt (((w.alloc o).alloc o').drewN q) L B .u64 ma ml mc e.mems := fun o o' q => (r3.keep ((hk o o').mono (Nat.zero_le _) hB) (Nat.le_refl _) (Nat.le_refl _)).drewN q
  have S3 : ∀ (o o' : Obj) (q : Nat), RowAt (((w.alloc o).alloc o').drewN q) L' B' .u64 ma' ml' mc' f.mems := fun o o' q => (s3.keep ((hk o o').mono (Nat.zero_le _) hB') (Nat.le_refl _) (Nat.le_refl _)).drewN q
  unfold sameE
  clear hk r1 r3 s1 s3
  by_cases g1 : e.term = f.term
  · have g1' : (e.term == f.term) = true := by simpa using g1
    rw [decide_eq_true g1, Bool.true_and]
    cases g2 : eqL e.data f.data with
    | false =>
      rw [Bool.false_and]
      go_enter Try.func52, Try.ntmps52
      go_wp2_with (first | (go_at_call 49; refine (bytesEq _ _ _ _ _ _ _ _ _ L B L' B' (R1 _ _ 0) (S1 _ _ 0)).mono ?_; rintro _ w1 ⟨rfl, q1, rfl⟩))
      go_ret
      exact ⟨rfl, hbb _ _ _⟩
    | true =>
      rw [Bool.true_and]
      cases g3 : eqL e.mems f.mems with
      | false =>
        rw [Bool.false_and]
        go_enter Try.func52, Try.ntmps52
        go_wp2_with (first | (go_at_call 49; refine (bytesEq _ _ _ _ _ _ _ _ _ L B L' B' (R1 _ _ 0) (S1 _ _ 0)).mono ?_; rintro _ w1 ⟨rfl, q1, rfl⟩) | (go_at_call 56; refine (u64Eq _ _ _ _ _ _ _ _ _ L B L' B' (R3 _ _ q1) (S3 _ _ q1)).mono ?_; rintro _ w1 ⟨rfl, q2, rfl⟩))
        go_ret
        exact ⟨rfl, hbb _ _ _⟩
      | true =>
        rw [Bool.true_and]
        go_enter Try.func52, Try.ntmps52
        go_wp2_with (first | (go_at_call 49; refine (bytesEq _ _ _ _ _ _ _ _ _ L B L' B' (R1 _ _ 0) (S1 _ _ 0)).mono ?_; rintro _ w1 ⟨rfl, q1, rfl⟩) | (go_at_call 56; refine (u64Eq _ _ _ _ _ _ _ _ _ L B L' B' (R3 _ _ q1) (S3 _ _ q1)).mono ?_; rintro _ w1 ⟨rfl, q2, rfl⟩))
        go_ret
        exact ⟨ret_bool (by rw [Bool.eq_iff_iff]; simp), hbb _ _ _⟩
  · have g1' : (e.term == f.term) = false := by simpa using g1
    rw [decide_eq_false g1, Bool.false_and]
    go_enter Try.func52, Try.ntmps52
    go_wp2
    go_ret
    exact ⟨rfl, hbb _ _ 0⟩


/-- What the model answers, by what was seen. -/
def modelOf (o : Option (Ent × Int)) (c : CCall) : Bool × Bool :=
  match o with
  | none => (true, true)
  | some (e, l) => (sameE e c.e, decide (c.nt < l))
/-- The scan so far: the first call at the index, the least term. -/
def Scan (cs : List CCall) (j : Nat) (idx first low : Int) : Prop :=
  (first = -1 ∧ seenAll (cs.take j) idx = none) ∨ ∃ j0 : Nat, first = j0 ∧ j0 < j ∧ seenAll (cs.take j) idx = some ((cs.getD j0 call0).e, low)
theorem Scan.other {cs : List CCall} {j : Nat} {idx f l : Int} (h : Scan cs j idx f l) (hj : j < cs.length) (hi : ¬ (cs.getD j call0).idx = idx) : Scan cs (j + 1) idx f l := by
  unfold Scan
  rw [seenAll_take_succ hj, seen_other hi]
  rcases h with h | ⟨j0, h1, h2, h3⟩
  · exact .inl h
  · exact .inr ⟨j0, h1, by omega, h3⟩
theorem Scan.first {cs : List CCall} {j : Nat} {idx l : Int} (h : Scan cs j idx (-1) l) (hj : j < cs.length) (hi : (cs.getD j call0).idx = idx) : Scan cs (j + 1) idx j (cs.getD j call0).nt := by
  unfold Scan
  rw [seenAll_take_succ hj, seen_same hi]
  rcases h with ⟨_, h⟩ | ⟨j0, h1, h2, h3⟩
  · rw [h]
    exact .inr ⟨j, rfl, by omega, rfl⟩
  · omega
theorem Scan.low {cs : List CCall} {j j0 : Nat} {idx l : Int} (h : Scan cs j idx j0 l) (hj : j < cs.length) (hi : (cs.getD j call0).idx = idx) : Scan cs (j + 1) idx j0 (mn2 l (cs.getD j call0).nt) := by
  unfold Scan
  rw [seenAll_take_succ hj, seen_same hi]
  rcases h with ⟨h, _⟩ | ⟨j1, h1, h2, h3⟩
  · omega
  · rw [h3]
    exact .inr ⟨j1, h1, by omega, rfl⟩

def SaysTwo (p : Bool × Bool) (e : Ending) : Prop := e = .returned (.tuple #[.bool p.1, .bool p.2])

set_option maxRecDepth 20000 in
set_option maxHeartbeats 4000000 in
theorem modelCommit (a : Option Addr) (n c : Nat) (cs : List CCall) (k : Nat) (w : World) (L B : Nat) (h : CallsAt w L B a n c cs) (hB : B ≤ w.heap.size) (hk : k < n) (hn : n ≤ 4096) :
    Calls Try.prog 27 #[.slice a n c, .int .i64 k] w fun e w' => SaysTwo (modelOf (seenAll (cs.take k) (cs.getD k call0).idx) (cs.getD k call0)) e ∧ Below w.heap.size w w' := by
  have hl := h.1
  obtain ⟨b, off, rfl, _, hb, hc⟩ := h.at hk
  have hbw : b < w.heap.size := by omega
  have hEk := hc k hk
  generalize hck : cs.getD k call0 = ck at hEk
  have HCK : Hid (cs.getD k call0 = ck) := hck
  obtain ⟨u0, u1, u2, u3, gk, k0, k1, k2, k3, kn, VK, _, _⟩ := hEk
  have hkn : (k : Int) < (n : Int) := by omega
  have hk0 : (0 : Int) ≤ (k : Int) := by omega
  clear hck
  go_enter Try.func27, Try.ntmps27
  go_wp2
  go_loopw [6, 7, 8] (fun fv lv i wr => ∃ (j : Nat) (fz lz : Int), j ≤ k ∧ i = .int .i64 j ∧ fv = .int .i64 fz ∧ lv = .int .u64 lz ∧ Scan cs j ck.idx fz lz ∧ ∃ q, wr = w.drewN q) (fun _ _ i _ => k - (intOf i).toNat)
  case atStart => exact ⟨0, -1, 0, Nat.zero_le _, rfl, rfl, rfl, .inl ⟨rfl, rfl⟩, 0, rfl⟩
  case round =>
    obtain ⟨j, fz, lz, hj, rfl, rfl, rfl, hsc, q, rfl⟩ := hrel
    have HSC : Hid (Scan cs j ck.idx fz lz) := hsc
    by_cases hlt : j < k
    · obtain ⟨_, _, _, _, gj, _, _, _, _, gn, _⟩ := hc j (by omega)
      generalize hij : (cs.getD j call0).idx = ij at gj
      generalize hnj : (cs.getD j call0).nt = nj at gn
      have HIJ : Hid ((cs.getD j call0).idx = ij) := hij
      have HNJ : Hid ((cs.getD j call0).nt = nj) := hnj
      have hjk : (j : Int) < (k : Int) := by omega
      have hjn : (j : Int) < (n : Int) := by omega
      have hj0 : (0 : Int) ≤ (j : Int) := by omega
      have gkq : ∀ x, (w.drewN x).cell? ⟨b, off + k * 6, none⟩ = some (.int .u64 ck.idx) := fun _ => gk
      have gjq : ∀ x, (w.drewN x).cell? ⟨b, off + j * 6, none⟩ = some (.int .u64 ij) := fun _ => gj
      have gnq : ∀ x, (w.drewN x).cell? ⟨b, off + j * 6 + 5, none⟩ = some (.int .u64 nj) := fun _ => gn
      clear hc hij hnj h k0 k1 k2 k3 kn VK
      by_cases he : ij = ck.idx
      · have heb : (ij == ck.idx) = true := by simpa using he
        have HE : Hid (ij = ck.idx) := he
        clear he
        rcases hsc with ⟨rfl, _⟩ | ⟨j0, rfl, _⟩
        · go_wp2
          go_quiet (fail)
          go_wp2
          go_roundw
          case rel => exact ⟨j + 1, j, nj, by omega, by go_num, rfl, rfl, by rw [← HNJ.out]; exact HSC.out.first (by omega) (by rw [HIJ.out, HE.out]), q + nq, by simp⟩
          case measure => simp [intOf]; omega
        · by_cases hll : nj < lz
          · have HLL : Hid (mn2 lz nj = nj) := by show mn2 lz nj = nj; unfold mn2; rw [if_pos hll]
            go_wp2
            go_quiet (fail)
            go_wp2
            go_roundw
            case rel => exact ⟨j + 1, j0, nj, by omega, by go_num, rfl, rfl, by have := HSC.out.low (by omega) (by rw [HIJ.out, HE.out]); rw [HNJ.out, HLL.out] at this; exact this, q + nq, by simp⟩
            case measure => simp [intOf]; omega
          · have HLL : Hid (mn2 lz nj = lz) := by show mn2 lz nj = lz; unfold mn2; rw [if_neg hll]
            go_wp2
            go_quiet (fail)
            go_wp2
            go_roundw
            case rel => exact ⟨j + 1, j0, lz, by omega, by go_num, rfl, rfl, by have := HSC.out.low (by omega) (by rw [HIJ.out, HE.out]); rw [HNJ.out, HLL.out] at this; exact this, q + nq, by simp⟩
            case measure => simp [intOf]; omega
      · have heb : (ij == ck.idx) = false := by simpa using he
        have HE : Hid (¬ ij = ck.idx) := he
        clear he hsc
        go_wp2
        go_quiet (fail)
        go_wp2
        go_roundw
        case rel => exact ⟨j + 1, fz, lz, by omega, by go_num, rfl, rfl, HSC.out.other (by omega) (by rw [HIJ.out]; exact HE.out), q + nq, by simp⟩
        case measure => simp [intOf]; omega
    · have hjk : j = k := by omega
      subst hjk
      have hlt' : ¬ j < j := hlt
      clear hlt
      rcases hsc with ⟨rfl, hsn⟩ | ⟨j0, rfl, hj0k, hss⟩
      · have HSN : Hid (seenAll (cs.take j) ck.idx = none) := hsn
        clear hsn h hc
        go_wp2
        exact bodyPost_ret (v := .tuple #[.bool true, .bool true]) (by simp [results, Try.results27, go_sem]) rfl ⟨by unfold SaysTwo modelOf; rw [HSN.out], below_drewN (Below.refl _ _) _⟩
      · have HSS : Hid (seenAll (cs.take j) ck.idx = some ((cs.getD j0 call0).e, lz)) := hss
        clear hss
        obtain ⟨v0, v1, v2, v3, gj, j0', j1', j2', j3', gn, VJ, _, _⟩ := hc j0 (by omega)
        generalize hcj : cs.getD j0 call0 = cj at gj gn VJ
        have HCJ : Hid (cs.getD j0 call0 = cj) := hcj
        obtain ⟨W, hW⟩ : ∃ W, W = w.drewN q := ⟨_, rfl⟩
        have hWs : W.heap = w.heap := by rw [hW]; rfl
        have hWc : ∀ a, W.cell? a = w.cell? a := fun a => by rw [hW]; rfl
        have VJW := VJ.keep (w' := W) (fun k _ _ => by rw [hWs]) (Nat.le_refl _) (Nat.le_refl _)
        have VKW := VK.keep (w' := W) (fun k _ _ => by rw [hWs]) (Nat.le_refl _) (Nat.le_refl _)
        have HBW : Hid (Below w.heap.size w W) := by rw [hW]; exact below_drewN (Below.refl _ _) _
        obtain ⟨da, dl, dc, ma, ml, mc, rfl, rfl, rfl, rfl, _⟩ := VJ
        obtain ⟨da', dl', dc', ma', ml', mc', rfl, rfl, rfl, rfl, _⟩ := VK
        have x0 := (hWc _).trans gj
        have x1 := (hWc _).trans j0'
        have x2 := (hWc _).trans j1'
        have x3 := (hWc _).trans j2'
        have x4 := (hWc _).trans j3'
        have x5 := (hWc _).trans gn
        have y0 := (hWc _).trans gk
        have y1 := (hWc _).trans k0
        have y2 := (hWc _).trans k1
        have y3 := (hWc _).trans k2
        have y4 := (hWc _).trans k3
        have y5 := (hWc _).trans kn
        have hBW : B ≤ W.heap.size := by rw [hWs]; exact hB
        have hbW : b < W.heap.size := by rw [hWs]; exact hbw
        have g0n : (j0 : Int) < (n : Int) := by omega
        have g00 : (0 : Int) ≤ (j0 : Int) := by omega
        have SC := sameCall cj.idx cj.nt ck.idx ck.nt _ _ _ _ _ _ _ _ cj.e ck.e W.drew L B L B (by exact VJW) (by exact VKW) hBW hBW
        clear hcj h hc gj j0' j1' j2' j3' gn gk k0 k1 k2 k3 kn VJW VKW hWc
        rw [← hW]
        clear hW
        go_wp2
        go_region_held3 (fun w' => w'.cell? ⟨b, off + j0 * 6, none⟩ = some (.int .u64 cj.idx) ∧ w'.cell? ⟨b, off + j0 * 6 + 1, none⟩ = some (.int .u64 cj.e.term) ∧ w'.cell? ⟨b, off + j0 * 6 + 2, none⟩ = some (.slice da dl dc) ∧ w'.cell? ⟨b, off + j0 * 6 + 3, none⟩ = some (.slice ma ml mc) ∧ w'.cell? ⟨b, off + j0 * 6 + 4, none⟩ = some (.string cj.e.addr) ∧ w'.cell? ⟨b, off + j0 * 6 + 5, none⟩ = some (.int .u64 cj.nt) ∧ w'.cell? ⟨b, off + j * 6, none⟩ = some (.int .u64 ck.idx) ∧ w'.cell? ⟨b, off + j * 6 + 1, none⟩ = some (.int .u64 ck.e.term) ∧ w'.cell? ⟨b, off + j * 6 + 2, none⟩ = some (.slice da' dl' dc') ∧ w'.cell? ⟨b, off + j * 6 + 3, none⟩ = some (.slice ma' ml' mc') ∧ w'.cell? ⟨b, off + j * 6 + 4, none⟩ = some (.string ck.e.addr) ∧ w'.cell? ⟨b, off + j * 6 + 5, none⟩ = some (.int .u64 ck.nt))
          (first | exact ⟨(hcc _ _ hbW).trans x0, (hcc _ _ hbW).trans x1, (hcc _ _ hbW).trans x2, (hcc _ _ hbW).trans x3, (hcc _ _ hbW).trans x4, (hcc _ _ hbW).trans x5, (hcc _ _ hbW).trans y0, (hcc _ _ hbW).trans y1, (hcc _ _ hbW).trans y2, (hcc _ _ hbW).trans y3, (hcc _ _ hbW).trans y4, (hcc _ _ hbW).trans y5⟩ | exact ⟨x0, x1, x2, x3, x4, x5, y0, y1, y2, y3, y4, y5⟩)
          (first | (go_at_call 52; refine SC.mono ?_; rintro _ w5 ⟨rfl, hB5⟩; obtain ⟨hcc, hff⟩ := bcell hB5))
        have hb5 : Below w.heap.size w w5 := HBW.out.trans ⟨hB5.os, hB5.tape, hB5.output, hB5.size, fun i hi => hB5.block i (by show i < W.heap.size; rw [hWs]; exact hi)⟩
        clear hcc hff hB5 x0 x1 x2 x3 x4 x5 y0 y1 y2 y3 y4 y5 SC
        go_wp2
        exact bodyPost_ret (v := .tuple #[.bool (sameE cj.e ck.e), .bool (decide (ck.nt < lz))]) (by simp [results, Try.results27, go_sem]) rfl ⟨by unfold SaysTwo modelOf; rw [HSS.out, HCJ.out], hb5⟩
end Go.Proofs.Qxb6604092a
