import Derived.Test.Qxb6604092aHFirst
import Derived.Test.Qxb6604092aMatch
namespace Go.Proofs.Qxb6604092a
open Go.RowKit

/-- At index i the k-th call agrees with the first of those before it that brought the position. -/
def PosOk (cs : List HCall) (k i : Nat) : Prop :=
  ∀ j, j < k → bringsC i ((cs.getD k hcall0).log.getD (i - 1) ent0).term (cs.getD j hcall0) = true → (∀ g, g < j → bringsC i ((cs.getD k hcall0).log.getD (i - 1) ent0).term (cs.getD g hcall0) = false) →
    prevT (cs.getD j hcall0).log i = prevT (cs.getD k hcall0).log i ∧ sameE ((cs.getD j hcall0).log.getD (i - 1) ent0) ((cs.getD k hcall0).log.getD (i - 1) ent0) = true
def AllOk (cs : List HCall) (k : Nat) : Prop := ∀ i, (cs.getD k hcall0).f ≤ i → i ≤ (cs.getD k hcall0).log.length → PosOk cs k i
def SoFar (cs : List HCall) (k m : Nat) (b : Bool) : Prop := b = true ↔ ∀ i, (cs.getD k hcall0).f ≤ i → i ≤ m → PosOk cs k i
theorem SoFar.good {cs : List HCall} {k m : Nat} {b : Bool} (h : SoFar cs k m b) (hp : PosOk cs k (m + 1)) : SoFar cs k (m + 1) b := by
  refine h.trans ⟨fun H i h1 h2 => ?_, fun H i h1 h2 => H i h1 (by omega)⟩
  by_cases e : i = m + 1
  · subst e; exact hp
  · exact H i h1 (by omega)
theorem SoFar.bad {cs : List HCall} {k m : Nat} (hf : (cs.getD k hcall0).f ≤ m + 1) (hp : ¬ PosOk cs k (m + 1)) : SoFar cs k (m + 1) false :=
  Iff.intro (fun h => by cases h) (fun H => absurd (H (m + 1) hf (Nat.le_refl _)) hp)
theorem SoFar.done {cs : List HCall} {k m : Nat} {b : Bool} (h : SoFar cs k m b) (h1 : (cs.getD k hcall0).log.length ≤ m) (h2 : m ≤ (cs.getD k hcall0).log.length ∨ m + 1 = (cs.getD k hcall0).f) : b = true ↔ AllOk cs k := by
  refine h.trans ⟨fun H i a1 a2 => H i a1 (by omega), fun H i a1 a2 => ?_⟩
  rcases h2 with h2 | h2
  · exact H i a1 (by omega)
  · omega
theorem posOk_none {cs : List HCall} {k m : Nat} {t : Int} (ht : ((cs.getD k hcall0).log.getD m ent0).term = t) (h : ∀ g, g < k → bringsC (m + 1) t (cs.getD g hcall0) = false) : PosOk cs k (m + 1) := by
  intro j hj hb
  rw [Nat.add_sub_cancel, ht, h j hj] at hb
  cases hb
theorem posOk_some {cs : List HCall} {k m j : Nat} {t : Int} (ht : ((cs.getD k hcall0).log.getD m ent0).term = t) (hj : j < k) (hb : bringsC (m + 1) t (cs.getD j hcall0) = true) (h : ∀ g, g < j → bringsC (m + 1) t (cs.getD g hcall0) = false) :
    PosOk cs k (m + 1) ↔ prevT (cs.getD j hcall0).log (m + 1) = prevT (cs.getD k hcall0).log (m + 1) ∧ sameE ((cs.getD j hcall0).log.getD m ent0) ((cs.getD k hcall0).log.getD m ent0) = true := by
  constructor
  · intro H
    have := H j hj
    rw [Nat.add_sub_cancel, ht] at this
    exact this hb h
  · intro H i hi hbi hni
    rw [Nat.add_sub_cancel, ht] at *
    have e : i = j := by
      rcases Nat.lt_trichotomy i j with e | e | e
      · rw [h i e] at hbi; cases hbi
      · exact e
      · rw [hni j e] at hb; cases hb
    subst e
    exact H

set_option maxRecDepth 20000 in
set_option maxHeartbeats 4000000 in
theorem modelHold (a : Option Addr) (n c : Nat) (cs : List HCall) (k : Nat) (w : World) (L B : Nat) (h : HCallsAt w L B a n c cs) (hB : B ≤ w.heap.size) (hk : k < n) (hn : n ≤ 256) (hs : ∀ cc ∈ cs, cc.log.length ≤ 1048576) (hf : ∀ cc ∈ cs, 1 ≤ cc.f) :
    Calls Try.prog 12 #[.slice a n c, .int .i64 k] w fun e w' => SaysBool e (AllOk cs k) ∧ Below w.heap.size w w' := by
  have hl := h.1
  obtain ⟨b, off, rfl, hb, hc⟩ := h.at (i := k) (by omega)
  have hE := hc k (by omega)
  have hmem : cs.getD k hcall0 ∈ cs := by have : k < cs.length := by omega
                                          simp [this]
  have hss := hs _ hmem
  have hff := hf _ hmem
  generalize hke : cs.getD k hcall0 = cc at hE hss hff
  have HKE : Hid (cs.getD k hcall0 = cc) := hke
  obtain ⟨ya, yl, yc, c0, c1, hL, hfm⟩ := hE
  have hll : cc.log.length = yl := hL.1
  obtain ⟨f, hfe⟩ : ∃ f, cc.f = f + 1 := ⟨cc.f - 1, by omega⟩
  rw [hfe, Int.natCast_add, Int.cast_ofNat_Int] at c1
  have hbw : b < w.heap.size := by omega
  have gk : (k : Int) < (n : Int) := by omega
  have HS : Hid (∀ cc ∈ cs, cc.log.length ≤ 1048576) := hs
  clear hc hke hf hs hfm hmem
  go_enter Try.func12, Try.ntmps12
  go_wp2
  go_loopw [7, 8] (fun q i wr => ∃ (m : Nat) (bb : Bool), q = .bool bb ∧ i = .int .u64 ((m : Int) + 1) ∧ f ≤ m ∧ (m ≤ yl ∨ m = f) ∧ SoFar cs k m bb ∧ Below w.heap.size w wr) (fun _ i _ => yl + 1 - (intOf i).toNat)
  case atStart => exact ⟨f, true, rfl, rfl, Nat.le_refl _, .inr rfl, ⟨fun _ i h1 h2 => by rw [HKE.out] at h1; omega, fun _ => rfl⟩, Below.refl _ _⟩
  case round =>
    obtain ⟨m, bb, rfl, rfl, hfm, hmy, hso, hbl⟩ := hrel
    have HSO : Hid (SoFar cs k m bb) := hso
    clear hso
    have hsz := hbl.size
    by_cases hlt : m < yl
    · have h' := h.keep (.of_below (hbl.mono hB)) (Nat.le_refl _) (Nat.le_refl _)
      have hL' := hL.keep (.of_below (hbl.mono hB)) (Nat.le_refl _) (Nat.le_refl _)
      obtain ⟨b2, o2, rfl, hb2, hc2⟩ := hL'.at (i := m) (by omega)
      have EY := hc2 m (by omega)
      generalize hey : cc.log.getD m ent0 = ey at EY
      have HEY : Hid (cc.log.getD m ent0 = ey) := hey
      have hy0 := EY
      obtain ⟨y0, y1, y2, y3, cy0, cy1, cy2, cy3, da, dl, dc, ma, ml, mc, rfl, rfl, rfl, rfl, VY'⟩ := EY
      have VY : EntV wr L B (.int .u64 ey.term) (.slice da dl dc) (.slice ma ml mc) (.string ey.addr) ey := ⟨da, dl, dc, ma, ml, mc, rfl, rfl, rfl, rfl, VY'⟩
      have g1 : (m : Int) + 1 ≤ (yl : Int) := by omega
      have g2 : (m : Int) < (yl : Int) := by omega
      have hb2w : b2 < wr.heap.size := by omega
      clear hc2 hey hy0 VY'
      have FHc := firstHolder (some ⟨b, off, none⟩) n c cs k m ey.term wr L B h' (by omega) (by omega) (by omega) hn HS.out
      go_wp2_with fail
      refine FHc.mono ?_
      rintro _ w2 ⟨⟨z, rfl, hFH⟩, hB2⟩
      have hb2' : Below w.heap.size w w2 := hbl.trans (hB2.mono hsz)
      have HB2 : Hid (Below w.heap.size w w2) := hb2'
      rcases hFH with ⟨rfl, hno⟩ | ⟨j, rfl, hjk, hjb, hjn⟩
      · have HP : Hid (PosOk cs k (m + 1)) := posOk_none (by rw [HKE.out, HEY.out]) hno
        clear hno hB2 hb2' FHc h' hL' VY
        go_wp2
        go_roundw
        case rel => exact ⟨m + 1, bb, rfl, by go_num, by omega, .inl (by omega), HSO.out.good HP.out, HB2.out⟩
        case measure => simp [intOf]; omega
      · have HP : Hid (PosOk cs k (m + 1) ↔ _) := posOk_some (by rw [HKE.out, HEY.out]) hjk hjb hjn
        have hk2 : Keeps L B w w2 := .of_below (hb2'.mono hB)
        have hkr2 : Keeps L B wr w2 := .of_below (hB2.mono (by omega))
        have h2 := h.keep hk2 (Nat.le_refl _) (Nat.le_refl _)
        obtain ⟨b', off', he', _, hc3⟩ := h2.at (i := j) (by omega)
        cases he'
        have hE3 := hc3 j (by omega)
        have hjl : (cs.getD j hcall0).log.length ≤ 1048576 := HS.out _ (by have : j < cs.length := by omega
                                                                           simp [this])
        have hcov : m + 1 ≤ (cs.getD j hcall0).log.length := by
          simp only [bringsC, Bool.and_eq_true, decide_eq_true_eq] at hjb
          exact hjb.1.2
        generalize hkj : cs.getD j hcall0 = cj at hE3 hjl hcov
        have HKJ : Hid (cs.getD j hcall0 = cj) := hkj
        obtain ⟨xa, xl, xc, d0, d1, hX, _⟩ := hE3
        have hxl : cj.log.length = xl := hX.1
        obtain ⟨b3, o3, rfl, hb3, hc4⟩ := hX.at (i := m) (by omega)
        have EX := hc4 m (by omega)
        generalize hex : cj.log.getD m ent0 = ex at EX
        have HEX : Hid (cj.log.getD m ent0 = ex) := hex
        obtain ⟨x0, x1, x2, x3, cx0, cx1, cx2, cx3, da', dl', dc', ma', ml', mc', rfl, rfl, rfl, rfl, VX'⟩ := EX
        have VX : EntV w2 L B (.int .u64 ex.term) (.slice da' dl' dc') (.slice ma' ml' mc') (.string ex.addr) ex := ⟨da', dl', dc', ma', ml', mc', rfl, rfl, rfl, rfl, VX'⟩
        have VY2 := VY.keep hkr2 (Nat.le_refl _) (Nat.le_refl _)
        obtain ⟨hcc, _⟩ := bcell hB2
        have y0 := (hcc _ _ hb2w).trans cy0
        have y1 := (hcc _ _ hb2w).trans cy1
        have y2 := (hcc _ _ hb2w).trans cy2
        have y3 := (hcc _ _ hb2w).trans cy3
        have hY2 := hL.keep hk2 (Nat.le_refl _) (Nat.le_refl _)
        have PX := fun W (hW : W.heap = w2.heap) => prevTerm _ xl xc (m + 1) cj.log W L B (hX.keep (fun k _ _ => by rw [hW]) (Nat.le_refl _) (Nat.le_refl _)) (by omega) (by omega)
        have PY := fun W (hW : W.heap = w2.heap) => prevTerm _ yl yc (m + 1) cc.log W L B (hY2.keep (fun k _ _ => by rw [hW]) (Nat.le_refl _) (Nat.le_refl _)) (by omega) (by omega)
        rw [Int.natCast_add, Int.cast_ofNat_Int] at PX PY
        have gj : (j : Int) < (n : Int) := by omega
        have gx : (m : Int) < (xl : Int) := by omega
        have hsz2 : w2.heap.size ≥ w.heap.size := hb2'.size
        have hBw : B ≤ w2.heap.size := by omega
        have hbw2 : b < w2.heap.size := by omega
        have hb2w2 : b2 < w2.heap.size := by omega
        have hb3w2 : b3 < w2.heap.size := by omega
        generalize hpx : prevT cj.log (m + 1) = px at PX
        generalize hpy : prevT cc.log (m + 1) = py at PY
        have HPX : Hid (prevT cj.log (m + 1) = px) := hpx
        have HPY : Hid (prevT cc.log (m + 1) = py) := hpy
        clear hjb hjn hkj hex hc3 hc4 h' hL' h2 hk2 hkr2 VX' VY FHc hpx hpy hB2 hcc cy0 cy1 cy2 cy3 hX hY2 d1 hb2'
        have PB : ∀ (W : World) (hW : W.heap = w2.heap) (a : Option Addr) (l c : Nat) (v : Int), ((a = some ⟨b3, o3, none⟩ ∧ l = xl ∧ c = xc ∧ v = px) ∨ (a = some ⟨b2, o2, none⟩ ∧ l = yl ∧ c = yc ∧ v = py)) → Calls Try.prog 16 #[.slice a l c, .int .u64 ((m : Int) + 1)] W fun e w' => e = .returned (.int .u64 v) ∧ W = w' := by
          rintro W hW a l c v (⟨rfl, rfl, rfl, rfl⟩ | ⟨rfl, rfl, rfl, rfl⟩)
          · exact PX W hW
          · exact PY W hW
        clear PX PY
        by_cases hpp : px = py
        · subst hpp
          go_wp2
          have hw2 : IntKind.u64.wrap (m : Int) = (m : Int) := IntWalk.u64_in _ ⟨by omega, by omega⟩
          have hw1 : IntKind.u64.wrap ((m : Int) + 1 - 1) = (m : Int) := by rw [Int.add_sub_cancel]; exact hw2
          go_region_held3 (fun w' => w'.cell? ⟨b, off + j * 2, none⟩ = some (.slice (some ⟨b3, o3, none⟩) xl xc) ∧ w'.cell? ⟨b3, o3 + m * 4, none⟩ = some (.int .u64 ex.term) ∧ w'.cell? ⟨b3, o3 + m * 4 + 1, none⟩ = some (.slice da' dl' dc') ∧ w'.cell? ⟨b3, o3 + m * 4 + 2, none⟩ = some (.slice ma' ml' mc') ∧ w'.cell? ⟨b3, o3 + m * 4 + 3, none⟩ = some (.string ex.addr) ∧ w'.cell? ⟨b2, o2 + m * 4, none⟩ = some (.int .u64 ey.term) ∧ w'.cell? ⟨b2, o2 + m * 4 + 1, none⟩ = some (.slice da dl dc) ∧ w'.cell? ⟨b2, o2 + m * 4 + 2, none⟩ = some (.slice ma ml mc) ∧ w'.cell? ⟨b2, o2 + m * 4 + 3, none⟩ = some (.string ey.addr))
            (first | exact ⟨(hcc _ _ hbw2).trans d0, (hcc _ _ hb3w2).trans cx0, (hcc _ _ hb3w2).trans cx1, (hcc _ _ hb3w2).trans cx2, (hcc _ _ hb3w2).trans cx3, (hcc _ _ hb2w2).trans y0, (hcc _ _ hb2w2).trans y1, (hcc _ _ hb2w2).trans y2, (hcc _ _ hb2w2).trans y3⟩ | exact ⟨d0, cx0, cx1, cx2, cx3, y0, y1, y2, y3⟩)
            (first | (go_at_call 16; refine (PB w2.drew rfl _ _ _ _ (by first | exact .inl ⟨rfl, rfl, rfl, rfl⟩ | exact .inr ⟨rfl, rfl, rfl, rfl⟩)).mono ?_; rintro _ _ ⟨rfl, hw⟩; subst hw) | (go_at_call 47; refine (sameEnt _ _ _ _ _ _ _ _ ex ey w2.drew L B L B (by exact VX) (by exact VY2) hBw hBw).mono ?_; rintro _ w5 ⟨rfl, hB5⟩; obtain ⟨hcc, hff⟩ := bcell hB5))
          have hb5 : Below w.heap.size w w5 := HB2.out.trans ⟨hB5.os, hB5.tape, hB5.output, hB5.size, fun i hi => hB5.block i (Nat.lt_of_lt_of_le hi hsz2)⟩
          have HB5 : Hid (Below w.heap.size w w5) := hb5
          clear hb5 hcc hff hB5 cx0 cx1 cx2 cx3 y0 y1 y2 y3 d0 VX VY2 PB h hL hw1 hw2
          cases hsm : sameE ex ey with
          | true =>
            have HSM : Hid (sameE ex ey = true) := hsm
            go_wp2
            go_roundw
            case rel => exact ⟨m + 1, bb, rfl, by go_num, by omega, .inl (by omega), HSO.out.good (HP.out.2 ⟨by rw [HKJ.out, HKE.out, HPX.out, HPY.out], by rw [HKJ.out, HKE.out, HEX.out, HEY.out]; exact HSM.out⟩), HB5.out⟩
            case measure => simp [intOf]; omega
          | false =>
            have HSM : Hid (sameE ex ey = false) := hsm
            go_wp2
            go_roundw
            case rel => exact ⟨m + 1, false, rfl, by go_num, by omega, .inl (by omega), SoFar.bad (by rw [HKE.out]; omega) (fun hh => by
                have := (HP.out.1 hh).2
                rw [HKJ.out, HKE.out, HEX.out, HEY.out, HSM.out] at this
                cases this), HB5.out⟩
            case measure => simp [intOf]; omega
        · have hppb : (px == py) = false := by simpa using hpp
          go_wp2
          have hw2 : IntKind.u64.wrap (m : Int) = (m : Int) := IntWalk.u64_in _ ⟨by omega, by omega⟩
          have hw1 : IntKind.u64.wrap ((m : Int) + 1 - 1) = (m : Int) := by rw [Int.add_sub_cancel]; exact hw2
          have PQ : ∀ (x : Nat) (a : Option Addr) (l c : Nat) (v : Int), ((a = some ⟨b3, o3, none⟩ ∧ l = xl ∧ c = xc ∧ v = px) ∨ (a = some ⟨b2, o2, none⟩ ∧ l = yl ∧ c = yc ∧ v = py)) → Calls Try.prog 16 #[.slice a l c, .int .u64 ((m : Int) + 1)] (w2.drewN x) fun e w' => e = .returned (.int .u64 v) ∧ w' = w2.drewN x :=
            fun x a l c v hh => (PB (w2.drewN x) rfl a l c v hh).mono fun _ _ hh => ⟨hh.1, hh.2.symm⟩
          clear PB
          go_quiet (first | (go_at_call 16; exact (PQ _ _ _ _ _ (by first | exact .inl ⟨rfl, rfl, rfl, rfl⟩ | exact .inr ⟨rfl, rfl, rfl, rfl⟩)).mono fun _ _ hh => ⟨hh.1, _, hh.2⟩))
          have HPP : Hid (¬ px = py) := hpp
          clear cx0 cx1 cx2 cx3 y0 y1 y2 y3 d0 VX VY2 PQ h hL hw1 hw2 hpp hppb
          go_wp2
          go_roundw
          case rel => exact ⟨m + 1, false, rfl, by go_num, by omega, .inl (by omega), SoFar.bad (by rw [HKE.out]; omega) (fun hh => by
              have := (HP.out.1 hh).1
              rw [HKJ.out, HKE.out, HPX.out, HPY.out] at this
              exact HPP.out this), below_drewN HB2.out _⟩
          case measure => simp [intOf]; omega
    · clear h hL
      go_wp2
      go_ret
      exact ⟨⟨bb, rfl, HSO.out.done (by rw [HKE.out]; omega) (by rw [HKE.out]; omega)⟩, hbl⟩
end Go.Proofs.Qxb6604092a
