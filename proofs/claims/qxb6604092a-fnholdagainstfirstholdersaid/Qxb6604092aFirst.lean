import Derived.Test.Qxb6604092aHPlain
import Derived.Test.Qxb6604092aHeldGet
import Derived.Test.Qxb6604092aLawA
import Derived.Test.Qxb6604092aGot
import Derived.Test.Qxb6604092aAgain
namespace Go.Proofs.Qxb6604092a
open Go.RowKit
open Go.ChangeMaps (setBlock)

theorem mem_f {cs : List HCall} {n : Nat} (hl : cs.length = n) (h : ∀ g, g < n → 1 ≤ (cs.getD g hcall0).f) : ∀ cc ∈ cs, 1 ≤ cc.f := by
  intro cc hcc
  obtain ⟨g, hg, rfl⟩ := List.mem_iff_getElem.1 hcc
  have := h g (by omega)
  simpa [hg] using this
theorem said_eq {b b2 : Bool} {p : Prop} (h : b = true ↔ p) (h2 : b2 = true ↔ p) : b2 = b := by
  cases b <;> cases b2 <;> simp_all

set_option maxRecDepth 20000 in
set_option maxHeartbeats 4000000 in
theorem lawFirst (a : Option Addr) (n c : Nat) (cs : List HCall) (wA : World) (h : HCallsAt wA 0 wA.heap.size a n c cs) :
    Calls Try.prog 3 #[.slice a n c] wA fun r w' => r = .returned (.bool true) ∧ Below wA.heap.size wA w' := by
  have hm : n ≤ maxLen := Nat.le_trans h.2.1 h.2.2.1
  unfold maxLen at hm
  have hl := h.1
  have Z1 := zzHolds a n c cs wA 0 wA.heap.size h
  go_enter Try.func3, Try.ntmps3
  go_wp2_with (go_at_call 7; refine Z1.mono ?_; rintro _ _ ⟨⟨b0, rfl⟩, hw1⟩; subst hw1)
  · go_ret
    exact ⟨rfl, Below.refl _ _⟩
  · go_ret
    exact ⟨rfl, Below.refl _ _⟩
  · have hn256 : (n : Int) ≤ 256 := by assumption
    refine (holdsBytes a n c cs _ 0 _ h).mono ?_
    rintro _ w2 ⟨rfl, q, hq⟩
    have hb2 : Below wA.heap.size wA w2 := by rw [hq]; exact below_drewN (Below.refl _ _) _
    clear hq
    have HSM : Hid (logsGo (cs.map HCall.log) 0 ≤ 1048576 → ∀ l ∈ cs.map HCall.log, SmallL l) := logsGo_small _ 0 (by omega) (by omega)
    have hn : n ≤ 256 := by omega
    obtain ⟨i0, hi, hz0, hz1, hz2⟩ := info_parts Try.info31
    have HB : i0.bytes * n ≤ 281474976710656 := by rw [hz2]; omega
    have hml : n ≤ maxLen := by unfold maxLen; omega
    have h2 : HCallsAt w2 0 w2.heap.size a n c cs := h.keep (.of_below hb2) (Nat.le_refl _) hb2.size
    clear Z1 h hn256
    go_wp2_with fail
    · go_ret
      exact ⟨rfl, hb2⟩
    · have hsmall := HSM.out (by assumption)
      have HSL : Hid (∀ cc ∈ cs, SmallL cc.log) := fun cc hcc => hsmall _ (List.mem_map_of_mem hcc)
      clear HSM hsmall
      go_loopw [3] (fun i wr => ∃ k : Nat, k ≤ n ∧ i = .int .i64 k ∧ (∀ g, g < k → 1 ≤ (cs.getD g hcall0).f) ∧ w2 = wr) (fun i _ => n - (intOf i).toNat)
      case atStart => exact ⟨0, Nat.zero_le _, rfl, fun g hg => absurd hg (Nat.not_lt_zero _), rfl⟩
      case round =>
        obtain ⟨k, hk, rfl, hpos, rfl⟩ := hrel
        have HPOS : Hid (∀ g, g < k → 1 ≤ (cs.getD g hcall0).f) := hpos
        clear hpos
        by_cases hlt : k < n
        · obtain ⟨bx, ox, rfl, hbx, hcx⟩ := h2.at hlt
          have hE := hcx k hlt
          generalize hke : cs.getD k hcall0 = cc at hE
          have HKE : Hid (cs.getD k hcall0 = cc) := hke
          obtain ⟨la, ll, lc, c0, c1, r1, _⟩ := hE
          have gx : (k : Int) < (n : Int) := by omega
          clear hcx h2 r1 hke
          go_wp2
          · go_ret
            exact ⟨rfl, hb2⟩
          · have hf1 : 1 ≤ cc.f := by
              have hz : ((cc.f : Int) == 0) = false := by assumption
              have hz' : ¬ (cc.f : Int) = 0 := by simpa using hz
              omega
            go_roundw
            case rel => exact ⟨k + 1, by omega, by go_num, snoc_lt HPOS.out (by rw [HKE.out]; exact hf1), by trivial⟩
            case measure => simp [intOf]; omega
        · have hkn : k = n := by omega
          have HF1 : Hid (∀ g, g < n → 1 ≤ (cs.getD g hcall0).f) := hkn ▸ HPOS.out
          have hnk : ¬ k < n := hlt
          clear HPOS hkn hlt
          go_wp2_with (first | (at_make; refine wpList_make_full _ rfl _ _ 29 rfl w2.heap.size 31 i0 _ 1 Try.underlying29 hi hz0 hz1 _ _ _ _ n rfl rfl rfl rfl HB hml (Nat.le_refl _) ?_; intro w3 hown hgrow))
          clear HB hml hi hz0 hz1 hz2
          go_loopw [5] (fun i wr => ∃ k : Nat, k ≤ n ∧ i = .int .i64 k ∧ FillL wr w2.heap.size n k (cs.map HCall.log) ∧ Below w2.heap.size w2 wr) (fun i _ => n - (intOf i).toNat)
          case atStart => exact ⟨0, Nat.zero_le _, rfl, FillL.start _ hown, (Below.refl _ _).grown hgrow (Nat.le_refl _) (by simp)⟩
          case round =>
            obtain ⟨k, hk, rfl, hfl, hbl⟩ := hrel
            by_cases hlt : k < n
            · obtain ⟨bx, ox, rfl, hbx, hcx⟩ := h2.at hlt
              have hE := hcx k hlt
              have hbw : w2.heap.size ≤ wr.heap.size := hbl.size
              have hSl : SmallL (cs.getD k hcall0).log := HSL.out _ (by have : k < cs.length := by omega
                                                                        simp [this])
              have hmap : (cs.map HCall.log).getD k [] = (cs.getD k hcall0).log := by simp [show k < cs.length by omega]
              generalize hke : cs.getD k hcall0 = cc at hE hSl hmap
              obtain ⟨la, ll, lc, c0, c1, r1, _⟩ := hE
              have c0' := (hbl.cell (p := ⟨bx, ox + k * 2, none⟩) hbx).trans c0
              have r1' : LogAt wr 0 wr.heap.size la ll lc cc.log := r1.keep (.of_below hbl) (Nat.le_refl _) hbw
              have HES : Hid ((cs.map HCall.log).getD k [] = cc.log) := hmap
              obtain ⟨v0, o0⟩ := hfl.old hlt
              have f0 := hfl.frozen k
              have hgl := hfl.lt
              clear hcx c0 c1 r1 hke h2 hmap
              have gx : (k : Int) < (n : Int) := by omega
              go_wp2_with (go_at_call 9; refine (toLog la ll lc cc.log wr 0 r1' hSl).mono ?_; rintro _ w5 ⟨⟨a5, n5, c5, rfl, hL5⟩, hB5⟩; obtain ⟨hcc, hff⟩ := bcell hB5; have t0 := (hcc _ _ hgl).trans o0; have y0 := (hff _ _ hgl).trans f0)
              have HF := hfl.step hlt hB5 (a := a5) (l := n5) (c := c5) (by rw [HES.out]; exact hL5)
              have HBL : Below w2.heap.size w2 w5 := hbl.trans (hB5.mono hbw)
              go_roundw
              case rel => exact ⟨k + 1, by omega, by go_num, HF, HBL.setCell (Nat.le_refl _) _⟩
              case measure => simp [intOf]; omega
            · have hkn : k = n := by omega
              have hfl' : FillL wr w2.heap.size n n (cs.map HCall.log) := hkn ▸ hfl
              have hnk2 : ¬ k < n := hlt
              have hlogs := hfl'.logs
              have hg := hfl'.lt
              have h9 : HCallsAt wr 0 wr.heap.size a n c cs := h2.keep (.of_below hbl) (Nat.le_refl _) hbl.size
              have hbA : Below wA.heap.size wA wr := hb2.trans (hbl.mono hb2.size)
              clear h2 hkn hlt hfl hfl' hown hgrow
              go_wp2_with fail
              refine (zzNewChecker none 0 0 wr).mono ?_
              rintro _ w6 ⟨⟨x5, x6, x7, x8, x9, x12, x14, x16, rfl, m0, m1, m2, m3, m4, m34, s7, s9, s11⟩, hb6⟩
              have h1c := ckOf_one (v := .slice none 0 0) rfl m0 m1 m2 m3 m4 s7 s9 s11
              have hz7 : (w6.alloc (Obj.cells zeroCk 41)).heap[w6.heap.size]? = some (.cells zeroCk 41 (0, 0)) := heap_alloc_new _ _
              go_wp2_with (refine wpList_store_row rfl 41 _ _ rfl w6.heap.size _ rfl rfl 41 zeroCk hz7 (by kernel_rfl) rfl h1c ?_)
              obtain ⟨hb, rfl, _⟩ := id m3
              obtain ⟨hH7, hB7⟩ := held_start (v := .slice none 0 0) (x5 := x5) (x6 := x6) (x7 := x7) (x9 := x9) (x12 := x12) (x14 := x14) (x16 := x16) (L := w2.heap.size + 1) hb6 m3 rfl
              obtain ⟨wc, hwc⟩ : ∃ wc, wc = wr := ⟨_, rfl⟩
              subst hwc
              clear m0 m1 m2 m3 m4 m34 s7 s9 s11 h1c hz7 hb6
              go_loopw [7, 8] (fun i _ w8 => ∃ (j : Nat) (M : List HR), j ≤ n ∧ i = .int .i64 j ∧ HeldAt w8 (w2.heap.size + 1) wc.heap.size w6.heap.size hb M ∧ Below wc.heap.size wc w8 ∧ M.map HR.p = hst (cs.take j)) (fun i _ _ => n - (intOf i).toNat)
              case atStart => exact ⟨0, [], Nat.zero_le _, rfl, hH7, hB7, rfl⟩
              case round =>
                obtain ⟨j, M, hj, rfl, hM, hbl8, hst8⟩ := hrel
                have HST : Hid (M.map HR.p = hst (cs.take j)) := hst8
                clear hst8 hH7 hB7
                by_cases hjt : j < n
                · obtain ⟨bx, ox, rfl, hbx, hcx⟩ := h9.at hjt
                  have hE := hcx j hjt
                  obtain ⟨la, ll, lc, c0, r1⟩ := hlogs j hjt
                  have hmap : (cs.map HCall.log).getD j [] = (cs.getD j hcall0).log := by simp [show j < cs.length by omega]
                  rw [hmap] at r1
                  have hSl : SmallL (cs.getD j hcall0).log := HSL.out _ (by have : j < cs.length := by omega
                                                                            simp [this])
                  have hf1 := HF1.out j hjt
                  generalize hke : cs.getD j hcall0 = cc at hE hSl r1 hf1
                  have HKE : Hid (cs.getD j hcall0 = cc) := hke
                  obtain ⟨_, _, _, _, c1, _, hfm⟩ := hE
                  have c0' := (hbl8.cell (p := ⟨w2.heap.size, j, none⟩) hg).trans c0
                  have c1' := (hbl8.cell (p := ⟨bx, ox + j * 2 + 1, none⟩) hbx).trans c1
                  have r1' := r1.keep (.of_below hbl8) (Nat.le_refl _) (Nat.le_refl _)
                  have hlen : cc.log.length = ll := r1'.1
                  have hll : ll ≤ 1048576 := by rw [← hlen]; exact hSl.1
                  have ZH := zzHold la ll lc cc.f w6.heap.size hb cc.log M wr.drew (w2.heap.size + 1) wc.heap.size r1' hll hf1 hfm hM
                  have HLEN : Hid (cc.log.length = ll) := hlen
                  clear hcx c0 c1 r1 hlogs hke hSl r1' hM hmap hlen hfm
                  have gx : (j : Int) < (n : Int) := by omega
                  have gx0 : (0 : Int) ≤ (j : Int) := by omega
                  have hgw : w2.heap.size < wc.heap.size := hg
                  go_wp2_with fail
                  go_region_held3 (fun w' => w'.cell? ⟨w2.heap.size, j, none⟩ = some (.slice la ll lc) ∧ w'.cell? ⟨bx, ox + j * 2 + 1, none⟩ = some (.int .u64 cc.f))
                    (first | exact ⟨(hB9.cell (p := ⟨w2.heap.size, _, none⟩) hgw).trans c0', (hB9.cell (p := ⟨bx, _, none⟩) hbx).trans c1'⟩ | exact ⟨c0', c1'⟩)
                    (first | (go_at_call 11; refine ZH.mono ?_; rintro _ w9 ⟨M', b', rfl, hM9, hB9, hgo9⟩))
                  have hb9 : Below wc.heap.size wc w9 := hbl8.trans ⟨hB9.os, hB9.tape, hB9.output, hB9.size, hB9.block⟩
                  have HSTEP : Hid (M'.map HR.p = hst (cs.take (j + 1)) ∧ (b' = true ↔ AllOk cs j)) := by
                    have hjc : j < cs.length := by omega
                    rw [HST.out, ← HLEN.out] at hgo9
                    refine ⟨?_, ?_⟩
                    · rw [hst_take hjc, HKE.out]
                      exact congrArg Prod.fst hgo9
                    · have h3 := ok_iff (shows_take (by omega) j (by omega)) hjc (by rw [HKE.out]; exact hf1)
                      rw [HKE.out, ← hgo9] at h3
                      exact h3
                  have h10 : HCallsAt w9 0 wc.heap.size (some ⟨bx, ox, none⟩) n c cs := h9.keep (.of_below hb9) (Nat.le_refl _) (Nat.le_refl _)
                  have MH := modelHold _ n c cs j w9 0 wc.heap.size h10 hb9.size hjt hn (fun cc hcc => (HSL.out cc hcc).1) (mem_f hl HF1.out)
                  clear hB9 hgo9 h10 c0' c1' ZH h9
                  go_wp2_with fail
                  refine MH.mono ?_
                  rintro _ w10 ⟨⟨b2, rfl, hb2'⟩, hB10⟩
                  obtain rfl : b2 = b' := said_eq HSTEP.out.2 hb2'
                  have hM10 := hM9.below hB10
                  have hb10 : Below wc.heap.size wc w10 := hb9.trans (hB10.mono hb9.size)
                  clear MH hB10 hM9 hb9
                  go_wp2
                  go_roundw
                  case rel => exact ⟨j + 1, M', by omega, by go_num, hM10, hb10, HSTEP.out.1⟩
                  case measure => simp [intOf]; omega
                · have hjn : j = n := by omega
                  have HSTN : Hid (M.map HR.p = hst cs) := by
                    have := HST.out
                    rw [hjn, List.take_of_length_le (by omega)] at this
                    exact this
                  have hnj : ¬ j < n := hjt
                  clear HST hjn hjt hlogs hg
                  obtain ⟨wd, hwd⟩ : ∃ wd, wd = wr := ⟨_, rfl⟩
                  subst hwd
                  have hsd := hbl8.size
                  have hbAd : Below wA.heap.size wA wd := hbA.trans (hbl8.mono hbA.size)
                  have hd : HCallsAt wd 0 wc.heap.size a n c cs := h9.keep (.of_below hbl8) (Nat.le_refl _) (Nat.le_refl _)
                  clear h9 hbl8 hbA
                  go_wp2
                  go_loopw [9, 10] (fun p i w8 => ∃ (k pos : Nat), k ≤ n ∧ i = .int .i64 k ∧ p = .int .i64 pos ∧ pos = (hst (cs.take k)).length ∧ pos ≤ k * 1048576 ∧ Below wd.heap.size wd w8) (fun _ i _ => n - (intOf i).toNat)
                  case atStart => exact ⟨0, 0, Nat.zero_le _, rfl, rfl, rfl, by omega, Below.refl _ _⟩
                  case round =>
                    obtain ⟨k, pos, hk, rfl, rfl, hpos, hposb, hblk⟩ := hrel
                    have HPOS : Hid (pos = (hst (cs.take k)).length) := hpos
                    clear hpos
                    by_cases hkt : k < n
                    · have hkw : Below wc.heap.size wd wr := hblk.mono hsd
                      have hsw := hblk.size
                      have hr : HCallsAt wr 0 wc.heap.size a n c cs := hd.keep (.of_below hkw) (Nat.le_refl _) (Nat.le_refl _)
                      obtain ⟨bx, ox, rfl, hbx, hcx⟩ := hr.at hkt
                      have hE := hcx k hkt
                      have hSl : (cs.getD k hcall0).log.length ≤ 1048576 := (HSL.out _ (by have : k < cs.length := by omega
                                                                                           simp [this])).1
                      have hf1 := HF1.out k hkt
                      generalize hke : cs.getD k hcall0 = cc at hE hSl hf1
                      have HKE : Hid (cs.getD k hcall0 = cc) := hke
                      obtain ⟨ya, yl, yc, c0, c1, hL, _⟩ := hE
                      have hyl : cc.log.length = yl := hL.1
                      obtain ⟨f0, hfe⟩ : ∃ f0, cc.f = f0 + 1 := ⟨cc.f - 1, by omega⟩
                      rw [hfe, Int.natCast_add, Int.cast_ofNat_Int] at c1
                      have gk : (k : Int) < (n : Int) := by omega
                      clear hcx hke
                      go_wp2
                      go_loopw [9, 13] (fun p i w5 => ∃ (m pos : Nat), p = .int .i64 pos ∧ i = .int .u64 ((m : Int) + 1) ∧ f0 ≤ m ∧ (m ≤ yl ∨ m = f0) ∧ pos = posOf cs k (m - f0) ∧ pos ≤ k * 1048576 + (m - f0) ∧ Below wd.heap.size wd w5) (fun _ i _ => yl + 1 - (intOf i).toNat)
                      case atStart => exact ⟨f0, pos, rfl, rfl, Nat.le_refl _, .inr rfl, by rw [Nat.sub_self, posOf_zero]; exact HPOS.out, Nat.le_trans hposb (Nat.le_add_right _ _), hblk⟩
                      case round =>
                        obtain ⟨m, pos', rfl, rfl, hfm, hmy, hpos, hposb', hb5⟩ := hrel
                        have HPOS5 : Hid (pos' = posOf cs k (m - f0)) := hpos
                        clear hpos
                        by_cases hmt : m < yl
                        · have hkw5 : Below wc.heap.size wd wr := hb5.mono hsd
                          have hs5 := hb5.size
                          have hr5 : HCallsAt wr 0 wc.heap.size (some ⟨bx, ox, none⟩) n c cs := hd.keep (.of_below hkw5) (Nat.le_refl _) (Nat.le_refl _)
                          have hL5 : LogAt wr 0 wc.heap.size ya yl yc cc.log := by
                            obtain ⟨bx', ox', he', _, hcx'⟩ := hr5.at hkt
                            cases he'
                            obtain ⟨ya', yl', yc', c0', _, hL', _⟩ := hcx' k hkt
                            rw [HKE.out] at hL'
                            have e1 := (hkw5.cell (p := ⟨bx, ox + k * 2, none⟩) hbx)
                            have e2 := (hkw.cell (p := ⟨bx, ox + k * 2, none⟩) hbx)
                            rw [c0', ← e2, c0] at e1
                            cases e1
                            exact hL'
                          obtain ⟨b2, o2, rfl, hb2x, hc2⟩ := hL5.at (i := m) (by omega)
                          have EY := hc2 m (by omega)
                          generalize hey : cc.log.getD m ent0 = ey at EY
                          have HEY : Hid (cc.log.getD m ent0 = ey) := hey
                          obtain ⟨y0, y1, y2, y3, cy0, cy1, cy2, cy3, da, dl, dc, ma, ml, mc, rfl, rfl, rfl, rfl, VY'⟩ := EY
                          have VY : EntV wr 0 wc.heap.size (.int .u64 ey.term) (.slice da dl dc) (.slice ma ml mc) (.string ey.addr) ey := ⟨da, dl, dc, ma, ml, mc, rfl, rfl, rfl, rfl, VY'⟩
                          have g1 : (m : Int) + 1 ≤ (yl : Int) := by omega
                          have g2 : (m : Int) < (yl : Int) := by omega
                          have FHc := firstHolder _ n c cs k m ey.term wr 0 wc.heap.size hr5 (by omega) (by omega) (by omega) hn (fun cc hcc => (HSL.out cc hcc).1)
                          clear hc2 hey VY' hr hL c0 c1 hkw hblk
                          go_wp2_with fail
                          refine FHc.mono ?_
                          rintro _ w7 ⟨⟨z, rfl, hFH⟩, hB7⟩
                          have hb7 : Below wd.heap.size wd w7 := hb5.trans (hB7.mono hs5)
                          rcases hFH with ⟨rfl, hno⟩ | ⟨j', rfl, hjk, hjb, hjn⟩
                          · have HNP : Hid (pos' + 1 = posOf cs k (m + 1 - f0)) := by
                              have := posOf_new (cs := cs) (by omega) (k := k) (m := m - f0) (i := m + 1) (by omega) (by rw [HKE.out]; omega) (by omega) (by rw [HKE.out, Nat.add_sub_cancel, HEY.out]) hno
                              rw [show m - f0 + 1 = m + 1 - f0 by omega, ← HPOS5.out] at this
                              exact this.symm
                            have hq5 : pos' + 1 ≤ k * 1048576 + (m + 1 - f0) := by omega
                            have hposs : pos' ≤ 300000000 := by omega
                            obtain ⟨r, hr0, hre, hrp, hrc⟩ := held_first (cs := cs) (by omega) HSTN.out (k := k) (i := m + 1) (t := ey.term) (by omega) (by omega) (by rw [HKE.out]; exact bringsC_iff.2 ⟨by omega, by omega, by rw [Nat.add_sub_cancel, HEY.out]⟩) hno
                            rw [HKE.out, Nat.add_sub_cancel, HEY.out] at hre
                            rw [HKE.out] at hrp
                            have hM7 := hM.below hb7
                            have ZD := zzHeld _ _ _ _ _ _ _ _ r hM7 hr0
                            rw [hre, hrp, hrc, Int.natCast_add, Int.cast_ofNat_Int] at ZD
                            have hcnt : cs.countP (bringsC (m + 1) ey.term) ≤ n := by rw [← hl]; exact List.countP_le_length
                            generalize hpx : prevT cc.log (m + 1) = px at ZD
                            have HPX : Hid (prevT cc.log (m + 1) = px) := hpx
                            generalize hcx : cs.countP (bringsC (m + 1) ey.term) = cnt at ZD hcnt
                            have HCX : Hid (cs.countP (bringsC (m + 1) ey.term) = cnt) := hcx
                            obtain ⟨hcc7, _⟩ := bcell hB7
                            have hb2r : b2 < wr.heap.size := by omega
                            have cz0 := (hcc7 _ _ hb2r).trans cy0
                            have cz1 := (hcc7 _ _ hb2r).trans cy1
                            have cz2 := (hcc7 _ _ hb2r).trans cy2
                            have cz3 := (hcc7 _ _ hb2r).trans cy3
                            have VZ := VY.keep (.of_below (hB7.mono (by omega))) (Nat.le_refl _) (Nat.le_refl _)
                            have hs7 := hB7.size
                            have hcw7 : Below wc.heap.size wd w7 := hb7.mono hsd
                            have hr7 : HCallsAt w7 0 wc.heap.size (some ⟨bx, ox, none⟩) n c cs := hd.keep (.of_below hcw7) (Nat.le_refl _) (Nat.le_refl _)
                            have hL7 := hL5.keep (.of_below (hB7.mono (by omega))) (Nat.le_refl _) (Nat.le_refl _)
                            clear hno hB7 FHc hr5 hL5 cy0 cy1 cy2 cy3 VY hb5 hkw5 hr0 hre hrp hrc hpx hcx hcc7
                            go_wp2_with (first
                              | (go_at_call 14; refine ZD.mono ?_; rintro _ w8 ⟨⟨_, _, _, _, rfl, ga, gl, gc, ka, kl, kc, rfl, rfl, rfl, rfl, hU⟩, hb8⟩))
                            obtain ⟨W9, hW9⟩ : ∃ W9, W9 = (w8.alloc (Obj.cells #[Value.int IntKind.u64 ey.term, Value.slice ga gl gc, Value.slice ka kl kc, Value.string ey.addr] 51)) := ⟨_, rfl⟩
                            rw [← hW9]
                            have hs8 := hb8.size
                            have hs9 : W9.heap.size = w8.heap.size + 1 := by rw [hW9]; simp
                            have e9 : W9.heap[w8.heap.size]? = some (.cells #[Value.int IntKind.u64 ey.term, Value.slice ga gl gc, Value.slice ka kl kc, Value.string ey.addr] 51 (0, 0)) := by rw [hW9]; exact heap_alloc_new _ _
                            have hb79 : Below w7.heap.size w7 W9 := by rw [hW9]; exact hb8.alloc hs8 _
                            clear hW9 hb8 ZD hM7
                            have hb9c : Below wc.heap.size w7 W9 := hb79.mono (by omega)
                            have q0 : W9.cell? ⟨w8.heap.size, 0, none⟩ = some (.int .u64 ey.term) := by simp [World.cell?, e9]
                            have q1 : W9.cell? ⟨w8.heap.size, 1, none⟩ = some (.slice ga gl gc) := by simp [World.cell?, e9]
                            have q2 : W9.cell? ⟨w8.heap.size, 2, none⟩ = some (.slice ka kl kc) := by simp [World.cell?, e9]
                            have q3 : W9.cell? ⟨w8.heap.size, 3, none⟩ = some (.string ey.addr) := by simp [World.cell?, e9]
                            obtain ⟨hcc9, _⟩ := bcell hb79
                            have hb27 : b2 < w7.heap.size := by omega
                            have z0 := (hcc9 _ _ hb27).trans cz0
                            have z1 := (hcc9 _ _ hb27).trans cz1
                            have z2 := (hcc9 _ _ hb27).trans cz2
                            have z3 := (hcc9 _ _ hb27).trans cz3
                            have VZ9 := VZ.keep (.of_below hb9c) (Nat.le_refl _) (Nat.le_refl _)
                            have VU9 : EntV W9 (w2.heap.size + 1) wc.heap.size (.int .u64 ey.term) (.slice ga gl gc) (.slice ka kl kc) (.string ey.addr) ey := EntV.keep (w := w7) ⟨ga, gl, gc, ka, kl, kc, rfl, rfl, rfl, rfl, hU⟩ (.of_below hb9c) (Nat.le_refl _) (Nat.le_refl _)
                            have hr9 := hr7.keep (.of_below hb9c) (Nat.le_refl _) (Nat.le_refl _)
                            have hL9 := hL7.keep (.of_below hb9c) (Nat.le_refl _) (Nat.le_refl _)
                            have hs97 := hb79.size
                            have hBw : wc.heap.size ≤ W9.heap.size := by omega
                            have HB9 : Hid (Below wd.heap.size wd W9) := hb7.trans (hb79.mono (by omega))
                            have G15 := gotIsEnt _ _ _ _ _ _ _ _ ey ey W9.drew (w2.heap.size + 1) wc.heap.size 0 wc.heap.size (by exact VU9) (by exact VZ9) hBw hBw
                            rw [gotB_refl] at G15
                            have P16 : ∀ W' : World, Below W9.heap.size W9.drew W' → Calls Try.prog 16 #[.slice (some ⟨b2, o2, none⟩) yl yc, .int .u64 ((m : Int) + 1)] W' fun e w' => e = .returned (.int .u64 px) ∧ W' = w' := fun W' hW' => by
                              have := prevTerm (some ⟨b2, o2, none⟩) yl yc (m + 1) cc.log W' 0 wc.heap.size (hL9.keep (fun k _ hk => hW'.block k (by omega)) (Nat.le_refl _) (Nat.le_refl _)) (by omega) (by omega)
                              rw [HPX.out, Int.natCast_add, Int.cast_ofNat_Int] at this
                              exact this
                            have C17 : ∀ W' : World, Below W9.heap.size W9.drew W' → Calls Try.prog 17 #[.slice (some ⟨bx, ox, none⟩) n c, .int .u64 ((m : Int) + 1), .int .u64 ey.term] W' fun e w' => e = .returned (.int .i64 cnt) ∧ Below W'.heap.size W' w' := fun W' hW' => by
                              have hsW : W9.heap.size ≤ W'.heap.size := hW'.size
                              have := countHolders (some ⟨bx, ox, none⟩) n c cs m ey.term W' 0 wc.heap.size (hr9.keep (fun k _ hk => hW'.block k (by omega)) (Nat.le_refl _) (Nat.le_refl _)) (by omega) (by omega) hn (fun cc hcc => (HSL.out cc hcc).1)
                              rw [HCX.out] at this
                              exact this
                            have hw2 : IntKind.u64.wrap (m : Int) = (m : Int) := IntWalk.u64_in _ ⟨by omega, by omega⟩
                            have hw1 : IntKind.u64.wrap ((m : Int) + 1 - 1) = (m : Int) := by rw [Int.add_sub_cancel]; exact hw2
                            have hl8 : w8.heap.size < W9.heap.size := by omega
                            have hl2 : b2 < W9.heap.size := by omega
                            clear cz0 cz1 cz2 cz3 VZ hr7 hL7 hcw7 hcc9 hb9c VZ9 VU9 hr9 hL9 hb79 e9 hU hb7 hd hM
                            go_region_held3 (fun w' => w'.cell? ⟨w8.heap.size, 0, none⟩ = some (.int .u64 ey.term) ∧ w'.cell? ⟨w8.heap.size, 1, none⟩ = some (.slice ga gl gc) ∧ w'.cell? ⟨w8.heap.size, 2, none⟩ = some (.slice ka kl kc) ∧ w'.cell? ⟨w8.heap.size, 3, none⟩ = some (.string ey.addr) ∧ w'.cell? ⟨b2, o2 + m * 4, none⟩ = some (.int .u64 ey.term) ∧ w'.cell? ⟨b2, o2 + m * 4 + 1, none⟩ = some (.slice da dl dc) ∧ w'.cell? ⟨b2, o2 + m * 4 + 2, none⟩ = some (.slice ma ml mc) ∧ w'.cell? ⟨b2, o2 + m * 4 + 3, none⟩ = some (.string ey.addr))
                              (first | exact ⟨(hcc _ _ hl8).trans q0, (hcc _ _ hl8).trans q1, (hcc _ _ hl8).trans q2, (hcc _ _ hl8).trans q3, (hcc _ _ hl2).trans z0, (hcc _ _ hl2).trans z1, (hcc _ _ hl2).trans z2, (hcc _ _ hl2).trans z3⟩ | exact ⟨q0, q1, q2, q3, z0, z1, z2, z3⟩)
                              (first
                                | (go_at_call 15; refine G15.mono ?_; rintro _ w11 ⟨rfl, hB11⟩; obtain ⟨hcc, hff⟩ := bcell hB11)
                                | (go_at_call 16; refine (P16 w11 hB11).mono ?_; rintro _ _ ⟨rfl, hw⟩; subst hw)
                                | (go_at_call 17; refine (C17 w11 hB11).mono ?_; rintro _ w12 ⟨rfl, hB12⟩; have hB13 := hB11.trans (hB12.mono hB11.size); obtain ⟨hcc, hff⟩ := bcell hB13))
                            have hb12 : Below wd.heap.size wd w12 := HB9.out.trans ⟨hB13.os, hB13.tape, hB13.output, hB13.size, fun i hi => hB13.block i (Nat.lt_of_lt_of_le hi (by show wd.heap.size ≤ W9.heap.size; omega))⟩
                            clear hcc hff hB11 hB12 hB13 q0 q1 q2 q3 z0 z1 z2 z3 G15 P16 C17 hw1 hw2
                            go_wp2
                            go_roundw
                            case rel => exact ⟨m + 1, pos' + 1, by go_num, by go_num, by omega, .inl (by omega), HNP.out, hq5, hb12⟩
                            case measure => simp [intOf]; omega
                          · have HNP : Hid (pos' = posOf cs k (m + 1 - f0)) := by
                              have := posOf_old (cs := cs) (by omega) (k := k) (m := m - f0) (i := m + 1) (by omega) (by rw [HKE.out]; omega) (by omega) (by rw [HKE.out, Nat.add_sub_cancel, HEY.out]) hjk hjb hjn
                              rw [show m - f0 + 1 = m + 1 - f0 by omega] at this
                              exact HPOS5.out.trans this.symm
                            have hq5 : pos' ≤ k * 1048576 + (m + 1 - f0) := by omega
                            clear hjb hjn hB7 FHc hr5 hL5 hd hM cy0 cy1 cy2 cy3 VY hb5 hkw5
                            go_wp2
                            go_roundw
                            case rel => exact ⟨m + 1, pos', rfl, by go_num, by omega, .inl (by omega), HNP.out, hq5, hb7⟩
                            case measure => simp [intOf]; omega
                        · have HEND : Hid (pos' = (hst (cs.take (k + 1))).length) := by
                            rcases hmy with hmy | hmy
                            · have := posOf_all (cs := cs) (k := k) (by omega)
                              rw [HKE.out, hfe, hyl, show yl + 1 - (f0 + 1) = m - f0 by omega] at this
                              exact HPOS5.out.trans this
                            · have := posOf_all (cs := cs) (k := k) (by omega)
                              rw [HKE.out, hfe, hyl, show yl + 1 - (f0 + 1) = m - f0 by omega] at this
                              exact HPOS5.out.trans this
                          have hq6 : pos' ≤ (k + 1) * 1048576 := by omega
                          clear hr hL hd hM
                          go_wp2
                          go_roundw
                          case rel => exact ⟨k + 1, pos', by omega, by go_num, rfl, HEND.out, hq6, hb5⟩
                          case measure => simp [intOf]; omega
                    · have hkn : k = n := by omega
                      have HPN : Hid (pos = M.length) := by
                        have := HPOS.out
                        rw [hkn, List.take_of_length_le (by omega), ← HSTN.out] at this
                        simpa [Hid] using this
                      have hMk := hM.below hblk
                      have ZL := zzHeldLen _ _ _ _ _ _ hMk
                      clear HPOS hkn hd hM hMk
                      go_wp2_with (go_at_call 18; refine ZL.mono ?_; rintro _ _ ⟨rfl, hw⟩; subst hw)
                      go_ret
                      exact ⟨ret_bool (by rw [HPN.out]; simp), hbAd.trans (hblk.mono hbAd.size)⟩
end Go.Proofs.Qxb6604092a
