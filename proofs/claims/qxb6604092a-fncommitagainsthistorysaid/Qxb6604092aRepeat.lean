import Derived.Test.Qxb6604092aAccess
import Derived.Test.Qxb6604092aAgain
import Derived.Test.Qxb6604092aToComm
import Derived.Test.Qxb6604092aZzC
import Derived.Test.Qxb6604092aZZNew
namespace Go.Proofs.Qxb6604092a
open Go.RowKit
open Go.ChangeMaps (setBlock)

/-- The checker as it lies in its variable: nothing is committed. -/
theorem comm_start {wc w6 : World} {ma : Option Addr} {ml mc : Nat} {ms : List Int} {x5 x6 x7 x8 x9 x12 x14 x16 : Value} {L : Nat} {mb : Nat} (hb6 : Below wc.heap.size wc w6) (m4 : IsMap wc.heap.size w6 (.map (some mb))) (h9 : x9 = .map (some mb))
    (hr : RowAt wc L wc.heap.size .u64 ma ml mc ms) :
    Comm ((w6.alloc (Obj.cells zeroCk 41)).setRow w6.heap.size (ckOf (.slice ma ml mc) x5 x6 x7 x8 x9 x12 x14 x16)) L wc.heap.size w6.heap.size mb ⟨[], 0, 0, ma.isNone, ms⟩ ∧
    Below wc.heap.size wc ((w6.alloc (Obj.cells zeroCk 41)).setRow w6.heap.size (ckOf (.slice ma ml mc) x5 x6 x7 x8 x9 x12 x14 x16)) := by
  obtain ⟨r, hrr, h1, h2⟩ := m4
  cases hrr
  have hs := hb6.size
  have hlt : mb < w6.heap.size := (Array.getElem?_eq_some_iff.1 h2).1
  have hz7 : (w6.alloc (Obj.cells zeroCk 41)).heap[w6.heap.size]? = some (.cells zeroCk 41 (0, 0)) := heap_alloc_new _ _
  have hB : Below wc.heap.size wc ((w6.alloc (Obj.cells zeroCk 41)).setRow w6.heap.size (ckOf (.slice ma ml mc) x5 x6 x7 x8 x9 x12 x14 x16)) := below_setRow (hb6.alloc hs _) hs _
  refine ⟨⟨[], hs, by omega, by simp; omega, ⟨_, setRow_heap _ _ _ _ _ _ hz7, rfl, by rw [h9]; rfl, rfl, ⟨ma, ml, mc, rfl, hr.keep (Keeps.of_below hB) (Nat.le_refl _) (Nat.le_refl _), rfl⟩, rfl⟩, ⟨#[], 0, ?_, rfl⟩, (fun r hr => absurd hr List.not_mem_nil), List.nodup_nil, rfl⟩, hB⟩
  rw [setRow_other _ _ _ _ (by omega), Below.heap_alloc _ _ _ hlt]
  exact h2

def RepSt (cs : List CCall) (k : Nat) (S : CSt) (b : Bool) : Prop := k = 0 ∨ ∃ S', S = (commitStep S' (cs.getD (k - 1) call0)).1 ∧ b = (commitStep S' (cs.getD (k - 1) call0)).2.1
theorem commitStep_ms {S : CSt} {c : CCall} (h : S.ms.length ≤ 1048576) (hc : SmallE c.e) : (commitStep S c).1.ms.length ≤ 1048576 := by
  have := hc.2.1
  unfold commitStep
  split
  · dsimp only
    split <;> assumption
  · exact h
theorem cells4 {w w' : World} {b : Nat} {v0 v1 v2 v3 : Value} {t : TypeId} (hb : Below w.heap.size w w') (h : w.heap[b]? = some (.cells #[v0, v1, v2, v3] t (0, 0))) :
    (∀ o, (w'.alloc o).cell? ⟨b, 0, none⟩ = some v0) ∧ (∀ o, (w'.alloc o).cell? ⟨b, 1, none⟩ = some v1) ∧ (∀ o, (w'.alloc o).cell? ⟨b, 2, none⟩ = some v2) ∧ (∀ o, (w'.alloc o).cell? ⟨b, 3, none⟩ = some v3) := by
  have hl : b < w.heap.size := (Array.getElem?_eq_some_iff.1 h).1
  have e1 := fun o => (hb.alloc hb.size o).block b hl
  refine ⟨fun o => ?_, fun o => ?_, fun o => ?_, fun o => ?_⟩ <;> simp [World.cell?, e1 o, h]
theorem Comm.drewN {w : World} {L B1 cb mb : Nat} {S : CSt} (h : Comm w L B1 cb mb S) (q : Nat) : Comm (w.drewN q) L B1 cb mb S := h

set_option maxRecDepth 20000 in
set_option maxHeartbeats 4000000 in
theorem lawRepeat (ma : Option Addr) (ml mc : Nat) (ms : List Int) (a : Option Addr) (n c : Nat) (cs : List CCall) (wA : World) (hR : RowAt wA 0 wA.heap.size .u64 ma ml mc ms) (h : CallsAt wA 0 wA.heap.size a n c cs) :
    Calls Try.prog 6 #[.slice ma ml mc, .slice a n c] wA fun r w' => r = .returned (.bool true) ∧ Below wA.heap.size wA w' := by
  have hm : n ≤ maxLen := Nat.le_trans h.2.1 h.2.2.1
  have hmm : ml ≤ maxLen := Nat.le_trans hR.2.1 hR.2.2.1
  have Z1 := zzCalls6 ma ml mc a n c cs wA 0 wA.heap.size hmm h
  unfold maxLen at hm hmm
  have hl := h.1
  go_enter Try.func6, Try.ntmps6
  go_wp2_with (go_at_call 39; refine Z1.mono ?_; rintro _ _ ⟨⟨b0, rfl⟩, hw1⟩; subst hw1)
  iterate 3
    · go_ret
      exact ⟨rfl, Below.refl _ _⟩
  · have hn4 : (n : Int) ≤ 4096 := by assumption
    have hm1 : (ml : Int) ≤ 131072 := by assumption
    refine (commitCallsBytes a n c cs (8 * ml) _ 0 _ h (by omega) (by omega)).mono ?_
    rintro _ w2 ⟨rfl, q, hq⟩
    have hb2 : Below wA.heap.size wA w2 := by rw [hq]; exact below_drewN (Below.refl _ _) _
    clear hq
    have HSM : Hid (callsGo cs (8 * ml) ≤ 1048576 → ∀ cc ∈ cs, SmallE cc.e) := callsGo_small cs _ (by omega)
    have hn : n ≤ 4096 := by omega
    have hml : ml ≤ 1048576 := by omega
    have h2 : CallsAt w2 0 w2.heap.size a n c cs := h.keep (.of_below hb2) (Nat.le_refl _) hb2.size
    have hR2 : RowAt w2 0 w2.heap.size .u64 ma ml mc ms := hR.keep (.of_below hb2) (Nat.le_refl _) hb2.size
    clear Z1 h hR
    go_wp2_with fail
    · go_ret
      exact ⟨rfl, hb2⟩
    · go_ret
      exact ⟨rfl, hb2⟩
    · have HSL : Hid (∀ cc ∈ cs, SmallE cc.e) := HSM.out (by assumption)
      have h0n : 0 < n := by
        have hz : ((n : Int) == 0) = false := by assumption
        have hz' : ¬ (n : Int) = 0 := by simpa using hz
        omega
      have hms : ms.length ≤ 1048576 := by rw [hR2.1]; omega
      clear HSM
      refine (toIDs ma ml mc ms w2 0 hR2 hml).mono ?_
      rintro _ w3 ⟨a3, n3, c3, rfl, hR3, hnil3, hb3⟩
      have h3 : CallsAt w3 0 w3.heap.size a n c cs := h2.keep (.of_below hb3) (Nat.le_refl _) hb3.size
      have hA3 : Below wA.heap.size wA w3 := hb2.trans (hb3.mono hb2.size)
      have HN3 : Hid (a3.isNone = ma.isNone) := hnil3
      clear h2 hR2 hb2 hnil3
      go_wp2_with (go_at_call 25; refine (toCommitted a n c cs w3 0 h3 hn HSL.out).mono ?_; rintro _ wc ⟨⟨a4, rfl, hces⟩, hb4⟩)
      have h4 : CallsAt wc 0 wc.heap.size a n c cs := h3.keep (.of_below hb4) (Nat.le_refl _) hb4.size
      have hR4 : RowAt wc 0 wc.heap.size .u64 a3 n3 c3 ms := hR3.keep (.of_below (hb4.mono (by omega))) (Nat.zero_le _) hb4.size
      have hAc : Below wA.heap.size wA wc := hA3.trans (hb4.mono hA3.size)
      have hc4 : CesAt wc 0 wc.heap.size a4 n cs := hces.keep (Keeps.refl _ _ _) (Nat.zero_le _) (Nat.le_refl _)
      clear h3 hR3 hA3 hb4 hces hb3
      refine (zzNewChecker a3 n3 c3 wc).mono ?_
      rintro _ w6 ⟨⟨x5, x6, x7, x8, x9, x12, x14, x16, rfl, m0, m1, m2, m3, m4, m34, s7, s9, s11⟩, hb6⟩
      have h1c := ckOf_one (v := .slice a3 n3 c3) rfl m0 m1 m2 m3 m4 s7 s9 s11
      have hz7 : (w6.alloc (Obj.cells zeroCk 41)).heap[w6.heap.size]? = some (.cells zeroCk 41 (0, 0)) := heap_alloc_new _ _
      go_wp2_with (refine wpList_store_row rfl 41 _ _ rfl w6.heap.size _ rfl rfl 41 zeroCk hz7 (by kernel_rfl) rfl h1c ?_)
      obtain ⟨mb, rfl, _⟩ := id m4
      obtain ⟨hH7, hB7⟩ := comm_start (x5 := x5) (x6 := x6) (x7 := x7) (x8 := x8) (x12 := x12) (x14 := x14) (x16 := x16) (L := 0) hb6 m4 rfl hR4
      clear m0 m1 m2 m3 m4 m34 s7 s9 s11 h1c hz7 hR4
      go_loopw [8, 9] (fun ls i w8 => ∃ (j : Nat) (S : CSt) (b : Bool), j ≤ n ∧ ls = .bool b ∧ i = .int .i64 j ∧ Comm w8 0 wc.heap.size w6.heap.size mb S ∧ Below wc.heap.size wc w8 ∧ RepSt cs j S b ∧ S.ms.length ≤ 1048576) (fun _ i _ => n - (intOf i).toNat)
      case atStart => exact ⟨0, _, false, Nat.zero_le _, rfl, rfl, hH7, hB7, .inl rfl, hms⟩
      case round =>
        obtain ⟨j, S, b, hj, rfl, rfl, hC, hbl, hrep, hSms⟩ := hrel
        clear hH7 hB7 hms
        by_cases hjt : j < n
        · obtain ⟨bx, ox, rfl, _, hbx, hcx⟩ := h4.at hjt
          obtain ⟨_, _, _, _, _, _, _, _, _, gn', _, _⟩ := hcx j hjt
          rcases hc4 with hc4 | ⟨by_, rfl, _, hby, hcy⟩
          · omega
          obtain ⟨v0, v1, v2, v3, gi', g0', g1', g2', g3', hEV'⟩ := hcy j hjt
          have gi := (hbl.cell (p := ⟨by_, j * 5, none⟩) hby).trans gi'
          have g0 := (hbl.cell (p := ⟨by_, j * 5 + 1, none⟩) hby).trans g0'
          have g1 := (hbl.cell (p := ⟨by_, j * 5 + 2, none⟩) hby).trans g1'
          have g2 := (hbl.cell (p := ⟨by_, j * 5 + 3, none⟩) hby).trans g2'
          have g3 := (hbl.cell (p := ⟨by_, j * 5 + 4, none⟩) hby).trans g3'
          have gn := (hbl.cell (p := ⟨bx, ox + j * 6 + 5, none⟩) hbx).trans gn'
          have hEV := hEV'.keep (.of_below hbl) (Nat.le_refl _) (Nat.le_refl _)
          have hSe : SmallE (cs.getD j call0).e := HSL.out _ (by have : j < cs.length := by omega
                                                                 simp [this])
          generalize hke : cs.getD j call0 = cc at gi gn hEV hSe
          have HKE : Hid (cs.getD j call0 = cc) := hke
          clear hcx hcy gn' gi' g0' g1' g2' g3' hEV' hke hrep
          have gx : (j : Int) < (n : Int) := by omega
          have gx0 : (0 : Int) ≤ (j : Int) := by omega
          go_wp2_with fail
          go_region_held3 (fun w' => w'.cell? ⟨by_, j * 5, none⟩ = some (.int .u64 cc.idx) ∧ w'.cell? ⟨by_, j * 5 + 1, none⟩ = some v0 ∧ w'.cell? ⟨by_, j * 5 + 2, none⟩ = some v1 ∧ w'.cell? ⟨by_, j * 5 + 3, none⟩ = some v2 ∧ w'.cell? ⟨by_, j * 5 + 4, none⟩ = some v3 ∧ w'.cell? ⟨bx, ox + j * 6 + 5, none⟩ = some (.int .u64 cc.nt)) (first | exact ⟨(hB9.cell (p := ⟨by_, _, none⟩) hby).trans gi, (hB9.cell (p := ⟨by_, _, none⟩) hby).trans g0, (hB9.cell (p := ⟨by_, _, none⟩) hby).trans g1, (hB9.cell (p := ⟨by_, _, none⟩) hby).trans g2, (hB9.cell (p := ⟨by_, _, none⟩) hby).trans g3, (hB9.cell (p := ⟨bx, _, none⟩) hbx).trans gn⟩ | exact ⟨gi, g0, g1, g2, g3, gn⟩) (first | (go_at_call 26; refine (zzCommit w6.heap.size mb cc.idx cc.nt v0 v1 v2 v3 cc.e S wr.drew 0 wc.heap.size (by exact hEV) (by exact hC)).mono ?_; rintro _ w9 ⟨rfl, hC9, hB9⟩))
          have HB9 : Below wc.heap.size wc w9 := hbl.trans ⟨hB9.os, hB9.tape, hB9.output, hB9.size, hB9.block⟩
          clear hB9 gi g0 g1 g2 g3 gn hEV hC h4
          go_wp2
          go_roundw
          case rel =>
            refine ⟨j + 1, _, _, by omega, rfl, by go_num, hC9, HB9, .inr ⟨S, ?_, ?_⟩, commitStep_ms hSms hSe⟩
            · rw [Nat.add_sub_cancel, HKE.out]
            · rw [Nat.add_sub_cancel, HKE.out]
          case measure => simp [intOf]; omega
        · obtain ⟨m, rfl⟩ : ∃ m, n = m + 1 := ⟨n - 1, by omega⟩
          have hjn : j = m + 1 := by omega
          subst hjn
          obtain ⟨bx, ox, rfl, _, hbx, hcx⟩ := h4.at (i := m) (by omega)
          obtain ⟨_, _, _, _, gx0', _, _, _, _, gn', _, _⟩ := hcx m (by omega)
          rcases hc4 with hc4 | ⟨by_, rfl, _, hby, hcy⟩
          · omega
          obtain ⟨v0, v1, v2, v3, gi', g0', g1', g2', g3', hEV'⟩ := hcy m (by omega)
          rcases hrep with hrep | ⟨S', hS, hb⟩
          · omega
          rw [Nat.add_sub_cancel] at hS hb
          generalize hke : cs.getD m call0 = cc at hS hb gx0' gn' gi' hEV'
          have gx := (hbl.cell (p := ⟨bx, ox + m * 6, none⟩) hbx).trans gx0'
          clear hcx hcy hke gx0'
          have lt0 : (m : Int) < ((m + 1 : Nat) : Int) := by omega
          have lt2 : (m : Int) < (m : Int) + 1 := by omega
          have lt1 : (0 : Int) ≤ (m : Int) := by omega
          obtain ⟨M, hCM⟩ := id hC
          obtain ⟨p, hp1, hp2, hp3, hp4⟩ := commit_again S' cc
          rw [← hS] at hp1 hp4
          rw [← hb] at hp2
          have HS : Hid (S = (commitStep S' cc).1) := hS
          have HB : Hid (sameE p.e cc.e = b) := hp2
          have HP3 : Hid _ := hp3
          have HP4 : Hid _ := hp4
          clear hS hb hp2 hp3 hp4
          have ZL := zzLast _ _ S wr _ _ hC
          have ZC := zzChanged _ _ S wr _ _ hC
          have ZN := zzLen _ _ S wr _ _ hC
          have ZM := zzMembers _ _ S wr _ _ hC
          go_wp2_with (first
            | (go_at_call 34; refine ZL.mono ?_; rintro _ _ ⟨rfl, hw⟩; subst hw)
            | (go_at_call 36; refine ZC.mono ?_; rintro _ _ ⟨rfl, hw⟩; subst hw)
            | (go_at_call 32; refine ZN.mono ?_; rintro _ _ ⟨rfl, hw⟩; subst hw)
            | (go_at_call 37; refine ZM.mono ?_; rintro _ _ ⟨⟨qa, ql, qc, rfl, hQ, hQn⟩, hw⟩; subst hw))
          have hQ' := hQ.keep (Keeps.refl _ _ _) (Nat.le_refl _) hbl.size
          refine (copyIDs qa ql qc S.ms wr 0 hQ' (by have := hQ.1; omega)).mono ?_
          rintro _ w7 ⟨a7, n7, c7, rfl, hR7, hn7, hb7⟩
          have hC7 := hC.below hb7
          have HN7 : Hid (a7.isNone = S.mn) := hn7.trans hQn
          clear ZL ZC ZN ZM hQ' hQ hQn hn7
          have ZD := zzCommitted _ _ S w7 _ _ cc.idx p hC7 hp1
          go_wp2_with (first
            | (go_at_call 29; refine ZD.mono ?_; rintro _ w8 ⟨⟨_, _, _, _, rfl, da, dl, dc, ea, el, ec, rfl, rfl, rfl, rfl, hU⟩, hb8⟩))
          obtain ⟨W9, hW9⟩ : ∃ W9, W9 = (w8.alloc (Obj.cells #[Value.int IntKind.u64 p.e.term, Value.slice da dl dc, Value.slice ea el ec, Value.string p.e.addr] 51)) := ⟨_, rfl⟩
          rw [← hW9]
          have hs7 := hb7.size
          have hs8 := hb8.size
          have hs9 : W9.heap.size = w8.heap.size + 1 := by rw [hW9]; simp
          have e9 : W9.heap[w8.heap.size]? = some (.cells #[Value.int IntKind.u64 p.e.term, Value.slice da dl dc, Value.slice ea el ec, Value.string p.e.addr] 51 (0, 0)) := by rw [hW9]; exact heap_alloc_new _ _
          have hb79 : Below w7.heap.size w7 W9 := by rw [hW9]; exact hb8.alloc hs8 _
          clear hW9 hb8 ZD hC7
          have hbW : Below wr.heap.size wr W9 := hb7.trans (hb79.mono hs7)
          have hR9 : RowAt W9 wr.heap.size W9.heap.size .u64 a7 n7 c7 S.ms := hR7.keep (.of_below hb79) (Nat.le_refl _) hb79.size
          have hU9 : EntV W9 0 wc.heap.size (.int .u64 p.e.term) (.slice da dl dc) (.slice ea el ec) (.string p.e.addr) p.e := EntV.keep (w := w7) ⟨da, dl, dc, ea, el, ec, rfl, rfl, rfl, rfl, hU⟩ (.of_below (hb79.mono (by have := hbl.size; omega))) (Nat.le_refl _) (Nat.le_refl _)
          have hC9 := hCM.below hbW
          have hcW : Below wc.heap.size wc W9 := hbl.trans (hbW.mono hbl.size)
          have gi := (hcW.cell (p := ⟨by_, m * 5, none⟩) hby).trans gi'
          have g0 := (hcW.cell (p := ⟨by_, m * 5 + 1, none⟩) hby).trans g0'
          have g1 := (hcW.cell (p := ⟨by_, m * 5 + 2, none⟩) hby).trans g1'
          have g2 := (hcW.cell (p := ⟨by_, m * 5 + 3, none⟩) hby).trans g2'
          have g3 := (hcW.cell (p := ⟨by_, m * 5 + 4, none⟩) hby).trans g3'
          have gn := (hcW.cell (p := ⟨bx, ox + m * 6 + 5, none⟩) hbx).trans gn'
          have hEV := hEV'.keep (.of_below hcW) (Nat.le_refl _) (Nat.le_refl _)
          have hA := hCM.2.2.2.2.2.2.2
          have hp1' := hp1
          rw [hA, cfind_p] at hp1'
          obtain ⟨r, hfr, hrp⟩ := Option.map_eq_some_iff.1 hp1'
          have hrpb : r.pb < wr.heap.size := by
            obtain ⟨_, _, _, _, _, _, q3, _⟩ := hCM.2.2.2.2.2.1 r (List.mem_of_find?_eq_some hfr)
            exact (Array.getElem?_eq_some_iff.1 q3).1
          have ZO := zzCommitOld w6.heap.size mb cc.idx cc.nt v0 v1 v2 v3 cc.e M S W9.drew 0 wc.heap.size r (by exact hEV) (by exact hC9) hfr
          rw [hrp, HB.out, HP3.out] at ZO
          have hAcs := hAc.size
          have HBW : Hid (Below wA.heap.size wA W9) := hAc.trans (hcW.mono hAc.size)
          clear gi' g0' g1' g2' g3' gn' gx hEV' hU hR7 hb7 hb79 hbW hC hCM hp1' hrp hA hC9 hfr hEV hAc hbl hSms h4 hb6
          go_region_held3 (fun w' => w'.cell? ⟨by_, m * 5, none⟩ = some (.int .u64 cc.idx) ∧ w'.cell? ⟨by_, m * 5 + 1, none⟩ = some v0 ∧ w'.cell? ⟨by_, m * 5 + 2, none⟩ = some v1 ∧ w'.cell? ⟨by_, m * 5 + 3, none⟩ = some v2 ∧ w'.cell? ⟨by_, m * 5 + 4, none⟩ = some v3 ∧ w'.cell? ⟨bx, ox + m * 6 + 5, none⟩ = some (.int .u64 cc.nt)) (first | exact ⟨(hB9.cell (p := ⟨by_, _, none⟩) hby).trans gi, (hB9.cell (p := ⟨by_, _, none⟩) hby).trans g0, (hB9.cell (p := ⟨by_, _, none⟩) hby).trans g1, (hB9.cell (p := ⟨by_, _, none⟩) hby).trans g2, (hB9.cell (p := ⟨by_, _, none⟩) hby).trans g3, (hB9.cell (p := ⟨bx, _, none⟩) hbx).trans gn⟩ | exact ⟨gi, g0, g1, g2, g3, gn⟩)
            (first | (go_at_call 26; refine ZO.mono ?_; rintro _ w9 ⟨rfl, hC9, hB9, hO9⟩))
          clear gi g0 g1 g2 g3 gn ZO
          have hsz9 : W9.heap.size ≤ w9.heap.size := hB9.size
          have hB9' : Below wc.heap.size W9 w9 := ⟨hB9.os, hB9.tape, hB9.output, hB9.size, hB9.block⟩
          have e10 : w9.heap[w8.heap.size]? = some (.cells #[Value.int IntKind.u64 p.e.term, Value.slice da dl dc, Value.slice ea el ec, Value.string p.e.addr] 51 (0, 0)) := (hO9 w8.heap.size (by show w8.heap.size < W9.heap.size; omega) (by omega)).trans e9
          have hR10 : RowAt w9 wr.heap.size w9.heap.size .u64 a7 n7 c7 S.ms := hR9.keep (fun k h1 h2 => hO9 k h2 (by omega)) (Nat.le_refl _) hsz9
          have hU10 := hU9.keep (.of_below hB9') (Nat.le_refl _) (Nat.le_refl _)
          have hBA : Below wA.heap.size wA w9 := HBW.out.trans (hB9'.mono hAcs)
          clear e9 hR9 hU9 hO9 hB9 hB9' HBW
          have hC10 : Comm w9 0 wc.heap.size w6.heap.size mb { S with A := lower cc.idx cc.nt S.A } := ⟨_, hC9⟩
          have ZD := zzCommitted _ _ _ w9 _ _ cc.idx p hC10 HP4.out
          clear hC9
          go_wp2_with (first
            | (go_at_call 29; refine ZD.mono ?_; rintro _ w11 ⟨⟨_, _, _, _, rfl, ga, gl, gc, ka, kl, kc, rfl, rfl, rfl, rfl, hV⟩, hb11⟩; obtain ⟨y0, y1, y2, y3⟩ := cells4 hb11 e10))
          obtain ⟨W12, hW12⟩ : ∃ W12, W12 = (w11.alloc (Obj.cells #[Value.int IntKind.u64 p.e.term, Value.slice ga gl gc, Value.slice ka kl kc, Value.string p.e.addr] 51)) := ⟨_, rfl⟩
          rw [← hW12]
          have hb12 : Below w9.heap.size w9 W12 := by rw [hW12]; exact hb11.alloc hb11.size _
          clear hW12 y0 y1 y2 y3 ZD hb11 e10
          have hB1 : wc.heap.size ≤ w9.heap.size := hC10.le
          have hs12 := hb12.size
          have hbc : Below wc.heap.size w9 W12 := hb12.mono hB1
          have hV12 : EntV W12 0 wc.heap.size (.int .u64 p.e.term) (.slice ga gl gc) (.slice ka kl kc) (.string p.e.addr) p.e := EntV.keep (w := w9) ⟨ga, gl, gc, ka, kl, kc, rfl, rfl, rfl, rfl, hV⟩ (.of_below hbc) (Nat.le_refl _) (Nat.le_refl _)
          have hU12 := hU10.keep (.of_below hbc) (Nat.le_refl _) (Nat.le_refl _)
          have ZS := sameHEntry _ _ _ _ _ _ _ _ p.e p.e W12 0 wc.heap.size 0 wc.heap.size hV12 hU12 (by omega) (by omega)
          rw [gotB_refl] at ZS
          refine ZS.mono ?_
          rintro _ w13 ⟨rfl, hb13⟩
          have hb913 : Below w9.heap.size w9 w13 := hb12.trans (hb13.mono hs12)
          have hC13 := hC10.below hb913
          have hR13 : RowAt w13 wr.heap.size w13.heap.size .u64 a7 n7 c7 S.ms := hR10.keep (.of_below hb913) (Nat.le_refl _) hb913.size
          have HA13 : Hid (Below wA.heap.size wA w13) := hBA.trans (hb913.mono hBA.size)
          clear ZS hV12 hU12 hV hU10 hbc hb12 hb13 hb913 hC10 hR10 hBA
          have ZL := zzLast _ _ _ w13 _ _ hC13
          have ZC := zzChanged _ _ _ w13 _ _ hC13
          have ZN := zzLen _ _ _ w13 _ _ hC13
          have ZM := zzMembers _ _ _ w13 _ _ hC13
          rw [length_lower] at ZN
          have hnil := fun w a n c => Lib.run_eql_slice_nil (P := Try.prog) w 39 99 a n c 0 0 Try.underlying39
          have HEQ : Hid (eqL S.ms S.ms = true) := eqL_refl S.ms
          go_wp2_with (first
            | (go_at_call 34; refine ZL.mono ?_; rintro _ _ ⟨rfl, hw⟩; subst hw)
            | (go_at_call 36; refine ZC.mono ?_; rintro _ _ ⟨rfl, hw⟩; subst hw)
            | (go_at_call 32; refine ZN.mono ?_; rintro _ _ ⟨rfl, hw⟩; subst hw)
            | (go_at_call 37; refine ZM.mono ?_; rintro _ _ ⟨⟨ra, rl, rc, rfl, hQ, hQn⟩, hw⟩; subst hw; have hNN : ra.isNone = a7.isNone := hQn.trans HN7.out.symm)
            | (go_at_call 42; refine (idsEq ra a7 rl rc n7 c7 S.ms S.ms _ _ _ _ _ hQ hR13).mono ?_; rintro _ w14 ⟨rfl, q14, hq14⟩))
          · exfalso
            have hx : (!S.mn == a7.isNone) = true := by assumption
            rw [HN7.out] at hx
            revert hx
            cases S.mn <;> decide
          · go_ret
            exact ⟨ret_bool HEQ.out, below_drewN HA13.out _⟩
end Go.Proofs.Qxb6604092a
