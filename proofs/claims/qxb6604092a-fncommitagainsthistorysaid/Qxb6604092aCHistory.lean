import Derived.Test.Qxb6604092aCMarks
import Derived.Test.Qxb6604092aZzC
namespace Go.Proofs.Qxb6604092a
open Go.RowKit
open Go.ChangeMaps (setBlock)

theorem mark_cases {P : Prop} {x mn : Bool} {i : Int} (hx : x = mn) (h : P ↔ mn = false ∧ 0 < i) : ∃ bb : Bool, (bb = true ↔ P) ∧ ((bb = false ∧ x = true) ∨ (bb = decide (0 < i) ∧ x = false)) := by
  subst hx
  cases x with
  | true => exact ⟨false, by rw [h]; simp, .inl ⟨rfl, rfl⟩⟩
  | false => exact ⟨decide (0 < i), by rw [h]; simp, .inr ⟨rfl, rfl⟩⟩
theorem calls_pos {w : World} {L B : Nat} {a : Option Addr} {n c : Nat} {cs : List CCall} (h : CallsAt w L B a n c cs) : ∀ cc ∈ cs, 0 ≤ cc.idx := by
  intro cc hcc
  obtain ⟨g, hg, rfl⟩ := List.mem_iff_getElem.1 hcc
  have hl := h.1
  obtain ⟨b, off, rfl, _, hb, hc⟩ := h.at (i := g) (by omega)
  obtain ⟨_, _, _, _, _, _, _, _, _, _, _, hf, _⟩ := hc g (by omega)
  have := (fits_u64 hf).1
  simpa [hg] using this

set_option maxRecDepth 20000 in
set_option maxHeartbeats 4000000 in
theorem lawHistory (ma : Option Addr) (ml mc : Nat) (ms : List Int) (a : Option Addr) (n c : Nat) (cs : List CCall) (wA : World) (hR : RowAt wA 0 wA.heap.size .u64 ma ml mc ms) (h : CallsAt wA 0 wA.heap.size a n c cs) :
    Calls Try.prog 5 #[.slice ma ml mc, .slice a n c] wA fun r w' => r = .returned (.bool true) ∧ Below wA.heap.size wA w' := by
  have hm : n ≤ maxLen := Nat.le_trans h.2.1 h.2.2.1
  have hmm : ml ≤ maxLen := Nat.le_trans hR.2.1 hR.2.2.1
  have Z1 := zzCalls5 ma ml mc a n c cs wA 0 wA.heap.size hmm h
  unfold maxLen at hm hmm
  have hl := h.1
  go_enter Try.func5, Try.ntmps5
  go_wp2_with (go_at_call 22; refine Z1.mono ?_; rintro _ _ ⟨⟨b0, rfl⟩, hw1⟩; subst hw1)
  iterate 3
    · go_ret
      exact ⟨rfl, Below.refl _ _⟩
  · have hn4 : (n : Int) ≤ 4096 := by assumption
    have hm1 : (ml : Int) ≤ 131072 := by assumption
    refine (commitCallsBytes a n c cs (8 * ml) _ 0 _ h (by omega) (by omega)).mono ?_
    rintro _ w2 ⟨rfl, q, hq⟩
    have hb2 : Below wA.heap.size wA w2 := by rw [hq]; exact below_drewN (Below.refl _ _) _
    clear hq
    have HSM : Hid (callsGo cs (8 * ml) ≤ 1048576 → ∀ cc ∈ cs, SmallE cc.e) := callsGo_small cs _ (by omega)
    have hn : n ≤ 4096 := by omega
    have hml : ml ≤ 1048576 := by omega
    have h2 : CallsAt w2 0 w2.heap.size a n c cs := h.keep (.of_below hb2) (Nat.le_refl _) hb2.size
    have hR2 : RowAt w2 0 w2.heap.size .u64 ma ml mc ms := hR.keep (.of_below hb2) (Nat.le_refl _) hb2.size
    clear Z1 h hR
    go_wp2_with fail
    · go_ret
      exact ⟨rfl, hb2⟩
    · have HSL : Hid (∀ cc ∈ cs, SmallE cc.e) := HSM.out (by assumption)
      have hms : ms.length ≤ 1048576 := by rw [hR2.1]; omega
      clear HSM
      refine (toIDs ma ml mc ms w2 0 hR2 hml).mono ?_
      rintro _ w3 ⟨a3, n3, c3, rfl, hR3, hnil3, hb3⟩
      have h3 : CallsAt w3 0 w3.heap.size a n c cs := h2.keep (.of_below hb3) (Nat.le_refl _) hb3.size
      have hA3 : Below wA.heap.size wA w3 := hb2.trans (hb3.mono hb2.size)
      have HN3 : Hid (a3.isNone = ma.isNone) := hnil3
      have hRm3 : RowAt w3 0 w3.heap.size .u64 ma ml mc ms := hR2.keep (.of_below hb3) (Nat.le_refl _) hb3.size
      clear h2 hR2 hb2 hnil3
      go_wp2_with (go_at_call 25; refine (toCommitted a n c cs w3 0 h3 hn HSL.out).mono ?_; rintro _ wc ⟨⟨a4, rfl, hces⟩, hb4⟩)
      have h4 : CallsAt wc 0 wc.heap.size a n c cs := h3.keep (.of_below hb4) (Nat.le_refl _) hb4.size
      have hR4 : RowAt wc 0 wc.heap.size .u64 a3 n3 c3 ms := hR3.keep (.of_below (hb4.mono (by omega))) (Nat.zero_le _) hb4.size
      have hAc : Below wA.heap.size wA wc := hA3.trans (hb4.mono hA3.size)
      have hc4 : CesAt wc 0 wc.heap.size a4 n cs := hces.keep (Keeps.refl _ _ _) (Nat.zero_le _) (Nat.le_refl _)
      have hRm : RowAt wc 0 wc.heap.size .u64 ma ml mc ms := hRm3.keep (.of_below hb4) (Nat.le_refl _) hb4.size
      have HPOSI : Hid (∀ c ∈ cs, 0 ≤ c.idx) := calls_pos h4
      clear h3 hR3 hA3 hb4 hces hb3 hRm3
      refine (zzNewChecker a3 n3 c3 wc).mono ?_
      rintro _ w6 ⟨⟨x5, x6, x7, x8, x9, x12, x14, x16, rfl, m0, m1, m2, m3, m4, m34, s7, s9, s11⟩, hb6⟩
      have h1c := ckOf_one (v := .slice a3 n3 c3) rfl m0 m1 m2 m3 m4 s7 s9 s11
      have hz7 : (w6.alloc (Obj.cells zeroCk 41)).heap[w6.heap.size]? = some (.cells zeroCk 41 (0, 0)) := heap_alloc_new _ _
      go_wp2_with (refine wpList_store_row rfl 41 _ _ rfl w6.heap.size _ rfl rfl 41 zeroCk hz7 (by kernel_rfl) rfl h1c ?_)
      obtain ⟨mb, rfl, _⟩ := id m4
      obtain ⟨hH7, hB7⟩ := comm_start (x5 := x5) (x6 := x6) (x7 := x7) (x8 := x8) (x12 := x12) (x14 := x14) (x16 := x16) (L := 0) hb6 m4 rfl hR4
      clear m0 m1 m2 m3 m4 m34 s7 s9 s11 h1c hz7 hR4
      obtain ⟨S0, hS0⟩ : ∃ S0 : CSt, S0 = ⟨[], 0, 0, a3.isNone, ms⟩ := ⟨_, rfl⟩
      rw [← hS0] at hH7
      have HS0 : Hid (S0.A = [] ∧ S0.last = 0 ∧ S0.chg = 0 ∧ S0.mn = ma.isNone ∧ S0.ms = ms) := by rw [hS0]; exact ⟨rfl, rfl, rfl, HN3.out, rfl⟩
      clear hS0 hms
      go_loopw [8] (fun i w8 => ∃ (j : Nat), j ≤ n ∧ i = .int .i64 j ∧ Comm w8 0 wc.heap.size w6.heap.size mb (cst S0 (cs.take j)) ∧ Below wc.heap.size wc w8) (fun i _ => n - (intOf i).toNat)
      case atStart => exact ⟨0, Nat.zero_le _, rfl, hH7, hB7⟩
      case round =>
        obtain ⟨j, hj, rfl, hC, hbl⟩ := hrel
        clear hH7 hB7
        by_cases hjt : j < n
        · obtain ⟨bx, ox, rfl, _, hbx, hcx⟩ := h4.at hjt
          obtain ⟨_, _, _, _, _, _, _, _, _, gn', _, _⟩ := hcx j hjt
          rcases hc4 with hc4 | ⟨by_, rfl, _, hby, hcy⟩
          · omega
          obtain ⟨v0, v1, v2, v3, gi', g0', g1', g2', g3', hEV'⟩ := hcy j hjt
          have gi := (hbl.cell (p := ⟨by_, j * 5, none⟩) hby).trans gi'
          have g0 := (hbl.cell (p := ⟨by_, j * 5 + 1, none⟩) hby).trans g0'
          have g1 := (hbl.cell (p := ⟨by_, j * 5 + 2, none⟩) hby).trans g1'
          have g2 := (hbl.cell (p := ⟨by_, j * 5 + 3, none⟩) hby).trans g2'
          have g3 := (hbl.cell (p := ⟨by_, j * 5 + 4, none⟩) hby).trans g3'
          have gn := (hbl.cell (p := ⟨bx, ox + j * 6 + 5, none⟩) hbx).trans gn'
          have hEV := hEV'.keep (.of_below hbl) (Nat.le_refl _) (Nat.le_refl _)
          have hMA := model_answers (S0 := S0) HS0.out.1 (cs := cs) (k := j) (by omega)
          have hTS : cst S0 (cs.take (j + 1)) = (commitStep (cst S0 (cs.take j)) (cs.getD j call0)).1 := by rw [take_snoc (by omega), cst_snoc]
          have hMC := fun W (hW : CallsAt W 0 wc.heap.size (some ⟨bx, ox, none⟩) n c cs) (hs : wc.heap.size ≤ W.heap.size) => modelCommit (some ⟨bx, ox, none⟩) n c cs j W 0 wc.heap.size hW hs hjt hn
          rw [hMA] at hMC
          generalize hke : cs.getD j call0 = cc at gi gn hEV hMC hTS
          have ZC := zzCommit w6.heap.size mb cc.idx cc.nt v0 v1 v2 v3 cc.e (cst S0 (cs.take j)) wr.drew 0 wc.heap.size (by exact hEV) (by exact hC)
          have HTS : Hid (cst S0 (cs.take (j + 1)) = (commitStep (cst S0 (cs.take j)) cc).1) := hTS
          have eCC : (⟨cc.idx, cc.e, cc.nt⟩ : CCall) = cc := rfl
          rw [eCC] at ZC
          generalize hres : commitStep (cst S0 (cs.take j)) cc = res at ZC hMC
          obtain ⟨S1, s1, s2⟩ := res
          have HRES : Hid (commitStep (cst S0 (cs.take j)) cc = (S1, s1, s2)) := hres
          clear hcx hcy gn' gi' g0' g1' g2' g3' hEV' hke hMA hTS hres hEV hC eCC
          have gx : (j : Int) < (n : Int) := by omega
          have gx0 : (0 : Int) ≤ (j : Int) := by omega
          go_wp2_with fail
          go_region_held3 (fun w' => w'.cell? ⟨by_, j * 5, none⟩ = some (.int .u64 cc.idx) ∧ w'.cell? ⟨by_, j * 5 + 1, none⟩ = some v0 ∧ w'.cell? ⟨by_, j * 5 + 2, none⟩ = some v1 ∧ w'.cell? ⟨by_, j * 5 + 3, none⟩ = some v2 ∧ w'.cell? ⟨by_, j * 5 + 4, none⟩ = some v3 ∧ w'.cell? ⟨bx, ox + j * 6 + 5, none⟩ = some (.int .u64 cc.nt)) (first | exact ⟨(hB9.cell (p := ⟨by_, _, none⟩) hby).trans gi, (hB9.cell (p := ⟨by_, _, none⟩) hby).trans g0, (hB9.cell (p := ⟨by_, _, none⟩) hby).trans g1, (hB9.cell (p := ⟨by_, _, none⟩) hby).trans g2, (hB9.cell (p := ⟨by_, _, none⟩) hby).trans g3, (hB9.cell (p := ⟨bx, _, none⟩) hbx).trans gn⟩ | exact ⟨gi, g0, g1, g2, g3, gn⟩)
            (first | (go_at_call 26; refine ZC.mono ?_; rintro _ w9 ⟨rfl, hC9, hB9⟩))
          have HB9 : Below wc.heap.size wc w9 := hbl.trans ⟨hB9.os, hB9.tape, hB9.output, hB9.size, hB9.block⟩
          have MC := hMC w9 (h4.keep (.of_below HB9) (Nat.le_refl _) (Nat.le_refl _)) HB9.size
          clear hB9 gi g0 g1 g2 g3 gn h4 hMC ZC
          go_wp2_with fail
          refine MC.mono ?_
          rintro _ w10 ⟨hsay, hB10⟩
          unfold SaysTwo at hsay
          subst hsay
          have hC10 := hC9.below hB10
          have hb10 : Below wc.heap.size wc w10 := HB9.trans (hB10.mono HB9.size)
          clear MC hB10 hC9 HB9
          go_wp2
          go_roundw
          case rel => exact ⟨j + 1, by omega, by go_num, by rw [HTS.out, HRES.out]; exact hC10, hb10⟩
          case measure => simp [intOf]; omega
        · have hjn : j = n := by omega
          have hCn : Comm wr 0 wc.heap.size w6.heap.size mb (cst S0 cs) := by
            rw [hjn, List.take_of_length_le (by omega)] at hC
            exact hC
          obtain ⟨S, hSe⟩ : ∃ S, S = cst S0 cs := ⟨_, rfl⟩
          have HSE : Hid (S = cst S0 cs) := hSe
          rw [← hSe] at hCn
          have hnj : ¬ j < n := hjt
          obtain ⟨wd, hwd⟩ : ∃ wd, wd = wr := ⟨_, rfl⟩
          subst hwd
          have hsd := hbl.size
          have hd : CallsAt wd 0 wc.heap.size a n c cs := h4.keep (.of_below hbl) (Nat.le_refl _) (Nat.le_refl _)
          have hRd : RowAt wd 0 wc.heap.size .u64 ma ml mc ms := hRm.keep (.of_below hbl) (Nat.le_refl _) (Nat.le_refl _)
          have hAd : Below wA.heap.size wA wd := hAc.trans (hbl.mono hAc.size)
          clear hjn hjt hC hSe h4 hRm hbl hc4 hAc
          obtain ⟨i0, hi, hz0, hz1, hz2⟩ := info_parts Try.info4
          have HB : i0.bytes * n ≤ 281474976710656 := by rw [hz2]; omega
          have hmlx : n ≤ maxLen := by unfold maxLen; omega
          go_wp2_with (first | (at_make; refine wpList_make_full _ rfl _ _ 74 rfl wd.heap.size 4 i0 _ 1 Try.underlying74 hi hz0 hz1 _ _ _ _ n rfl rfl rfl rfl HB hmlx (Nat.le_refl _) ?_; intro w3' hown hgrow))
          have hM3 : Marks w3' wd.heap.size n 0 cs := Marks.start cs hown (made_false n)
          have hb3' : Below wd.heap.size wd w3' := (Below.refl _ _).grown hgrow (Nat.le_refl _) (by simp)
          clear HB hmlx hi hz0 hz1 hz2 hown hgrow
          go_loopw [14, 15] (fun d i w8 => ∃ (j d' : Nat), j ≤ n ∧ i = .int .i64 j ∧ d = .int .i64 d' ∧ d' ≤ j ∧ d' = (cst S0 (cs.take j)).A.length ∧ Marks w8 wd.heap.size n j cs ∧ Below wd.heap.size wd w8) (fun _ i _ => n - (intOf i).toNat)
          case atStart => exact ⟨0, 0, Nat.zero_le _, rfl, rfl, Nat.le_refl _, by simp [cst, HS0.out.1], hM3, hb3'⟩
          case round =>
            obtain ⟨k, d, hk, rfl, rfl, hdk, hdl, hMk, hbk⟩ := hrel
            have HDL : Hid (d = (cst S0 (cs.take k)).A.length) := hdl
            clear hdl hM3 hb3'
            have hsk := hbk.size
            have hkc : Below wc.heap.size wd wr := hbk.mono hsd
            by_cases hkt : k < n
            · have hr : CallsAt wr 0 wc.heap.size a n c cs := hd.keep (.of_below hkc) (Nat.le_refl _) (Nat.le_refl _)
              have FAc := firstAt a n c cs k wr 0 wc.heap.size hr hkt hn
              go_wp2_with fail
              refine FAc.mono ?_
              rintro _ w7 ⟨⟨z, rfl, hFA⟩, q7, hq7⟩
              have hb7 : Below wr.heap.size wr w7 := by rw [hq7]; exact below_drewN (Below.refl _ _) _
              clear hq7 FAc
              have hM7 := hMk.below hb7
              have hbk7 : Below wd.heap.size wd w7 := hbk.trans (hb7.mono hsk)
              have hs7 := hb7.size
              rcases hFA with ⟨rfl, hfirst⟩ | ⟨j', rfl, hnf⟩
              · have HL : Hid (d + 1 = (cst S0 (cs.take (k + 1))).A.length) := by
                  have := (len_step HS0.out.1 (cs := cs) (k := k) (by omega)).1 hfirst
                  rw [← HDL.out] at this
                  exact this.symm
                have hr7 := hr.keep (.of_below (hb7.mono (by omega))) (Nat.le_refl _) (Nat.le_refl _)
                obtain ⟨bx, ox, rfl, _, hbx, hcx⟩ := hr7.at hkt
                have hEk := hcx k hkt
                obtain ⟨p, hp1, hp2, hp3⟩ := held_commit (S0 := S0) HS0.out.1 (cs := cs) (k := k) (by omega) hfirst
                rw [← HSE.out] at hp1
                have hchg : Change cs k ↔ (cs.getD k call0).e.mn = false ∧ 0 < (cs.getD k call0).idx := ⟨fun h => h.2, fun h => ⟨hfirst, h⟩⟩
                generalize hck : cs.getD k call0 = ck at hEk hp1 hp2 hp3 hchg
                have HS3 : Hid (seenAll cs ck.idx = some (ck.e, p.term)) := hp3
                obtain ⟨v0, v1, v2, v3, gi', g0', g1', g2', g3', gn', VK', hfi, _⟩ := hEk
                obtain ⟨da, dl, dc, xa, xl, xc, rfl, rfl, rfl, rfl, VKr⟩ := id VK'
                have hxn : xa.isNone = ck.e.mn := VKr.2.2.2.1
                obtain ⟨bb, hbb, hcase⟩ := mark_cases hxn hchg
                obtain ⟨W8, hW8⟩ : ∃ W8, W8 = w7.setCell ⟨wd.heap.size, k, none⟩ (.bool bb) := ⟨_, rfl⟩
                have hM8 : Marks W8 wd.heap.size n (k + 1) cs := by rw [hW8]; exact hM7.set hkt hbb
                have hb8 : Below wd.heap.size wd W8 := by rw [hW8]; exact hbk7.setCell (Nat.le_refl _) _
                obtain ⟨ov, old⟩ := hM7.old hkt
                have ofz := hM7.frozen k
                have hC8 : Comm W8 0 wc.heap.size w6.heap.size mb S := hCn.below hb8
                have ZD := zzCommitted _ _ S W8 _ _ ck.idx p hC8 hp1
                rw [hp2] at ZD
                have hb8c : Below wc.heap.size wd W8 := hb8.mono hsd
                have hr8 : CallsAt W8 0 wc.heap.size (some ⟨bx, ox, none⟩) n c cs := hd.keep (.of_below hb8c) (Nat.le_refl _) (Nat.le_refl _)
                have hs8 := hb8.size
                have VK8 : EntV W8 0 wc.heap.size (.int .u64 ck.e.term) (.slice da dl dc) (.slice xa xl xc) (.string ck.e.addr) ck.e := by
                  obtain ⟨bx', ox', he', _, _, hcx'⟩ := hr8.at hkt
                  cases he'
                  obtain ⟨_, _, _, _, _, t0, t1, t2, t3, _, VT, _, _⟩ := hcx' k hkt
                  have hne : ∀ o, W8.cell? ⟨bx, o, none⟩ = w7.cell? ⟨bx, o, none⟩ := fun o => by rw [hW8]; exact World.cell?_setCell_far _ _ _ _ (by simp; omega)
                  rw [hne] at t0 t1 t2 t3
                  rw [g0'] at t0; rw [g1'] at t1; rw [g2'] at t2; rw [g3'] at t3
                  cases t0; cases t1; cases t2; cases t3
                  rw [hck] at VT
                  exact VT
                have hne8 : ∀ o, W8.cell? ⟨bx, o, none⟩ = w7.cell? ⟨bx, o, none⟩ := fun o => by rw [hW8]; exact World.cell?_setCell_far _ _ _ _ (by simp; omega)
                have c8i := (hne8 _).trans gi'
                have c80 := (hne8 _).trans g0'
                have c81 := (hne8 _).trans g1'
                have c82 := (hne8 _).trans g2'
                have c83 := (hne8 _).trans g3'
                have c8n := (hne8 _).trans gn'
                have hnn := fun w a n c => run_neq_slice_nil_any (P := Try.prog) w 36 26 a n c 0 0 Try.underlying36
                have gkn : (k : Int) < (n : Int) := by omega
                have gk0 : (0 : Int) ≤ (k : Int) := by omega
                have hdn : d ≤ 4096 := by omega
                have HM8 : Hid (Marks W8 wd.heap.size n (k + 1) cs) := hM8
                have HR8 : Hid (CallsAt W8 0 wc.heap.size (some ⟨bx, ox, none⟩) n c cs) := hr8
                have HV8 : Hid (EntV W8 0 wc.heap.size (.int .u64 ck.e.term) (.slice da dl dc) (.slice xa xl xc) (.string ck.e.addr) ck.e) := VK8
                have HB8 : Hid (Below wd.heap.size wd W8) := hb8
                clear hfirst hbb hchg hM8 hr8 VK8 hb8 hb8c hC8 hcx hr hr7 VK' VKr hfi hxn hp1 hp2 hp3 hck hMk hM7 hbk7 hb7 hCn hne8
                rcases hcase with ⟨rfl, hx⟩ | ⟨rfl, hx⟩
                all_goals
                  go_wp2_with fail
                  rw [← hW8]
                  clear hW8 old ofz hnn gi' g0' g1' g2' g3' gn'
                  refine ZD.mono ?_
                  rintro _ w9 ⟨⟨_, _, _, _, rfl, ga, gl, gc, ka, kl, kc, rfl, rfl, rfl, rfl, hU⟩, hb9⟩
                  go_wp2_with fail
                  obtain ⟨W9, hW9⟩ : ∃ W9, W9 = (w9.alloc (Obj.cells #[Value.int IntKind.u64 ck.e.term, Value.slice ga gl gc, Value.slice ka kl kc, Value.string ck.e.addr] 51)) := ⟨_, rfl⟩
                  rw [← hW9]
                  have hs9a := hb9.size
                  have hs9 : W9.heap.size = w9.heap.size + 1 := by rw [hW9]; simp
                  have e9 : W9.heap[w9.heap.size]? = some (.cells #[Value.int IntKind.u64 ck.e.term, Value.slice ga gl gc, Value.slice ka kl kc, Value.string ck.e.addr] 51 (0, 0)) := by rw [hW9]; exact heap_alloc_new _ _
                  have hb89 : Below W8.heap.size W8 W9 := by rw [hW9]; exact hb9.alloc hs9a _
                  clear hW9 hb9 ZD
                  have hb9c : Below wc.heap.size W8 W9 := hb89.mono (by omega)
                  have q0 : W9.cell? ⟨w9.heap.size, 0, none⟩ = some (.int .u64 ck.e.term) := by simp [World.cell?, e9]
                  have q1 : W9.cell? ⟨w9.heap.size, 1, none⟩ = some (.slice ga gl gc) := by simp [World.cell?, e9]
                  have q2 : W9.cell? ⟨w9.heap.size, 2, none⟩ = some (.slice ka kl kc) := by simp [World.cell?, e9]
                  have q3 : W9.cell? ⟨w9.heap.size, 3, none⟩ = some (.string ck.e.addr) := by simp [World.cell?, e9]
                  have z0 := (hb9c.cell (p := ⟨bx, _, none⟩) hbx).trans c8i
                  have z1 := (hb9c.cell (p := ⟨bx, _, none⟩) hbx).trans c80
                  have z2 := (hb9c.cell (p := ⟨bx, _, none⟩) hbx).trans c81
                  have z3 := (hb9c.cell (p := ⟨bx, _, none⟩) hbx).trans c82
                  have z4 := (hb9c.cell (p := ⟨bx, _, none⟩) hbx).trans c83
                  have z5 := (hb9c.cell (p := ⟨bx, _, none⟩) hbx).trans c8n
                  have VZ9 := HV8.out.keep (.of_below hb9c) (Nat.le_refl _) (Nat.le_refl _)
                  have VU9 : EntV W9 0 wc.heap.size (.int .u64 ck.e.term) (.slice ga gl gc) (.slice ka kl kc) (.string ck.e.addr) ck.e := EntV.keep (w := W8) ⟨ga, gl, gc, ka, kl, kc, rfl, rfl, rfl, rfl, hU⟩ (.of_below hb9c) (Nat.le_refl _) (Nat.le_refl _)
                  have hr9 := HR8.out.keep (.of_below hb9c) (Nat.le_refl _) (Nat.le_refl _)
                  have hBw : wc.heap.size ≤ W9.heap.size := by omega
                  have hM9 := HM8.out.below hb89
                  have HB9 : Hid (Below wd.heap.size wd W9) := HB8.out.trans (hb89.mono (by omega))
                  have G30 := gotIsCall ck.idx ck.nt _ _ _ _ _ _ _ _ ck.e ck.e W9.drew 0 wc.heap.size 0 wc.heap.size (by exact VU9) (by exact VZ9) hBw hBw
                  rw [gotB_refl] at G30
                  have M31 : ∀ W' : World, Below W9.heap.size W9.drew W' → Calls Try.prog 31 #[.slice (some ⟨bx, ox, none⟩) n c, .int .u64 ck.idx] W' fun e w' => e = .returned (.int .u64 p.term) ∧ W' = w' := fun W' hW' =>
                    minNodeTerm (some ⟨bx, ox, none⟩) n c cs ck.idx p.term ck.e W' 0 wc.heap.size (hr9.keep (fun k _ hk => hW'.block k (by omega)) (Nat.le_refl _) (Nat.le_refl _)) hn HS3.out
                  have hl9 : w9.heap.size < W9.heap.size := by omega
                  have hlx : bx < W9.heap.size := by omega
                  clear c8i c80 c81 c82 c83 c8n VZ9 VU9 hr9 hb9c hb89 e9 hU
                  go_region_held3 (fun w' => w'.cell? ⟨w9.heap.size, 0, none⟩ = some (.int .u64 ck.e.term) ∧ w'.cell? ⟨w9.heap.size, 1, none⟩ = some (.slice ga gl gc) ∧ w'.cell? ⟨w9.heap.size, 2, none⟩ = some (.slice ka kl kc) ∧ w'.cell? ⟨w9.heap.size, 3, none⟩ = some (.string ck.e.addr) ∧ w'.cell? ⟨bx, ox + k * 6, none⟩ = some (.int .u64 ck.idx) ∧ w'.cell? ⟨bx, ox + k * 6 + 1, none⟩ = some (.int .u64 ck.e.term) ∧ w'.cell? ⟨bx, ox + k * 6 + 2, none⟩ = some (.slice da dl dc) ∧ w'.cell? ⟨bx, ox + k * 6 + 3, none⟩ = some (.slice xa xl xc) ∧ w'.cell? ⟨bx, ox + k * 6 + 4, none⟩ = some (.string ck.e.addr) ∧ w'.cell? ⟨bx, ox + k * 6 + 5, none⟩ = some (.int .u64 ck.nt))
                    (first | exact ⟨(hcc _ _ hl9).trans q0, (hcc _ _ hl9).trans q1, (hcc _ _ hl9).trans q2, (hcc _ _ hl9).trans q3, (hcc _ _ hlx).trans z0, (hcc _ _ hlx).trans z1, (hcc _ _ hlx).trans z2, (hcc _ _ hlx).trans z3, (hcc _ _ hlx).trans z4, (hcc _ _ hlx).trans z5⟩ | exact ⟨q0, q1, q2, q3, z0, z1, z2, z3, z4, z5⟩)
                    (first
                      | (go_at_call 30; refine G30.mono ?_; rintro _ w11 ⟨rfl, hB11⟩; obtain ⟨hcc, hff⟩ := bcell hB11)
                      | (go_at_call 31; refine (M31 w11 hB11).mono ?_; rintro _ _ ⟨rfl, hw⟩; subst hw))
                  have hM11 := hM9.below (w' := w11) ⟨hB11.os, hB11.tape, hB11.output, hB11.size, hB11.block⟩
                  have hb12 : Below wd.heap.size wd w11 := HB9.out.trans ⟨hB11.os, hB11.tape, hB11.output, hB11.size, fun i hi => hB11.block i (Nat.lt_of_lt_of_le hi (by show wd.heap.size ≤ W9.heap.size; omega))⟩
                  clear hcc hff hB11 q0 q1 q2 q3 z0 z1 z2 z3 z4 z5 G30 M31 hM9
                  go_wp2
                  go_roundw
                  case rel => exact ⟨k + 1, d + 1, by omega, by go_num, by go_num, by omega, HL.out, hM11, hb12⟩
                  case measure => simp [intOf]; omega
              · have HL : Hid (d = (cst S0 (cs.take (k + 1))).A.length) := by
                  have := (len_step HS0.out.1 (cs := cs) (k := k) (by omega)).2 hnf
                  exact HDL.out.trans this.symm
                have hM8 := hM7.skip (fun hh => hnf hh.1)
                clear hnf hr hd hRd hMk hM7 hCn
                go_wp2
                go_roundw
                case rel => exact ⟨k + 1, d, by omega, by go_num, rfl, by omega, HL.out, hM8, hbk7⟩
                case measure => simp [intOf]; omega
            · have hkn : k = n := by omega
              have hMn : Marks wr wd.heap.size n n cs := hkn ▸ hMk
              obtain ⟨f, hCh, hfi⟩ := hMn.ch
              have HFI : Hid (∀ i, f i = true ↔ i < n ∧ Change cs i) := hfi
              have hCk := hCn.below hbk
              have hr : CallsAt wr 0 wc.heap.size a n c cs := hd.keep (.of_below hkc) (Nat.le_refl _) (Nat.le_refl _)
              have hRk : RowAt wr 0 wc.heap.size .u64 ma ml mc ms := hRd.keep (.of_below hkc) (Nat.le_refl _) (Nat.le_refl _)
              have hAk : Below wA.heap.size wA wr := hAd.trans (hbk.mono hAd.size)
              have hdn : d = S.A.length := by
                have := HDL.out
                rw [hkn, List.take_of_length_le (by omega), ← HSE.out] at this
                exact this
              have hG : Greatest cs n S.last := by
                have := greatest (S0 := S0) HS0.out.1 HS0.out.2.1 (cs := cs) HPOSI.out n (by omega)
                rw [List.take_of_length_le (by omega), ← HSE.out] at this
                exact this
              have HCG : Hid (Chg cs n ma.isNone ms S) := by
                have := chg_cst (S0 := S0) HS0.out.1 HS0.out.2.2.1 (cs := cs) n (by omega)
                rw [List.take_of_length_le (by omega), ← HSE.out, HS0.out.2.2.2.1, HS0.out.2.2.2.2] at this
                exact this
              have hnk : ¬ k < n := hkt
              subst hdn
              have ZN := zzLen _ _ S wr _ _ hCk
              have ZL := zzLast _ _ S wr _ _ hCk
              have IG := isGreatest a n c cs S.last wr 0 wc.heap.size hr hn hG
              have ZC := zzChanged _ _ S wr _ _ hCk
              have ZM := zzMembers _ _ S wr _ _ hCk
              clear hkn hMk hMn hfi hCn hkt hG HDL hd hRd hAd hbk hkc hdk
              go_wp2_with (first
                | (go_at_call 32; refine ZN.mono ?_; rintro _ _ ⟨rfl, hw⟩; subst hw)
                | (go_at_call 34; refine ZL.mono ?_; rintro _ _ ⟨rfl, hw⟩; subst hw)
                | (go_at_call 33; refine IG.mono ?_; rintro _ _ ⟨rfl, hw⟩; subst hw))
              clear ZN ZL IG
              go_loop [20, 21] (fun cv i => ∃ (t : Nat) (cz : Int), t ≤ n ∧ i = .int .i64 t ∧ cv = .int .i64 cz ∧ ((cz = -1 ∧ ∀ g, g < t → ¬ Top cs g) ∨ ∃ t0 : Nat, cz = t0 ∧ t0 < n ∧ Top cs t0)) (fun _ i => n - (intOf i).toNat)
              case atStart => exact ⟨0, -1, Nat.zero_le _, rfl, rfl, .inl ⟨rfl, fun g hg => absurd hg (Nat.not_lt_zero _)⟩⟩
              case round =>
                obtain ⟨t, cz, ht, rfl, rfl, hcz⟩ := hrel
                by_cases htt : t < n
                · have HCZ : Hid ((cz = -1 ∧ ∀ g, g < t → ¬ Top cs g) ∨ ∃ t0 : Nat, cz = t0 ∧ t0 < n ∧ Top cs t0) := hcz
                  clear hcz
                  obtain ⟨bx, ox, rfl, _, hbx, hcx⟩ := hr.at htt
                  obtain ⟨_, _, _, _, gi, _⟩ := hcx t htt
                  have cf := hCh t htt
                  have CA := changeAbove _ n c cs wd.heap.size f (cs.getD t call0).idx wr 0 wc.heap.size hr hn hCh
                  generalize hit : (cs.getD t call0).idx = it at gi CA
                  have HIT : Hid ((cs.getD t call0).idx = it) := hit
                  generalize hft : f t = ft at cf
                  have HFT : Hid (f t = ft) := hft
                  have gtn : (t : Int) < (n : Int) := by omega
                  clear hcx hit hft hr hCh hRk hCk ZC ZM
                  cases ft with
                  | false =>
                    have HNT : Hid (¬ Top cs t) := fun hh => by
                      have := (HFI.out t).2 ⟨htt, hh.1⟩
                      rw [HFT.out] at this
                      cases this
                    clear CA
                    go_wp2
                    go_round
                    case rel => exact ⟨t + 1, cz, by omega, by go_num, rfl, HCZ.out.imp_left fun hh => ⟨hh.1, snoc_lt hh.2 HNT.out⟩⟩
                    case measure => simp [intOf]; omega
                  | true =>
                    have hct : Change cs t := ((HFI.out t).1 HFT.out).2
                    have HCT : Hid (Change cs t) := hct
                    clear hct
                    go_wp2_with fail
                    refine CA.mono ?_
                    rintro _ _ ⟨⟨ab, rfl, hab⟩, hw⟩
                    subst hw
                    have HAB : Hid (ab = true ↔ Above cs n f it) := hab
                    clear hab CA
                    cases ab with
                    | true =>
                      have HNT : Hid (¬ Top cs t) := fun hh => by
                        obtain ⟨j1, h1, h2, h3⟩ := HAB.out.1 rfl
                        rw [← HIT.out] at h3
                        exact hh.2 j1 (by omega) ((HFI.out j1).1 h2).2 h3
                      go_wp2
                      go_round
                      case rel => exact ⟨t + 1, cz, by omega, by go_num, rfl, HCZ.out.imp_left fun hh => ⟨hh.1, snoc_lt hh.2 HNT.out⟩⟩
                      case measure => simp [intOf]; omega
                    | false =>
                      have HT : Hid (Top cs t) := ⟨HCT.out, fun j1 h1 h2 h3 => by
                        have := HAB.out.2 ⟨j1, by omega, (HFI.out j1).2 ⟨by omega, h2⟩, by rw [← HIT.out]; exact h3⟩
                        cases this⟩
                      go_wp2
                      go_round
                      case rel => exact ⟨t + 1, t, by omega, by go_num, rfl, .inr ⟨t, rfl, htt, HT.out⟩⟩
                      case measure => simp [intOf]; omega
                · have hnt : ¬ t < n := htt
                  have htn : t = n := by omega
                  have hnil39 := fun w a n c => Lib.run_eql_slice_nil (P := Try.prog) w 39 99 a n c 0 0 Try.underlying39
                  have hnil36 := fun w a n c => Lib.run_eql_slice_nil (P := Try.prog) w 36 26 a n c 0 0 Try.underlying36
                  rcases hcz with ⟨rfl, hno⟩ | ⟨t0, rfl, ht0, htop⟩
                  · have HE : S.chg = 0 ∧ S.mn = ma.isNone ∧ S.ms = ms := by
                      rcases HCG.out with h | ⟨j1, h1, h2, h3, h4, h5, h6⟩
                      · exact ⟨h.1, h.2.1, h.2.2.1⟩
                      · exact absurd ⟨h2, fun i hi hc hlt => by have := h6 i (by omega) hc; omega⟩ (hno j1 (by omega))
                    rw [HE.1] at ZC
                    rw [HE.2.1, HE.2.2] at ZM
                    have HEQ : Hid (eqL ms ms = true) := eqL_refl ms
                    clear HE hno hr hCh hCk htn
                    go_wp2_with (first
                      | (go_at_call 36; refine ZC.mono ?_; rintro _ _ ⟨rfl, hw⟩; subst hw)
                      | (go_at_call 37; refine ZM.mono ?_; rintro _ _ ⟨⟨ra, rl, rc, rfl, hQ, hQn⟩, hw⟩; subst hw)
                      | (go_at_call 38; refine (idsEqU ra ma rl rc ml mc ms ms _ _ _ _ _ hQ hRk).mono ?_; rintro _ w14 ⟨rfl, q14, hq14⟩))
                    go_ret
                    exact ⟨ret_bool HEQ.out, below_drewN hAk _⟩
                  · obtain ⟨bx, ox, rfl, _, hbx, hcx⟩ := hr.at ht0
                    obtain ⟨v0, v1, v2, v3, gi, g0, g1, g2, g3, gn, hV, _, _⟩ := hcx t0 ht0
                    obtain ⟨da, dl, dc, xa, xl, xc, rfl, rfl, rfl, rfl, _, _, hX, hxn, _⟩ := hV
                    have HE : S.chg = (cs.getD t0 call0).idx ∧ S.mn = (cs.getD t0 call0).e.mn ∧ S.ms = (cs.getD t0 call0).e.mems := by
                      rcases HCG.out with h | ⟨j1, h1, h2, h3, h4, h5, h6⟩
                      · exact absurd htop.1 (h.2.2.2 t0 ht0)
                      · have e := top_unique (by omega) (by omega) (⟨h2, fun i hi hc hlt => by have := h6 i (by omega) hc; omega⟩ : Top cs j1) htop
                        subst e
                        exact ⟨h3, h4, h5⟩
                    rw [HE.1] at ZC
                    rw [HE.2.1, HE.2.2] at ZM
                    clear HE htop hr hCh hCk htn hRk hcx g0 g1 g3 gn
                    generalize cs.getD t0 call0 = ct at gi g2 hX hxn ZC ZM
                    have HEQ : Hid (eqL ct.e.mems ct.e.mems = true) := eqL_refl ct.e.mems
                    have gx : (t0 : Int) < (n : Int) := by omega
                    have gx0 : (0 : Int) ≤ (t0 : Int) := by omega
                    go_wp2_with (first
                      | (go_at_call 36; refine ZC.mono ?_; rintro _ _ ⟨rfl, hw⟩; subst hw)
                      | (go_at_call 37; refine ZM.mono ?_; rintro _ _ ⟨⟨ra, rl, rc, rfl, hQ, hQn⟩, hw⟩; subst hw)
                      | (go_at_call 38; refine (idsEqU ra xa rl rc xl xc _ _ _ _ _ _ _ hQ hX).mono ?_; rintro _ w14 ⟨rfl, q14, hq14⟩))
                    go_ret
                    exact ⟨ret_bool HEQ.out, below_drewN hAk _⟩
end Go.Proofs.Qxb6604092a
