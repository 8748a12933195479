import Derived.Test.Qxb6604092aHold
import Derived.Test.Qxb6604092aHoldPlain
import Derived.Test.Qxb6604092aToLog
import Derived.Test.Qxb6604092aZz
namespace Go.Proofs.Qxb6604092a
open Go.RowKit
open Go.ChangeMaps (setBlock)

set_option maxHeartbeats 400000 in
theorem zzHold (a : Option Addr) (n c f cb hb : Nat) (es : List Ent) (M0 : List HR) (w : World) (L B1 : Nat) (hL : LogAt w L B1 a n c es) (hn : n ≤ 1048576) (hf : 1 ≤ f) (hf' : (f : Int) ≤ 18446744073709551615) (hH : HeldAt w L B1 cb hb M0) :
    Calls Try.prog 11 #[.pointer (some ⟨cb, 0, none⟩), .slice a n c, .int .u64 f] w fun r w' => ∃ (M : List HR) (b : Bool), r = .returned (.bool b) ∧ HeldAt w' L B1 cb hb M ∧ Below B1 w w' ∧ (M.map HR.p, b) = holdGo es (n + 1 - f) f (M0.map HR.p) true := by
  have H := hold a n c f cb hb es M0 w L B1 hL hn hf hf' hH
  clear hf'
  go_enter Try.func11, Try.ntmps11
  go_wp2_with (go_at_call 46; refine H.mono ?_; rintro _ w1 ⟨M, b, rfl, h1, h2, h3⟩)
  go_ret
  exact ⟨M, b, rfl, h1, h2, h3⟩

/-! ### The copies of the logs -/
/-- A block of the call's own, being filled with logs. -/
def FillL (w : World) (g : Nat) (n k : Nat) (ls : List (List Ent)) : Prop :=
  ∃ cur : Array Value, w.heap[g]? = some (.cells cur 31 (0, 0)) ∧ cur.size = n ∧ ∀ i, i < k → ∃ a l c, cur[i]? = some (.slice a l c) ∧ LogAt w (g + 1) w.heap.size a l c (ls.getD i [])
theorem FillL.start {w : World} {g n : Nat} {xs : List Value} {base : Nat} (ls : List (List Ent)) (h : w.ownsRow base 31 1 (.slice (Option.some ⟨g, 0, none⟩) n n) n xs) : FillL w g n 0 ls := by
  obtain ⟨h1, h2⟩ := h
  rcases h2 with ⟨h2, _⟩ | ⟨g', cap, cur, hv, hg, hh, r1, r2, r3, r4⟩
  · cases h2
  · simp at hv
    obtain ⟨rfl, rfl⟩ := hv
    exact ⟨cur, hh, by simpa using r3, fun i hi => by omega⟩
theorem FillL.old {w : World} {g n k : Nat} {ls : List (List Ent)} (h : FillL w g n k ls) {i : Nat} (hi : i < n) : ∃ v, w.cell? ⟨g, i, none⟩ = some v := by
  obtain ⟨cur, h1, h2, h3⟩ := h
  exact ⟨cur[i], by simp [World.cell?, h1]⟩
theorem FillL.frozen {w : World} {g n k : Nat} {ls : List (List Ent)} (h : FillL w g n k ls) (i : Nat) : w.frozen? ⟨g, i, none⟩ = false := by
  obtain ⟨cur, h1, h2, h3⟩ := h
  simp [World.frozen?, h1]
theorem FillL.lt {w : World} {g n k : Nat} {ls : List (List Ent)} (h : FillL w g n k ls) : g < w.heap.size := by
  obtain ⟨cur, h1, h2, h3⟩ := h
  exact (Array.getElem?_eq_some_iff.1 h1).1
theorem FillL.step {wr w2 : World} {g n k : Nat} {ls : List (List Ent)} {a : Option Addr} {l c : Nat} (h : FillL wr g n k ls) (hk : k < n) (hb : Below wr.heap.size wr w2) (hE : LogAt w2 wr.heap.size w2.heap.size a l c (ls.getD k [])) :
    FillL (w2.setCell ⟨g, k, none⟩ (.slice a l c)) g n (k + 1) ls := by
  have hlt := h.lt
  obtain ⟨cur, h1, h2, h3⟩ := h
  have e1 : w2.heap[g]? = some (.cells cur 31 (0, 0)) := (hb.block g hlt).trans h1
  have hs : (w2.setCell ⟨g, k, none⟩ (.slice a l c)).heap.size = w2.heap.size := by simp
  have hkp : Keeps (g + 1) w2.heap.size w2 (w2.setCell ⟨g, k, none⟩ (.slice a l c)) := Keeps.setCell (.inl (by simp)) _
  refine ⟨_, heap_setCell_at e1, by simpa using h2, fun i hi => ?_⟩
  rw [hs]
  by_cases e : i = k
  · subst e
    exact ⟨a, l, c, by simp [h2, hk], hE.keep (hkp.mono (by omega) (Nat.le_refl _)) (by omega) (Nat.le_refl _)⟩
  · obtain ⟨x, y, z, c0, c4⟩ := h3 i (by omega)
    refine ⟨x, y, z, by rw [Array.getElem?_setIfInBounds_ne (by omega)]; exact c0, ?_⟩
    exact c4.keep ((Keeps.of_below hb).trans (hkp.mono (Nat.le_refl _) hb.size)) (Nat.le_refl _) hb.size
theorem FillL.logs {w : World} {g n : Nat} {ls : List (List Ent)} (h : FillL w g n n ls) : ∀ i, i < n → ∃ a l c, w.cell? ⟨g, i, none⟩ = some (.slice a l c) ∧ LogAt w (g + 1) w.heap.size a l c (ls.getD i []) := by
  intro i hi
  obtain ⟨cur, h1, h2, h3⟩ := h
  obtain ⟨a, l, c, c0, c4⟩ := h3 i hi
  exact ⟨a, l, c, by simpa [World.cell?, h1] using c0, c4⟩

theorem Try.info31 : (Try.prog.info? 31).map (fun i => (i.zero, i.size, i.bytes)) = some (some (.slice none 0 0), 1, 24) := by kernel_rfl

/-- The checker as it lies in its variable: nothing is held. -/
theorem held_start {wc w6 : World} {v x5 x6 x7 x8 x9 x12 x14 x16 : Value} {L : Nat} {hb : Nat} (hb6 : Below wc.heap.size wc w6) (m3 : IsMap wc.heap.size w6 (.map (some hb))) (h8 : x8 = .map (some hb)) :
    HeldAt ((w6.alloc (Obj.cells zeroCk 41)).setRow w6.heap.size (ckOf v x5 x6 x7 x8 x9 x12 x14 x16)) L wc.heap.size w6.heap.size hb [] ∧
    Below wc.heap.size wc ((w6.alloc (Obj.cells zeroCk 41)).setRow w6.heap.size (ckOf v x5 x6 x7 x8 x9 x12 x14 x16)) := by
  obtain ⟨r, hr, h1, h2⟩ := m3
  cases hr
  have hs := hb6.size
  have hlt : hb < w6.heap.size := (Array.getElem?_eq_some_iff.1 h2).1
  have hz7 : (w6.alloc (Obj.cells zeroCk 41)).heap[w6.heap.size]? = some (.cells zeroCk 41 (0, 0)) := heap_alloc_new _ _
  refine ⟨⟨hs, by omega, by simp; omega, ?_, ⟨#[], 0, ?_, rfl⟩, (fun r hr => absurd hr (List.not_mem_nil)), List.nodup_nil⟩, below_setRow (hb6.alloc hs _) hs _⟩
  · rw [cell_setRow_same _ _ _ _ _ _ _ hz7, h8]
    rfl
  · rw [setRow_other _ _ _ _ (by omega), Below.heap_alloc _ _ _ hlt]
    exact h2

theorem holdAll_drop {ls : List (List Ent)} {j : Nat} (hj : j < ls.length) (A : List HP) (b : Bool) :
    holdAll (ls.drop j) A b = holdAll (ls.drop (j + 1)) (holdGo (ls.getD j []) (ls.getD j []).length 1 A true).1 (b && (holdGo (ls.getD j []) (ls.getD j []).length 1 A true).2) := by
  rw [List.drop_eq_getElem_cons hj]
  simp [holdAll, hj]

theorem step_all {ls : List (List Ent)} {j ll : Nat} {A A' : List HP} {b b' c : Bool} {es : List Ent} (h : holdAll (ls.drop j) A b = holdAll ls [] true)
    (hs : holdAll (ls.drop j) A b = holdAll (ls.drop (j + 1)) (holdGo es es.length 1 A true).1 (b && (holdGo es es.length 1 A true).2)) (hl : es.length = ll) (hg : (A', b') = holdGo es (ll + 1 - 1) 1 A true) (hc : c = (b && b')) :
    holdAll (ls.drop (j + 1)) A' c = holdAll ls [] true := by
  rw [← h, hs, hl]
  rw [show ll + 1 - 1 = ll by omega] at hg
  rw [← hg, hc]

set_option maxRecDepth 20000 in
set_option maxHeartbeats 4000000 in
theorem lawHoldAll (a : Option Addr) (n c : Nat) (ls : List (List Ent)) (wA : World) (h : LogsAt wA 0 wA.heap.size a n c ls) :
    Calls Try.prog 4 #[.slice a n c] wA fun r w' => r = .returned (.bool true) ∧ Below wA.heap.size wA w' := by
  have hm : n ≤ maxLen := Nat.le_trans h.2.1 h.2.2.1
  unfold maxLen at hm
  have hl := h.1
  have Z1 := zzLogs a n c ls wA 0 wA.heap.size h
  go_enter Try.func4, Try.ntmps4
  go_wp2_with (go_at_call 19; refine Z1.mono ?_; rintro _ _ ⟨⟨b0, rfl⟩, hw1⟩; subst hw1)
  · go_ret
    exact ⟨rfl, Below.refl _ _⟩
  · go_ret
    exact ⟨rfl, Below.refl _ _⟩
  · have hn256 : (n : Int) ≤ 256 := by assumption
    refine (logsBytes a n c ls _ 0 _ h).mono ?_
    rintro _ w2 ⟨rfl, q, hq⟩
    have hb2 : Below wA.heap.size wA w2 := by rw [hq]; exact below_drewN (Below.refl _ _) _
    clear hq
    have HSM : Hid (logsGo ls 0 ≤ 1048576 → ∀ l ∈ ls, SmallL l) := logsGo_small ls 0 (by omega) (by omega)
    have hn : n ≤ 256 := by omega
    obtain ⟨i0, hi, hz0, hz1, hz2⟩ := info_parts Try.info31
    have HB : i0.bytes * n ≤ 281474976710656 := by rw [hz2]; omega
    have hml : n ≤ maxLen := by unfold maxLen; omega
    have h2 : LogsAt w2 0 w2.heap.size a n c ls := h.keep (.of_below hb2) (Nat.le_refl _) hb2.size
    clear Z1 h hn256
    go_wp2_with (first | (at_make; refine wpList_make_full _ rfl _ _ 29 rfl w2.heap.size 31 i0 _ 1 Try.underlying29 hi hz0 hz1 _ _ _ _ n rfl rfl rfl rfl HB hml (Nat.le_refl _) ?_; intro w3 hown hgrow))
    · go_ret
      exact ⟨rfl, hb2⟩
    · have hsmall := HSM.out (by assumption)
      have HSL : Hid (∀ l ∈ ls, SmallL l) := hsmall
      clear HSM hsmall
      go_loopw [4] (fun i wr => ∃ k : Nat, k ≤ n ∧ i = .int .i64 k ∧ FillL wr w2.heap.size n k ls ∧ Below w2.heap.size w2 wr) (fun i _ => n - (intOf i).toNat)
      case atStart => exact ⟨0, Nat.zero_le _, rfl, FillL.start ls hown, (Below.refl _ _).grown hgrow (Nat.le_refl _) (by simp)⟩
      case round =>
        obtain ⟨k, hk, rfl, hfl, hbl⟩ := hrel
        by_cases hlt : k < n
        · obtain ⟨bx, ox, rfl, hbx, hcx⟩ := h2.at hlt
          obtain ⟨la, ll, lc, c0, r1⟩ := hcx k hlt
          have hbw : w2.heap.size ≤ wr.heap.size := hbl.size
          have c0' := (hbl.cell (p := ⟨bx, ox + k, none⟩) hbx).trans c0
          have r1' : LogAt wr 0 wr.heap.size la ll lc (ls.getD k []) := r1.keep (.of_below hbl) (Nat.le_refl _) hbw
          have hSl : SmallL (ls.getD k []) := HSL.out _ (by have : k < ls.length := by omega
                                                            simp [this])
          generalize hes : ls.getD k [] = es at r1' hSl
          have HES : Hid (ls.getD k [] = es) := hes
          obtain ⟨v0, o0⟩ := hfl.old hlt
          have f0 := hfl.frozen k
          have hgl := hfl.lt
          clear hcx c0 r1 hes h2
          have gx : (k : Int) < (n : Int) := by omega
          go_wp2_with (go_at_call 9; refine (toLog la ll lc es wr 0 r1' hSl).mono ?_; rintro _ w5 ⟨⟨a5, n5, c5, rfl, hL5⟩, hB5⟩; obtain ⟨hcc, hff⟩ := bcell hB5; have t0 := (hcc _ _ hgl).trans o0; have y0 := (hff _ _ hgl).trans f0)
          have HF := hfl.step hlt hB5 (a := a5) (l := n5) (c := c5) (by rw [HES.out]; exact hL5)
          have HBL : Below w2.heap.size w2 w5 := hbl.trans (hB5.mono hbw)
          go_roundw
          case rel => exact ⟨k + 1, by omega, by go_num, HF, HBL.setCell (Nat.le_refl _) _⟩
          case measure => simp [intOf]; omega
        · have hkn : k = n := by omega
          have hfl' : FillL wr w2.heap.size n n ls := hkn ▸ hfl
          have hnk : ¬ k < n := hlt
          have hlogs := hfl'.logs
          have hg := hfl'.lt
          have h9 : LogsAt wr 0 wr.heap.size a n c ls := h2.keep (.of_below hbl) (Nat.le_refl _) hbl.size
          have hbA : Below wA.heap.size wA wr := hb2.trans (hbl.mono hb2.size)
          clear h2 hkn hlt hfl hfl' hown hgrow
          go_wp2_with fail
          refine (zzNewChecker none 0 0 wr).mono ?_
          rintro _ w6 ⟨⟨x5, x6, x7, x8, x9, x12, x14, x16, rfl, m0, m1, m2, m3, m4, m34, s7, s9, s11⟩, hb6⟩
          have h1c := ckOf_one (v := .slice none 0 0) rfl m0 m1 m2 m3 m4 s7 s9 s11
          obtain ⟨cb, hcb⟩ : ∃ cb, cb = w6.heap.size := ⟨_, rfl⟩
          have hz7 : (w6.alloc (Obj.cells zeroCk 41)).heap[w6.heap.size]? = some (.cells zeroCk 41 (0, 0)) := heap_alloc_new _ _
          go_wp2_with (refine wpList_store_row rfl 41 _ _ rfl w6.heap.size _ rfl rfl 41 zeroCk hz7 (by kernel_rfl) rfl h1c ?_)
          obtain ⟨hb, rfl, _⟩ := id m3
          obtain ⟨hH7, hB7⟩ := held_start (v := .slice none 0 0) (x5 := x5) (x6 := x6) (x7 := x7) (x9 := x9) (x12 := x12) (x14 := x14) (x16 := x16) (L := w2.heap.size + 1) hb6 m3 rfl
          obtain ⟨wc, hwc⟩ : ∃ wc, wc = wr := ⟨_, rfl⟩
          subst hwc
          clear m0 m1 m2 m3 m4 m34 s7 s9 s11 h1c hz7 hcb
          go_loopw [6, 7] (fun ok i w8 => ∃ (j : Nat) (M : List HR) (b : Bool), j ≤ n ∧ ok = .bool b ∧ i = .int .i64 j ∧ HeldAt w8 (w2.heap.size + 1) wc.heap.size w6.heap.size hb M ∧ Below wc.heap.size wc w8 ∧ holdAll (ls.drop j) (M.map HR.p) b = holdAll ls [] true) (fun _ i _ => n - (intOf i).toNat)
          case atStart => exact ⟨0, [], true, Nat.zero_le _, rfl, rfl, hH7, hB7, rfl⟩
          case round =>
            obtain ⟨j, M, b, hj, rfl, rfl, hM, hbl8, hall⟩ := hrel
            have HALL : Hid (holdAll (ls.drop j) (M.map HR.p) b = holdAll ls [] true) := hall
            clear hall hH7 hB7
            by_cases hjt : j < n
            · obtain ⟨la, ll, lc, c0, r1⟩ := hlogs j hjt
              have c0' := (hbl8.cell (p := ⟨w2.heap.size, j, none⟩) hg).trans c0
              have r1' := r1.keep (.of_below hbl8) (Nat.le_refl _) (Nat.le_refl _)
              have hSl : SmallL (ls.getD j []) := HSL.out _ (by have : j < ls.length := by omega
                                                                simp [this])
              have hstep := holdAll_drop (ls := ls) (j := j) (by omega) (M.map HR.p) b
              generalize hes : ls.getD j [] = es at r1' hSl hstep
              have hlen : es.length = ll := r1'.1
              have hll : ll ≤ 1048576 := by rw [← hlen]; exact hSl.1
              have ZH := zzHold la ll lc 1 w6.heap.size hb es M wr (w2.heap.size + 1) wc.heap.size r1' hll (by omega) (by decide) hM
              have HST : Hid _ := hstep
              have HLEN : Hid (es.length = ll) := hlen
              clear hstep hlen c0 r1 hlogs hes hSl r1' hM
              have gx : (j : Int) < (n : Int) := by omega
              go_wp2_with (go_at_call 11; refine ZH.mono ?_; rintro _ w9 ⟨M', b', rfl, hM9, hB9, hgo9⟩)
              · have hb' : (!b') = true := by assumption
                have hbf : b' = false := by simpa using hb'
                go_roundw
                case rel => exact ⟨j + 1, M', false, by omega, rfl, by go_num, hM9, hbl8.trans hB9, step_all HALL.out HST.out HLEN.out hgo9 (by rw [hbf]; simp)⟩
                case measure => simp [intOf]; omega
              · have hb' : (!b') = false := by assumption
                have hbf : b' = true := by simpa using hb'
                go_roundw
                case rel => exact ⟨j + 1, M', b, by omega, rfl, by go_num, hM9, hbl8.trans hB9, step_all HALL.out HST.out HLEN.out hgo9 (by rw [hbf]; simp)⟩
                case measure => simp [intOf]; omega
            · have hbw : b = (holdAll ls [] true).2 := by
                have := HALL.out
                rw [List.drop_eq_nil_of_le (by omega)] at this
                rw [← this]
                rfl
              have h10 := h9.keep (.of_below hbl8) (Nat.le_refl _) hbl8.size
              have LMc := logsMatch a n c ls wr h10
              have hbB : Below wA.heap.size wA wr := hbA.trans (hbl8.mono hbA.size)
              have hall := holdAll_LM ls
              have HBW : Hid (b = true ↔ LM ls) := by rw [hbw]; exact hall
              clear hbw hall h9 h10 hlogs hM
              go_wp2_with (go_at_call 21; refine LMc.mono ?_; rintro _ w9 ⟨⟨b2, rfl, hb2'⟩, hB9⟩)
              have heq : (b == b2) = true := by
                have := HBW.out.trans hb2'.symm
                cases b <;> cases b2 <;> simp_all
              go_ret
              exact ⟨ret_bool heq, hbB.trans (hB9.mono hbB.size)⟩
end Go.Proofs.Qxb6604092a
