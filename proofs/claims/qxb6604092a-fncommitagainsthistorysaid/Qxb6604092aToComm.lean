import Derived.Test.Qxb6604092aCalls
import Derived.Test.Qxb6604092aToLog
namespace Go.Proofs.Qxb6604092a
open Go.RowKit
theorem Try.info70 : (Try.prog.info? 70).map (fun i => (i.zero, i.size, i.bytes)) = some (some (.agg #[.int .u64 0, .int .u64 0, .slice none 0 0, .slice none 0 0, .string ByteArray.empty]), 5, 80) := by kernel_rfl

/-- Committed entries in memory. -/
def CesAt (w : World) (L B : Nat) (a : Option Addr) (n : Nat) (cs : List CCall) : Prop :=
  n = 0 ∨ ∃ b, a = some ⟨b, 0, none⟩ ∧ L ≤ b ∧ b < B ∧ ∀ i, i < n → ∃ v0 v1 v2 v3, w.cell? ⟨b, i * 5, none⟩ = some (.int .u64 (cs.getD i call0).idx) ∧ w.cell? ⟨b, i * 5 + 1, none⟩ = some v0 ∧ w.cell? ⟨b, i * 5 + 2, none⟩ = some v1 ∧ w.cell? ⟨b, i * 5 + 3, none⟩ = some v2 ∧ w.cell? ⟨b, i * 5 + 4, none⟩ = some v3 ∧ EntV w L B v0 v1 v2 v3 (cs.getD i call0).e
theorem CesAt.keep {w w' : World} {L B L' B' : Nat} {a : Option Addr} {n : Nat} {cs : List CCall} (h : CesAt w L B a n cs) (hk : Keeps L B w w') (hL : L' ≤ L) (hB : B ≤ B') : CesAt w' L' B' a n cs := by
  rcases h with h | ⟨b, e, h1, h2, hc⟩
  · exact .inl h
  · refine .inr ⟨b, e, by omega, by omega, fun i hi => ?_⟩
    obtain ⟨v0, v1, v2, v3, ci, c0, c1, c2, c3, h⟩ := hc i hi
    exact ⟨v0, v1, v2, v3, (hk.cell h1 h2).trans ci, (hk.cell h1 h2).trans c0, (hk.cell h1 h2).trans c1, (hk.cell h1 h2).trans c2, (hk.cell h1 h2).trans c3, h.keep hk hL hB⟩

/-- A block of the call's own, being filled with committed entries. -/
def FillC (w : World) (g : Nat) (n k : Nat) (cs : List CCall) : Prop :=
  ∃ cur : Array Value, w.heap[g]? = some (.cells cur 70 (0, 0)) ∧ cur.size = n * 5 ∧ ∀ i, i < k → ∃ v0 v1 v2 v3, cur[i * 5]? = some (.int .u64 (cs.getD i call0).idx) ∧ cur[i * 5 + 1]? = some v0 ∧ cur[i * 5 + 2]? = some v1 ∧ cur[i * 5 + 3]? = some v2 ∧ cur[i * 5 + 4]? = some v3 ∧ EntV w (g + 1) w.heap.size v0 v1 v2 v3 (cs.getD i call0).e

theorem FillC.start {w : World} {g n : Nat} {xs : List Value} {base : Nat} (cs : List CCall) (h : w.ownsRow base 70 5 (.slice (Option.some ⟨g, 0, none⟩) n n) n xs) : FillC w g n 0 cs := by
  obtain ⟨h1, h2⟩ := h
  rcases h2 with ⟨h2, _⟩ | ⟨g', cap, cur, hv, hg, hh, r1, r2, r3, r4⟩
  · cases h2
  · simp at hv
    obtain ⟨rfl, rfl⟩ := hv
    exact ⟨cur, hh, r3, fun i hi => by omega⟩
theorem FillC.olds {w : World} {g n k : Nat} {cs : List CCall} (h : FillC w g n k cs) {i : Nat} (hi : i < n) :
    ∃ v0 v1 v2 v3 v4, w.cell? ⟨g, i * 5, none⟩ = some v0 ∧ w.cell? ⟨g, i * 5 + 1, none⟩ = some v1 ∧ w.cell? ⟨g, i * 5 + 2, none⟩ = some v2 ∧ w.cell? ⟨g, i * 5 + 3, none⟩ = some v3 ∧ w.cell? ⟨g, i * 5 + 4, none⟩ = some v4 := by
  obtain ⟨cur, h1, h2, h3⟩ := h
  have a0 : i * 5 < cur.size := by omega
  have a1 : i * 5 + 1 < cur.size := by omega
  have a2 : i * 5 + 2 < cur.size := by omega
  have a3 : i * 5 + 3 < cur.size := by omega
  have a4 : i * 5 + 4 < cur.size := by omega
  exact ⟨cur[i * 5], cur[i * 5 + 1], cur[i * 5 + 2], cur[i * 5 + 3], cur[i * 5 + 4], by simp [World.cell?, h1, a0], by simp [World.cell?, h1, a1], by simp [World.cell?, h1, a2], by simp [World.cell?, h1, a3], by simp [World.cell?, h1, a4]⟩
theorem FillC.frozen {w : World} {g n k : Nat} {cs : List CCall} (h : FillC w g n k cs) (i : Nat) : w.frozen? ⟨g, i, none⟩ = false := by
  obtain ⟨cur, h1, h2, h3⟩ := h
  simp [World.frozen?, h1]
theorem FillC.lt {w : World} {g n k : Nat} {cs : List CCall} (h : FillC w g n k cs) : g < w.heap.size := by
  obtain ⟨cur, h1, h2, h3⟩ := h
  exact (Array.getElem?_eq_some_iff.1 h1).1

theorem set5_get {cur : Array Value} {o : Nat} {v0 v1 v2 v3 v4 : Value} (h : o + 4 < cur.size) :
    (((((cur.setIfInBounds o v0).setIfInBounds (o + 1) v1).setIfInBounds (o + 2) v2).setIfInBounds (o + 3) v3).setIfInBounds (o + 4) v4)[o]? = some v0 ∧
    (((((cur.setIfInBounds o v0).setIfInBounds (o + 1) v1).setIfInBounds (o + 2) v2).setIfInBounds (o + 3) v3).setIfInBounds (o + 4) v4)[o + 1]? = some v1 ∧
    (((((cur.setIfInBounds o v0).setIfInBounds (o + 1) v1).setIfInBounds (o + 2) v2).setIfInBounds (o + 3) v3).setIfInBounds (o + 4) v4)[o + 2]? = some v2 ∧
    (((((cur.setIfInBounds o v0).setIfInBounds (o + 1) v1).setIfInBounds (o + 2) v2).setIfInBounds (o + 3) v3).setIfInBounds (o + 4) v4)[o + 3]? = some v3 ∧
    (((((cur.setIfInBounds o v0).setIfInBounds (o + 1) v1).setIfInBounds (o + 2) v2).setIfInBounds (o + 3) v3).setIfInBounds (o + 4) v4)[o + 4]? = some v4 ∧
    ∀ i, (i < o ∨ o + 4 < i) → (((((cur.setIfInBounds o v0).setIfInBounds (o + 1) v1).setIfInBounds (o + 2) v2).setIfInBounds (o + 3) v3).setIfInBounds (o + 4) v4)[i]? = cur[i]? := by
  refine ⟨?_, ?_, ?_, ?_, ?_, ?_⟩
  · simp [Array.getElem?_setIfInBounds]; omega
  · simp [Array.getElem?_setIfInBounds]; omega
  · simp [Array.getElem?_setIfInBounds]; omega
  · simp [Array.getElem?_setIfInBounds]; omega
  · simp [Array.getElem?_setIfInBounds]; omega
  · intro i hi
    rw [Array.getElem?_setIfInBounds_ne (by omega), Array.getElem?_setIfInBounds_ne (by omega), Array.getElem?_setIfInBounds_ne (by omega), Array.getElem?_setIfInBounds_ne (by omega), Array.getElem?_setIfInBounds_ne (by omega)]

theorem FillC.step {wr w2 : World} {g n k : Nat} {cs : List CCall} {v0 v1 v2 v3 : Value} {x : Int} (h : FillC wr g n k cs) (hk : k < n) (hb : Below wr.heap.size wr w2) (hx : x = (cs.getD k call0).idx) (hE : EntV w2 wr.heap.size w2.heap.size v0 v1 v2 v3 (cs.getD k call0).e) :
    FillC (((((w2.setCell ⟨g, k * 5, none⟩ (.int .u64 x)).setCell ⟨g, k * 5 + 1, none⟩ v0).setCell ⟨g, k * 5 + 2, none⟩ v1).setCell ⟨g, k * 5 + 3, none⟩ v2).setCell ⟨g, k * 5 + 4, none⟩ v3) g n (k + 1) cs := by
  have hlt := h.lt
  obtain ⟨cur, h1, h2, h3⟩ := h
  have e1 : w2.heap[g]? = some (.cells cur 70 (0, 0)) := (hb.block g hlt).trans h1
  have hs : (((((w2.setCell ⟨g, k * 5, none⟩ (.int .u64 x)).setCell ⟨g, k * 5 + 1, none⟩ v0).setCell ⟨g, k * 5 + 2, none⟩ v1).setCell ⟨g, k * 5 + 3, none⟩ v2).setCell ⟨g, k * 5 + 4, none⟩ v3).heap.size = w2.heap.size := by simp
  have hkp : Keeps (g + 1) w2.heap.size w2 (((((w2.setCell ⟨g, k * 5, none⟩ (.int .u64 x)).setCell ⟨g, k * 5 + 1, none⟩ v0).setCell ⟨g, k * 5 + 2, none⟩ v1).setCell ⟨g, k * 5 + 3, none⟩ v2).setCell ⟨g, k * 5 + 4, none⟩ v3) :=
    ((((Keeps.setCell (.inl (by simp)) _).trans (Keeps.setCell (.inl (by simp)) _)).trans (Keeps.setCell (.inl (by simp)) _)).trans (Keeps.setCell (.inl (by simp)) _)).trans (Keeps.setCell (.inl (by simp)) _)
  obtain ⟨s0, s1, s2, s3, s4, s5⟩ := set5_get (cur := cur) (o := k * 5) (v0 := .int .u64 x) (v1 := v0) (v2 := v1) (v3 := v2) (v4 := v3) (by omega)
  refine ⟨_, heap_setCell_at (heap_setCell_at (heap_setCell_at (heap_setCell_at (heap_setCell_at e1)))), by simpa using h2, fun i hi => ?_⟩
  rw [hs]
  by_cases e : i = k
  · subst e
    exact ⟨v0, v1, v2, v3, by rw [← hx]; exact s0, s1, s2, s3, s4, hE.keep (hkp.mono (by omega) (Nat.le_refl _)) (by omega) (Nat.le_refl _)⟩
  · obtain ⟨x0, x1, x2, x3, ci, c0, c1, c2, c3, c4⟩ := h3 i (by omega)
    refine ⟨x0, x1, x2, x3, (s5 _ (by omega)).trans ci, (s5 _ (by omega)).trans c0, (s5 _ (by omega)).trans c1, (s5 _ (by omega)).trans c2, (s5 _ (by omega)).trans c3, ?_⟩
    exact c4.keep ((Keeps.of_below hb).trans (hkp.mono (Nat.le_refl _) hb.size)) (Nat.le_refl _) hb.size
theorem FillC.ces {w : World} {g n : Nat} {cs : List CCall} (h : FillC w g n n cs) : CesAt w g w.heap.size (some ⟨g, 0, none⟩) n cs := by
  have hlt := h.lt
  obtain ⟨cur, h1, h2, h3⟩ := h
  refine .inr ⟨g, rfl, Nat.le_refl _, hlt, fun i hi => ?_⟩
  obtain ⟨x0, x1, x2, x3, ci, c0, c1, c2, c3, c4⟩ := h3 i hi
  exact ⟨x0, x1, x2, x3, by simpa [World.cell?, h1] using ci, by simpa [World.cell?, h1] using c0, by simpa [World.cell?, h1] using c1, by simpa [World.cell?, h1] using c2, by simpa [World.cell?, h1] using c3, c4.keep (Keeps.refl _ _ _) (by omega) (Nat.le_refl _)⟩

set_option maxRecDepth 20000 in
set_option maxHeartbeats 2000000 in
theorem toCommitted (a : Option Addr) (n c : Nat) (cs : List CCall) (w : World) (L : Nat) (h : CallsAt w L w.heap.size a n c cs) (hn : n ≤ 4096) (hs : ∀ cc ∈ cs, SmallE cc.e) :
    Calls Try.prog 25 #[.slice a n c] w fun r w' => (∃ a', r = .returned (.slice a' n n) ∧ CesAt w' w.heap.size w'.heap.size a' n cs) ∧ Below w.heap.size w w' := by
  have hlen := h.1
  obtain ⟨i0, hi, hz0, hz1, hz2⟩ := info_parts Try.info70
  have HB : i0.bytes * n ≤ 281474976710656 := by rw [hz2]; omega
  have hml : n ≤ maxLen := by unfold maxLen; omega
  go_enter Try.func25, Try.ntmps25
  go_wp2_with (first | (at_make; refine wpList_make_full _ rfl _ _ 65 rfl w.heap.size 70 i0 _ 5 Try.underlying65 hi hz0 hz1 _ _ _ _ n rfl rfl rfl rfl HB hml (Nat.le_refl _) ?_; intro w1 hown hgrow))
  go_loopw [4] (fun i wr => ∃ k : Nat, k ≤ n ∧ i = .int .i64 k ∧ FillC wr w.heap.size n k cs ∧ Below w.heap.size w wr) (fun i _ => n - (intOf i).toNat)
  case atStart => exact ⟨0, Nat.zero_le _, rfl, FillC.start cs hown, (Below.refl _ _).grown hgrow (Nat.le_refl _) (by simp)⟩
  case round =>
    obtain ⟨k, hk, rfl, hfl, hbl⟩ := hrel
    by_cases hlt : k < n
    · obtain ⟨b, off, rfl, hbL, hb, hc⟩ := h.at hlt
      have hE := (hc k hlt).keep hbL hb (.of_below hbl) (Nat.le_refl _) (Nat.le_refl _)
      have hSe : SmallE (cs.getD k call0).e := hs _ (by have : k < cs.length := by omega
                                                        simp [this])
      have hbw : w.heap.size ≤ wr.heap.size := hbl.size
      generalize hke : cs.getD k call0 = cc at hE hSe
      obtain ⟨v0, v1, v2, v3, gi, g0, g1, g2, g3, gn, hEV, _, _⟩ := hE
      obtain ⟨p0, p1, p2, p3, p4, o0, o1, o2, o3, o4⟩ := hfl.olds hlt
      have f0 := hfl.frozen (k * 5)
      have f1 := hfl.frozen (k * 5 + 1)
      have f2 := hfl.frozen (k * 5 + 2)
      have f3 := hfl.frozen (k * 5 + 3)
      have f4 := hfl.frozen (k * 5 + 4)
      have hgl := hfl.lt
      have gx : (k : Int) < (n : Int) := by omega
      have gx0 : (0 : Int) ≤ (k : Int) := by omega
      have hEV' := hEV.keep (Keeps.refl _ _ _) (Nat.le_refl _) hbw
      have HKE : Hid (cs.getD k call0 = cc) := hke
      have hb' : b < wr.heap.size := by omega
      have hfar : ∀ (W : World) (i o : Nat) (v : Value), (W.setCell ⟨w.heap.size, i, none⟩ v).cell? ⟨b, o, none⟩ = W.cell? ⟨b, o, none⟩ := fun W i o v => World.cell?_setCell_far W _ _ v (by simp; omega)
      clear hc hke h
      go_wp2
      go_region_held3 (fun w' => w'.cell? ⟨b, off + k * 6, none⟩ = some (.int .u64 cc.idx) ∧ w'.cell? ⟨b, off + k * 6 + 1, none⟩ = some v0 ∧ w'.cell? ⟨b, off + k * 6 + 2, none⟩ = some v1 ∧ w'.cell? ⟨b, off + k * 6 + 3, none⟩ = some v2 ∧ w'.cell? ⟨b, off + k * 6 + 4, none⟩ = some v3) (first | (simp only [hfar, ki, k0, k1, k2, k3, and_self]; done) | exact ⟨gi, g0, g1, g2, g3⟩)
        (first | (go_at_call 44; refine (toEntry v0 v1 v2 v3 cc.e _ L (by exact hEV') hSe).mono ?_; rintro _ w2 ⟨⟨_, _, _, _, rfl, da, dl, dc, ma, ml, mc, rfl, rfl, rfl, rfl, hU⟩, hB⟩; obtain ⟨hcc, hff⟩ := bcell hB; have t0 := (hcc _ _ hgl).trans o0; have t1 := (hcc _ _ hgl).trans o1; have t2 := (hcc _ _ hgl).trans o2; have t3 := (hcc _ _ hgl).trans o3; have t4 := (hcc _ _ hgl).trans o4; have y0 := (hff _ _ hgl).trans f0; have y1 := (hff _ _ hgl).trans f1; have y2 := (hff _ _ hgl).trans f2; have y3 := (hff _ _ hgl).trans f3; have y4 := (hff _ _ hgl).trans f4; have ki := (hcc _ _ hb').trans gi; have k0 := (hcc _ _ hb').trans g0; have k1 := (hcc _ _ hb').trans g1; have k2 := (hcc _ _ hb').trans g2; have k3 := (hcc _ _ hb').trans g3))
      obtain ⟨hu1, hu2, hu3, hu4, hu5, hu6⟩ := hU
      have HF := hfl.step hlt (w2 := w2) ⟨hB.os, hB.tape, hB.output, hB.size, hB.block⟩ (x := cc.idx) (v0 := .int .u64 cc.e.term) (v1 := .slice da dl dc) (v2 := .slice ma ml mc) (v3 := .string cc.e.addr) (by rw [HKE.out]) (by rw [HKE.out]; exact ⟨da, dl, dc, ma, ml, mc, rfl, rfl, rfl, rfl, hu1, hu2, hu3, hu4, hu5, hu6⟩)
      have HBL : Below w.heap.size w w2 := hbl.trans ⟨hB.os, hB.tape, hB.output, hB.size, fun j hj => hB.block j (Nat.lt_of_lt_of_le hj hbw)⟩
      clear t0 t1 t2 t3 t4 y0 y1 y2 y3 y4 ki k0 k1 k2 k3 hcc hff gi g0 g1 g2 g3 gn o0 o1 o2 o3 o4 f0 f1 f2 f3 f4 hEV hEV' hfl hbl
      go_wp2
      go_roundw
      case rel => exact ⟨k + 1, by omega, by go_num, HF, ((((HBL.setCell (Nat.le_refl _) _).setCell (Nat.le_refl _) _).setCell (Nat.le_refl _) _).setCell (Nat.le_refl _) _).setCell (Nat.le_refl _) _⟩
      case measure => simp [intOf]; omega
    · clear h
      go_wp2
      go_ret
      have hkn : k = n := by omega
      subst hkn
      exact ⟨⟨_, rfl, hfl.ces⟩, hbl⟩
end Go.Proofs.Qxb6604092a
