import Derived.Test.Qxb6604092aToEntry
namespace Go.Proofs.Qxb6604092a
open Go.RowKit
theorem Try.info51 : (Try.prog.info? 51).map (fun i => (i.zero, i.size, i.bytes)) = some (some (.agg #[.int .u64 0, .slice none 0 0, .slice none 0 0, .string ByteArray.empty]), 4, 72) := by kernel_rfl

/-- A block of the call's own, being filled with entries. -/
def FillE (w : World) (g : Nat) (n k : Nat) (es : List Ent) : Prop :=
  ∃ cur : Array Value, w.heap[g]? = some (.cells cur 51 (0, 0)) ∧ cur.size = n * 4 ∧ ∀ i, i < k → ∃ v0 v1 v2 v3, cur[i * 4]? = some v0 ∧ cur[i * 4 + 1]? = some v1 ∧ cur[i * 4 + 2]? = some v2 ∧ cur[i * 4 + 3]? = some v3 ∧ EntV w (g + 1) w.heap.size v0 v1 v2 v3 (es.getD i ent0)

theorem FillE.start {w : World} {g n : Nat} {xs : List Value} {base : Nat} (es : List Ent) (h : w.ownsRow base 51 4 (.slice (Option.some ⟨g, 0, none⟩) n n) n xs) : FillE w g n 0 es := by
  obtain ⟨h1, h2⟩ := h
  rcases h2 with ⟨h2, _⟩ | ⟨g', cap, cur, hv, hg, hh, r1, r2, r3, r4⟩
  · cases h2
  · simp at hv
    obtain ⟨rfl, rfl⟩ := hv
    exact ⟨cur, hh, r3, fun i hi => by omega⟩

theorem FillE.olds {w : World} {g n k : Nat} {es : List Ent} (h : FillE w g n k es) {i : Nat} (hi : i < n) :
    ∃ v0 v1 v2 v3, w.cell? ⟨g, i * 4, none⟩ = some v0 ∧ w.cell? ⟨g, i * 4 + 1, none⟩ = some v1 ∧ w.cell? ⟨g, i * 4 + 2, none⟩ = some v2 ∧ w.cell? ⟨g, i * 4 + 3, none⟩ = some v3 := by
  obtain ⟨cur, h1, h2, h3⟩ := h
  have a0 : i * 4 < cur.size := by omega
  have a1 : i * 4 + 1 < cur.size := by omega
  have a2 : i * 4 + 2 < cur.size := by omega
  have a3 : i * 4 + 3 < cur.size := by omega
  exact ⟨cur[i * 4], cur[i * 4 + 1], cur[i * 4 + 2], cur[i * 4 + 3], by simp [World.cell?, h1, a0], by simp [World.cell?, h1, a1], by simp [World.cell?, h1, a2], by simp [World.cell?, h1, a3]⟩
theorem FillE.frozen {w : World} {g n k : Nat} {es : List Ent} (h : FillE w g n k es) (i : Nat) : w.frozen? ⟨g, i, none⟩ = false := by
  obtain ⟨cur, h1, h2, h3⟩ := h
  simp [World.frozen?, h1]
theorem FillE.lt {w : World} {g n k : Nat} {es : List Ent} (h : FillE w g n k es) : g < w.heap.size := by
  obtain ⟨cur, h1, h2, h3⟩ := h
  exact (Array.getElem?_eq_some_iff.1 h1).1

theorem heap_setCell_at {w : World} {g o : Nat} {cur : Array Value} {t : TypeId} {v : Value} (h : w.heap[g]? = some (.cells cur t (0, 0))) : (w.setCell ⟨g, o, none⟩ v).heap[g]? = some (.cells (cur.setIfInBounds o v) t (0, 0)) := by
  simp [World.setCell, Array.getElem?_modify, h]

theorem set4_get {cur : Array Value} {o : Nat} {v0 v1 v2 v3 : Value} (h : o + 3 < cur.size) :
    ((((cur.setIfInBounds o v0).setIfInBounds (o + 1) v1).setIfInBounds (o + 2) v2).setIfInBounds (o + 3) v3)[o]? = some v0 ∧
    ((((cur.setIfInBounds o v0).setIfInBounds (o + 1) v1).setIfInBounds (o + 2) v2).setIfInBounds (o + 3) v3)[o + 1]? = some v1 ∧
    ((((cur.setIfInBounds o v0).setIfInBounds (o + 1) v1).setIfInBounds (o + 2) v2).setIfInBounds (o + 3) v3)[o + 2]? = some v2 ∧
    ((((cur.setIfInBounds o v0).setIfInBounds (o + 1) v1).setIfInBounds (o + 2) v2).setIfInBounds (o + 3) v3)[o + 3]? = some v3 ∧
    ∀ i, (i < o ∨ o + 3 < i) → ((((cur.setIfInBounds o v0).setIfInBounds (o + 1) v1).setIfInBounds (o + 2) v2).setIfInBounds (o + 3) v3)[i]? = cur[i]? := by
  refine ⟨?_, ?_, ?_, ?_, ?_⟩
  · simp [Array.getElem?_setIfInBounds]; omega
  · simp [Array.getElem?_setIfInBounds]; omega
  · simp [Array.getElem?_setIfInBounds]; omega
  · simp [Array.getElem?_setIfInBounds]; omega
  · intro i hi
    rw [Array.getElem?_setIfInBounds_ne (by omega), Array.getElem?_setIfInBounds_ne (by omega), Array.getElem?_setIfInBounds_ne (by omega), Array.getElem?_setIfInBounds_ne (by omega)]

theorem FillE.step {wr w2 : World} {g n k : Nat} {es : List Ent} {v0 v1 v2 v3 : Value} (h : FillE wr g n k es) (hk : k < n) (hb : Below wr.heap.size wr w2) (hE : EntV w2 wr.heap.size w2.heap.size v0 v1 v2 v3 (es.getD k ent0)) :
    FillE ((((w2.setCell ⟨g, k * 4, none⟩ v0).setCell ⟨g, k * 4 + 1, none⟩ v1).setCell ⟨g, k * 4 + 2, none⟩ v2).setCell ⟨g, k * 4 + 3, none⟩ v3) g n (k + 1) es := by
  have hlt := h.lt
  obtain ⟨cur, h1, h2, h3⟩ := h
  have e1 : w2.heap[g]? = some (.cells cur 51 (0, 0)) := (hb.block g hlt).trans h1
  have hs : ((((w2.setCell ⟨g, k * 4, none⟩ v0).setCell ⟨g, k * 4 + 1, none⟩ v1).setCell ⟨g, k * 4 + 2, none⟩ v2).setCell ⟨g, k * 4 + 3, none⟩ v3).heap.size = w2.heap.size := by simp
  have hkp : Keeps (g + 1) w2.heap.size w2 ((((w2.setCell ⟨g, k * 4, none⟩ v0).setCell ⟨g, k * 4 + 1, none⟩ v1).setCell ⟨g, k * 4 + 2, none⟩ v2).setCell ⟨g, k * 4 + 3, none⟩ v3) :=
    (((Keeps.setCell (.inl (by simp)) _).trans (Keeps.setCell (.inl (by simp)) _)).trans (Keeps.setCell (.inl (by simp)) _)).trans (Keeps.setCell (.inl (by simp)) _)
  obtain ⟨s0, s1, s2, s3, s4⟩ := set4_get (cur := cur) (o := k * 4) (v0 := v0) (v1 := v1) (v2 := v2) (v3 := v3) (by omega)
  refine ⟨_, heap_setCell_at (heap_setCell_at (heap_setCell_at (heap_setCell_at e1))), by simpa using h2, fun i hi => ?_⟩
  rw [hs]
  by_cases e : i = k
  · subst e
    exact ⟨v0, v1, v2, v3, s0, s1, s2, s3, hE.keep (hkp.mono (by omega) (Nat.le_refl _)) (by omega) (Nat.le_refl _)⟩
  · obtain ⟨x0, x1, x2, x3, c0, c1, c2, c3, c4⟩ := h3 i (by omega)
    refine ⟨x0, x1, x2, x3, (s4 _ (by omega)).trans c0, (s4 _ (by omega)).trans c1, (s4 _ (by omega)).trans c2, (s4 _ (by omega)).trans c3, ?_⟩
    exact c4.keep ((Keeps.of_below hb).trans (hkp.mono (Nat.le_refl _) hb.size)) (Nat.le_refl _) hb.size

theorem FillE.log {w : World} {g n : Nat} {es : List Ent} (h : FillE w g n n es) (hl : es.length = n) (hm : n ≤ maxLen) : LogAt w g w.heap.size (some ⟨g, 0, none⟩) n n es := by
  have hlt := h.lt
  obtain ⟨cur, h1, h2, h3⟩ := h
  refine ⟨hl, Nat.le_refl _, hm, .inr ⟨g, 0, rfl, Nat.le_refl _, hlt, fun i hi => ?_⟩⟩
  obtain ⟨x0, x1, x2, x3, c0, c1, c2, c3, c4⟩ := h3 i hi
  exact ⟨x0, x1, x2, x3, by simpa [World.cell?, h1] using c0, by simpa [World.cell?, h1] using c1, by simpa [World.cell?, h1] using c2, by simpa [World.cell?, h1] using c3, c4.keep (Keeps.refl _ _ _) (by omega) (Nat.le_refl _)⟩

set_option maxHeartbeats 1000000 in
theorem toLog (a : Option Addr) (n c : Nat) (es : List Ent) (w : World) (L : Nat) (h : LogAt w L w.heap.size a n c es) (hs : SmallL es) :
    Calls Try.prog 9 #[.slice a n c] w fun r w' => (∃ a' n' c', r = .returned (.slice a' n' c') ∧ LogAt w' w.heap.size w'.heap.size a' n' c' es) ∧ Below w.heap.size w w' := by
  obtain ⟨h1, h2, h3, h4⟩ := h
  have hnil := fun w a n c => Lib.run_eql_slice_nil (P := Try.prog) w 25 48 a n c 0 0 Try.underlying25
  have hn : n ≤ 1048576 := by rw [← h1]; exact hs.1
  cases a with
  | none =>
    go_enter Try.func9, Try.ntmps9
    go_wp2
    go_ret
    refine ⟨⟨none, 0, 0, rfl, ?_⟩, Below.refl _ _⟩
    rcases h4 with h4 | ⟨b, off, e, _⟩
    · exact ⟨by omega, by omega, by omega, .inl rfl⟩
    · cases e
  | some x =>
    obtain ⟨i0, hi, hz0, hz1, hz2⟩ := info_parts Try.info51
    have HB : i0.bytes * n ≤ 281474976710656 := by rw [hz2]; omega
    have hml : n ≤ maxLen := by unfold maxLen; omega
    go_enter Try.func9, Try.ntmps9
    go_wp2_with (first | (at_make; refine wpList_make_full _ rfl _ _ 31 rfl w.heap.size 51 i0 _ 4 Try.underlying31 hi hz0 hz1 _ _ _ _ n rfl rfl rfl rfl HB hml (Nat.le_refl _) ?_; intro w1 hown hgrow))
    go_loopw [4] (fun i wr => ∃ k : Nat, k ≤ n ∧ i = .int .i64 k ∧ FillE wr w.heap.size n k es ∧ Below w.heap.size w wr) (fun i _ => n - (intOf i).toNat)
    case atStart => exact ⟨0, Nat.zero_le _, rfl, FillE.start es hown, (Below.refl _ _).grown hgrow (Nat.le_refl _) (by simp)⟩
    case round =>
      obtain ⟨k, hk, rfl, hfl, hbl⟩ := hrel
      by_cases hlt : k < n
      · have hx : ∃ b off, x = ⟨b, off, none⟩ ∧ L ≤ b ∧ b < w.heap.size ∧ ∀ i, i < n → EntAt w L w.heap.size b (off + i * 4) (es.getD i ent0) := by
          rcases h4 with h4 | ⟨b, off, e, hb⟩
          · omega
          · cases e; exact ⟨b, off, rfl, hb⟩
        obtain ⟨b, off, rfl, hbL, hb, hc⟩ := hx
        have hE := (hc k hlt).keep hbL hb (.of_below hbl) (Nat.le_refl _) (Nat.le_refl _)
        have hSe : SmallE (es.getD k ent0) := hs.2 _ (by have : k < es.length := by omega
                                                         simp [this])
        have hbw : w.heap.size ≤ wr.heap.size := hbl.size
        generalize hke : es.getD k ent0 = e at hE hSe
        obtain ⟨v0, v1, v2, v3, g0, g1, g2, g3, hEV⟩ := hE
        obtain ⟨p0, p1, p2, p3, o0, o1, o2, o3⟩ := hfl.olds hlt
        have f0 := hfl.frozen (k * 4)
        have f1 := hfl.frozen (k * 4 + 1)
        have f2 := hfl.frozen (k * 4 + 2)
        have f3 := hfl.frozen (k * 4 + 3)
        have hgl := hfl.lt
        have gx : (k : Int) < (n : Int) := by omega
        have gx0 : (0 : Int) ≤ (k : Int) := by omega
        have hEV' := hEV.keep (Keeps.refl _ _ _) (Nat.le_refl _) hbw
        have HKE : Hid (es.getD k ent0 = e) := hke
        have hb' : b < wr.heap.size := by omega
        have hfar : ∀ (W : World) (i o : Nat) (v : Value), (W.setCell ⟨w.heap.size, i, none⟩ v).cell? ⟨b, o, none⟩ = W.cell? ⟨b, o, none⟩ := fun W i o v => World.cell?_setCell_far W _ _ v (by simp; omega)
        clear hc h4 hke
        go_wp2
        go_region_held3 (fun w' => w'.cell? ⟨b, off + k * 4, none⟩ = some v0 ∧ w'.cell? ⟨b, off + k * 4 + 1, none⟩ = some v1 ∧ w'.cell? ⟨b, off + k * 4 + 2, none⟩ = some v2 ∧ w'.cell? ⟨b, off + k * 4 + 3, none⟩ = some v3) (first | (simp only [hfar, k0, k1, k2, k3, and_self]; done) | exact ⟨g0, g1, g2, g3⟩)
          (first | (go_at_call 44; refine (toEntry v0 v1 v2 v3 e _ L (by exact hEV') hSe).mono ?_; rintro _ w2 ⟨⟨_, _, _, _, rfl, da, dl, dc, ma, ml, mc, rfl, rfl, rfl, rfl, hU⟩, hB⟩; obtain ⟨hcc, hff⟩ := bcell hB; have t0 := (hcc _ _ hgl).trans o0; have t1 := (hcc _ _ hgl).trans o1; have t2 := (hcc _ _ hgl).trans o2; have t3 := (hcc _ _ hgl).trans o3; have y0 := (hff _ _ hgl).trans f0; have y1 := (hff _ _ hgl).trans f1; have y2 := (hff _ _ hgl).trans f2; have y3 := (hff _ _ hgl).trans f3; have k0 := (hcc _ _ hb').trans g0; have k1 := (hcc _ _ hb').trans g1; have k2 := (hcc _ _ hb').trans g2; have k3 := (hcc _ _ hb').trans g3))
        obtain ⟨hu1, hu2, hu3, hu4, hu5, hu6⟩ := hU
        have HF := hfl.step hlt (w2 := w2) ⟨hB.os, hB.tape, hB.output, hB.size, hB.block⟩ (v0 := .int .u64 e.term) (v1 := .slice da dl dc) (v2 := .slice ma ml mc) (v3 := .string e.addr) (by rw [HKE.out]; exact ⟨da, dl, dc, ma, ml, mc, rfl, rfl, rfl, rfl, hu1, hu2, hu3, hu4, hu5, hu6⟩)
        have HBL : Below w.heap.size w w2 := hbl.trans ⟨hB.os, hB.tape, hB.output, hB.size, fun j hj => hB.block j (Nat.lt_of_lt_of_le hj hbw)⟩
        clear t0 t1 t2 t3 y0 y1 y2 y3 k0 k1 k2 k3 hcc hff g0 g1 g2 g3 o0 o1 o2 o3 f0 f1 f2 f3 hEV hEV' hfl hbl
        go_wp2
        go_roundw
        case rel => exact ⟨k + 1, by omega, by go_num, HF, (((HBL.setCell (Nat.le_refl _) _).setCell (Nat.le_refl _) _).setCell (Nat.le_refl _) _).setCell (Nat.le_refl _) _⟩
        case measure => simp [intOf]; omega
      · go_wp2
        go_ret
        have hkn : k = n := by omega
        subst hkn
        exact ⟨⟨_, _, _, rfl, hfl.log h1 hml⟩, hbl⟩
end Go.Proofs.Qxb6604092a
