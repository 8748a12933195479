import Derived.Test.Qxb6604181aHeap
namespace Go.Proofs.Qxb6604181a
open Go.RowKit
theorem Try.info5 : (Try.prog.info? 5).map (fun i => (i.zero, i.size, i.bytes)) = some (some (.int .u8 0), 1, 1) := by kernel_rfl
theorem Try.size5 : (Try.prog.info? 5).map (·.size) = some 1 := by kernel_rfl

/-- The cells of a list of bytes. -/
def cellsU (L : List Int) : List Value := L.map (Value.int .u8)
theorem length_cellsU (L : List Int) : (cellsU L).length = L.length := by simp [cellsU]
theorem one_cellsU (L : List Int) : ∀ v ∈ cellsU L, v.oneCell' = true := by
  intro v hv
  obtain ⟨z, _, rfl⟩ := List.mem_map.1 hv
  rfl
theorem get_cellsU {L : List Int} {j : Nat} {v : Value} (h : (cellsU L)[j]? = some v) : j < L.length ∧ v = .int .u8 (L.getD j 0) := by
  simp only [cellsU, List.getElem?_map, Option.map_eq_some_iff] at h
  obtain ⟨z, h1, rfl⟩ := h
  obtain ⟨h2, h3⟩ := List.getElem?_eq_some_iff.1 h1
  exact ⟨h2, by simp [h1]⟩
theorem splice_cellsU (L : List Int) (off : Nat) (M : List Int) : splice (cellsU L) off (cellsU M) = cellsU (splice L off M) := by
  simp [splice, cellsU, List.map_take, List.map_drop]

/-- A block that holds the bytes L and is open to writing. -/
def Buf (w : World) (g : Nat) (L : List Int) : Prop := w.heap[g]? = some (.cells (cellsU L).toArray 5 (0, 0))
theorem Buf.lt {w : World} {g : Nat} {L : List Int} (h : Buf w g L) : g < w.heap.size := (Array.getElem?_eq_some_iff.1 h).1
theorem Buf.cell {w : World} {g : Nat} {L : List Int} (h : Buf w g L) {i : Nat} (hi : i < L.length) : w.cell? ⟨g, i, none⟩ = some (.int .u8 (L.getD i 0)) := by
  unfold Buf at h
  simp [World.cell?, h, cellsU, hi]
theorem Buf.frozen {w : World} {g : Nat} {L : List Int} (h : Buf w g L) (i : Nat) : w.frozen? ⟨g, i, none⟩ = false := by
  unfold Buf at h
  simp [World.frozen?, h]
theorem Buf.set {w : World} {g : Nat} {L : List Int} (h : Buf w g L) (i : Nat) (z : Int) : Buf (w.setCell ⟨g, i, none⟩ (.int .u8 z)) g (L.set i z) := by
  unfold Buf at h ⊢
  simp [World.setCell, Array.getElem?_modify, h, cellsU, List.map_set]
theorem Buf.below {w w' : World} {g B : Nat} {L : List Int} (h : Buf w g L) (hb : Below B w w') (hg : g < B) : Buf w' g L := (hb.block g hg).trans h
theorem Buf.start {w : World} {base g n : Nat} (h : w.ownsRow base 5 1 (.slice (some ⟨g, 0, none⟩) n n) n (madeCells (Value.int .u8 0).cells (n * 1)).toList) : Buf w g (List.replicate n 0) := by
  obtain ⟨h1, h2⟩ := h
  rcases h2 with ⟨h2, _⟩ | ⟨g', cap, cur, hv, hg, hh, r1, r2, r3, r4⟩
  · cases h2
  · simp at hv
    obtain ⟨rfl, rfl⟩ := hv
    have e : cur = (cellsU (List.replicate n 0)).toArray := by
      have hs : cur.toList.length = n := by simpa using r3
      have r5 : cur.toList.take n = (madeCells (Value.int .u8 0).cells n).toList := by simpa using r4
      rw [List.take_of_length_le (by omega)] at r5
      apply Array.toList_inj.1
      rw [r5]
      simp [madeCells, Value.cells, cellsU, Nat.mod_one, List.map_const']
    unfold Buf
    rw [hh, e]
theorem Buf.row {w : World} {g : Nat} {L : List Int} (h : Buf w g L) {off n c : Nat} {M : List Int} (hM : (L.drop off).take n = M) (hn : M.length = n) (hnc : n ≤ c) (hc : c ≤ maxLen) (hf : ∀ z ∈ M, Fits .u8 z) :
    RowAt w g w.heap.size .u8 (some ⟨g, off, none⟩) n c M := by
  refine ⟨hn, hnc, hc, hf, .inr ⟨g, off, rfl, Nat.le_refl _, h.lt, fun i hi => ?_⟩⟩
  have hl : off + i < L.length := by
    have := congrArg List.length hM
    simp at this
    omega
  rw [h.cell hl, ← hM]
  simp [hi]
/-- Where there is a byte at all, the slice's address leads to the bytes M. -/
def Src (w : World) (sp : Option Addr) (M : List Int) : Prop := 0 < M.length → ∃ ad, sp = some ad ∧ ∀ j v, (cellsU M)[j]? = some v → w.cell? (ad.add j) = some v
theorem RowAt.src {w : World} {L B : Nat} {a : Option Addr} {n c : Nat} {zs : List Int} (h : RowAt w L B .u8 a n c zs) : Src w a zs := by
  intro hp
  have hl := h.1
  obtain ⟨b, off, rfl, hb, hc⟩ := h.at (i := 0) (by omega)
  refine ⟨_, rfl, fun j v hj => ?_⟩
  obtain ⟨g1, rfl⟩ := get_cellsU hj
  rw [show (⟨b, off, none⟩ : Addr).add j = ⟨b, off + j, none⟩ from by simp [Addr.add]]
  exact hc j (by omega)
/-- 'copy' of bytes into a buffer of the call's own. -/
theorem wpList_copy_buf {w : World} {ops : Array Oper} {rest : List Oper} {o : Oper} {a : Act} {Q : Exit → Act → World → Prop} (hgd : o.guard = none) (d s : Operand)
    (ho : o.op = .call { callee := .builtin .copy, args := #[d, s], argTypes := #[22, 22] })
    (dp sp : Option Addr) (dLen dCap sLen sCap : Nat) (hd : a.eval d = .slice dp dLen dCap) (hs : a.eval s = .slice sp sLen sCap)
    (g off : Nat) (L : List Int) (hg : Buf w g L) (M : List Int) (hn : Hid (M.length = Nat.min sLen dLen)) (hdp : 0 < M.length → dp = some ⟨g, off, none⟩) (hsrc : Src w sp M)
    (hfit : Hid (off + M.length ≤ L.length)) (B : Nat) (w0 : World) (hb : Below B w0 w) (hBg : B ≤ g)
    (h : ∀ w', Buf w' g (splice L off M) → Below B w0 w' → wpList Try.prog ops Q rest (a.put o.dst (goInt M.length)) w') :
    wpList Try.prog ops Q (o :: rest) a w := by
  refine wpList_copy_splice hgd d s 22 22 ho 5 Try.underlying22 Try.size5 dp sp dLen dCap sLen sCap hd hs g off (cellsU L) 5 hg (cellsU M) ?_ ?_ ?_ (one_cellsU M) B w0 hb hBg ?_
  · rw [length_cellsU]; exact hn.out
  · intro hp
    rw [length_cellsU] at hp
    exact ⟨hdp hp, hsrc hp⟩
  · rw [length_cellsU, length_cellsU]; exact hfit.out
  · intro w' hG hb'
    rw [length_cellsU]
    refine h w' ?_ hb'
    have := hG.out
    rw [splice_cellsU] at this
    exact this
theorem splice_all {α : Type} {L M : List α} (h : M.length = L.length) : splice L 0 M = M := by
  simp [splice, h]

set_option maxHeartbeats 400000 in
theorem copyBytes (a : Option Addr) (n c : Nat) (zs : List Int) (w : World) (L : Nat) (h : RowAt w L w.heap.size .u8 a n c zs) (hn : n ≤ 1048576) :
    Calls Try.prog 8 #[.slice a n c] w fun e w' => ∃ a' n' c', e = .returned (.slice a' n' c') ∧ RowAt w' w.heap.size w'.heap.size .u8 a' n' c' zs ∧ Below w.heap.size w w' := by
  obtain ⟨h1, h2, h3, h5, h4⟩ := h
  have hnil := fun w a n c => Lib.run_eql_slice_nil (P := Try.prog) w 22 5 a n c 0 0 Try.underlying22
  cases a with
  | none =>
    go_enter Try.func8, Try.ntmps8
    go_wp2
    go_ret
    refine ⟨none, 0, 0, rfl, ?_, Below.refl _ _⟩
    rcases h4 with h4 | ⟨b, off, e, _⟩
    · exact ⟨by omega, by omega, by omega, h5, .inl rfl⟩
    · cases e
  | some x =>
    obtain ⟨i0, hi, hz0, hz1, hz2⟩ := info_parts Try.info5
    have HB : i0.bytes * n ≤ 281474976710656 := by rw [hz2]; omega
    have hml : n ≤ maxLen := by unfold maxLen; omega
    have e1 : Hid ((cellsU zs).length = Nat.min n n) := show _ = _ from by simp [cellsU, h1]
    have e3 : Hid (0 + (cellsU zs).length ≤ (cellsU (List.replicate n 0)).length) := show _ ≤ _ from by simp [cellsU, h1]
    have e2 : Hid (∀ w1 : World, Below w.heap.size w w1 → 0 < (cellsU zs).length → (some (⟨w.heap.size, 0, none⟩ : Addr) = some ⟨w.heap.size, 0, none⟩) ∧ ∃ ad, some x = some ad ∧ ∀ j v, (cellsU zs)[j]? = some v → w1.cell? (ad.add j) = some v) := by
      intro w1 hb1 hp
      refine ⟨rfl, x, rfl, fun j v hj => ?_⟩
      rcases h4 with h4 | ⟨b, off, e, _, hb, hc⟩
      · simp [cellsU] at hp; omega
      · cases e
        obtain ⟨g1, rfl⟩ := get_cellsU hj
        rw [show (⟨b, off, none⟩ : Addr).add j = ⟨b, off + j, none⟩ from by simp [Addr.add]]
        exact (hb1.cell (p := ⟨b, off + j, none⟩) hb).trans (hc j (by omega))
    go_enter Try.func8, Try.ntmps8
    go_wp2_with (first
      | (at_make; refine wpList_make_full _ rfl _ _ 22 rfl w.heap.size 5 i0 (.int .u8 0) 1 Try.underlying22 hi hz0 hz1 _ _ _ _ n rfl rfl rfl rfl HB hml (Nat.le_refl _) ?_; intro w1 hown hgrow; have hB1 : Buf w1 w.heap.size (List.replicate n 0) := Buf.start hown; have hb1 : Below w.heap.size w w1 := (Below.refl _ _).grown hgrow (Nat.le_refl _) (by simp); clear hown hgrow)
      | (guard_target = wpList _ _ _ (Oper.mk _ (Op.call { callee := Callee.builtin Builtin.copy, args := _, argTypes := _ }) _ _ _ _ :: _) _ _; refine wpList_copy_splice rfl _ _ 22 22 rfl 5 Try.underlying22 Try.size5 _ _ _ _ _ _ rfl rfl w.heap.size 0 (cellsU (List.replicate n 0)) 5 hB1 (cellsU zs) e1.out (e2.out w1 hb1) e3.out (one_cellsU zs) w.heap.size w hb1 (Nat.le_refl _) ?_; intro w2 HG2 hb2))
    · have hB2 : Buf w2 w.heap.size zs := by
        have := HG2.out
        rw [splice_cellsU, splice_all (by simp [h1])] at this
        exact this
      clear HG2
      go_wp2
      go_ret
      exact ⟨_, _, _, rfl, hB2.row (by simp [← h1]) h1 (Nat.le_refl _) hml h5, hb2⟩
end Go.Proofs.Qxb6604181a
