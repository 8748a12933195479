import Derived.Test.Qxb6604092aHeap
namespace Go.Proofs.Qxb6604092a
open Go.RowKit
theorem Try.info5 : (Try.prog.info? 5).map (fun i => (i.zero, i.size, i.bytes)) = some (some (.int .u8 0), 1, 1) := by kernel_rfl
theorem Try.info99 : (Try.prog.info? 99).map (fun i => (i.zero, i.size, i.bytes)) = some (some (.int .u64 0), 1, 8) := by kernel_rfl

set_option maxHeartbeats 400000 in
theorem copyBytes (a : Option Addr) (n c : Nat) (zs : List Int) (w : World) (L : Nat) (h : RowAt w L w.heap.size .u8 a n c zs) (hn : n ≤ 1048576) :
    Calls Try.prog 53 #[.slice a n c] w fun e w' => ∃ a' n' c', e = .returned (.slice a' n' c') ∧ RowAt w' w.heap.size w'.heap.size .u8 a' n' c' zs ∧ a'.isNone = a.isNone ∧ Below w.heap.size w w' := by
  obtain ⟨h1, h2, h3, h5, h4⟩ := h
  have hnil := fun w a n c => Lib.run_eql_slice_nil (P := Try.prog) w 46 5 a n c 0 0 Try.underlying46
  cases a with
  | none =>
    go_enter Try.func53, Try.ntmps53
    go_wp2
    go_ret
    refine ⟨none, 0, 0, rfl, ?_, rfl, Below.refl _ _⟩
    rcases h4 with h4 | ⟨b, off, e, _⟩
    · exact ⟨by omega, by omega, by omega, h5, .inl rfl⟩
    · cases e
  | some x =>
    obtain ⟨i0, hi, hz0, hz1, hz2⟩ := info_parts Try.info5
    have HB : i0.bytes * n ≤ 281474976710656 := by rw [hz2]; omega
    have hml : n ≤ maxLen := by unfold maxLen; omega
    go_enter Try.func53, Try.ntmps53
    go_wp2_with (first | (at_make; refine wpList_make_full _ rfl _ _ 46 rfl w.heap.size 5 i0 (.int .u8 0) 1 Try.underlying46 hi hz0 hz1 _ _ _ _ n rfl rfl rfl rfl HB hml (Nat.le_refl _) ?_; intro w1 hown hgrow))
    go_loopw [4] (fun i wr => ∃ k : Nat, k ≤ n ∧ i = .int .i64 k ∧ Filling wr w.heap.size 5 .u8 n k zs ∧ Below w.heap.size w wr) (fun i _ => n - (intOf i).toNat)
    case atStart => exact ⟨0, Nat.zero_le _, rfl, Filling.start zs hown, (Below.refl _ _).grown hgrow (Nat.le_refl _) (by simp)⟩
    case round =>
      obtain ⟨k, hk, rfl, hfl, hbl⟩ := hrel
      by_cases hlt : k < n
      · have hx : ∃ b off, x = ⟨b, off, none⟩ ∧ b < w.heap.size ∧ ∀ i, i < n → w.cell? ⟨b, off + i, none⟩ = some (.int .u8 (zs.getD i 0)) := by
          rcases h4 with h4 | ⟨b, off, e, _, hb⟩
          · omega
          · cases e; exact ⟨b, off, rfl, hb⟩
        obtain ⟨b, off, rfl, hb, hc⟩ := hx
        have hcell := (hbl.cell (p := ⟨b, off + k, none⟩) hb).trans (hc k hlt)
        obtain ⟨v0, hold⟩ := hfl.some hlt
        have hfz := hfl.frozen (i := k)
        clear hc h4
        go_wp2
        go_roundw
        case rel => exact ⟨k + 1, by omega, by go_num, hfl.step hlt (by simp [h1, hlt]), hbl.setCell (Nat.le_refl _) _⟩
        case measure => simp [intOf]; omega
      · go_wp2
        go_ret
        have hkn : k = n := by omega
        subst hkn
        exact ⟨_, _, _, rfl, hfl.row h1 hml h5, rfl, hbl⟩

set_option maxHeartbeats 400000 in
theorem toIDs (a : Option Addr) (n c : Nat) (zs : List Int) (w : World) (L : Nat) (h : RowAt w L w.heap.size .u64 a n c zs) (hn : n ≤ 1048576) :
    Calls Try.prog 24 #[.slice a n c] w fun e w' => ∃ a' n' c', e = .returned (.slice a' n' c') ∧ RowAt w' w.heap.size w'.heap.size .u64 a' n' c' zs ∧ a'.isNone = a.isNone ∧ Below w.heap.size w w' := by
  obtain ⟨h1, h2, h3, h5, h4⟩ := h
  have hnil := fun w a n c => Lib.run_eql_slice_nil (P := Try.prog) w 36 26 a n c 0 0 Try.underlying36
  cases a with
  | none =>
    go_enter Try.func24, Try.ntmps24
    go_wp2
    go_ret
    refine ⟨none, 0, 0, rfl, ?_, rfl, Below.refl _ _⟩
    rcases h4 with h4 | ⟨b, off, e, _⟩
    · exact ⟨by omega, by omega, by omega, h5, .inl rfl⟩
    · cases e
  | some x =>
    obtain ⟨i0, hi, hz0, hz1, hz2⟩ := info_parts Try.info99
    have HB : i0.bytes * n ≤ 281474976710656 := by rw [hz2]; omega
    have hml : n ≤ maxLen := by unfold maxLen; omega
    go_enter Try.func24, Try.ntmps24
    go_wp2_with (first | (at_make; refine wpList_make_full _ rfl _ _ 39 rfl w.heap.size 99 i0 (.int .u64 0) 1 Try.underlying39 hi hz0 hz1 _ _ _ _ n rfl rfl rfl rfl HB hml (Nat.le_refl _) ?_; intro w1 hown hgrow))
    go_loopw [4] (fun i wr => ∃ k : Nat, k ≤ n ∧ i = .int .i64 k ∧ Filling wr w.heap.size 99 .u64 n k zs ∧ Below w.heap.size w wr) (fun i _ => n - (intOf i).toNat)
    case atStart => exact ⟨0, Nat.zero_le _, rfl, Filling.start zs hown, (Below.refl _ _).grown hgrow (Nat.le_refl _) (by simp)⟩
    case round =>
      obtain ⟨k, hk, rfl, hfl, hbl⟩ := hrel
      by_cases hlt : k < n
      · have hx : ∃ b off, x = ⟨b, off, none⟩ ∧ b < w.heap.size ∧ ∀ i, i < n → w.cell? ⟨b, off + i, none⟩ = some (.int .u64 (zs.getD i 0)) := by
          rcases h4 with h4 | ⟨b, off, e, _, hb⟩
          · omega
          · cases e; exact ⟨b, off, rfl, hb⟩
        obtain ⟨b, off, rfl, hb, hc⟩ := hx
        have hcell := (hbl.cell (p := ⟨b, off + k, none⟩) hb).trans (hc k hlt)
        obtain ⟨v0, hold⟩ := hfl.some hlt
        have hfz := hfl.frozen (i := k)
        clear hc h4
        go_wp2
        go_roundw
        case rel => exact ⟨k + 1, by omega, by go_num, hfl.step hlt (by simp [h1, hlt]), hbl.setCell (Nat.le_refl _) _⟩
        case measure => simp [intOf]; omega
      · go_wp2
        go_ret
        have hkn : k = n := by omega
        subst hkn
        exact ⟨_, _, _, rfl, hfl.row h1 hml h5, rfl, hbl⟩

set_option maxHeartbeats 400000 in
theorem copyIDs (a : Option Addr) (n c : Nat) (zs : List Int) (w : World) (L : Nat) (h : RowAt w L w.heap.size .u64 a n c zs) (hn : n ≤ 1048576) :
    Calls Try.prog 40 #[.slice a n c] w fun e w' => ∃ a' n' c', e = .returned (.slice a' n' c') ∧ RowAt w' w.heap.size w'.heap.size .u64 a' n' c' zs ∧ a'.isNone = a.isNone ∧ Below w.heap.size w w' := by
  obtain ⟨h1, h2, h3, h5, h4⟩ := h
  have hnil := fun w a n c => Lib.run_eql_slice_nil (P := Try.prog) w 39 99 a n c 0 0 Try.underlying39
  cases a with
  | none =>
    go_enter Try.func40, Try.ntmps40
    go_wp2
    go_ret
    refine ⟨none, 0, 0, rfl, ?_, rfl, Below.refl _ _⟩
    rcases h4 with h4 | ⟨b, off, e, _⟩
    · exact ⟨by omega, by omega, by omega, h5, .inl rfl⟩
    · cases e
  | some x =>
    obtain ⟨i0, hi, hz0, hz1, hz2⟩ := info_parts Try.info99
    have HB : i0.bytes * n ≤ 281474976710656 := by rw [hz2]; omega
    have hml : n ≤ maxLen := by unfold maxLen; omega
    go_enter Try.func40, Try.ntmps40
    go_wp2_with (first | (at_make; refine wpList_make_full _ rfl _ _ 39 rfl w.heap.size 99 i0 (.int .u64 0) 1 Try.underlying39 hi hz0 hz1 _ _ _ _ n rfl rfl rfl rfl HB hml (Nat.le_refl _) ?_; intro w1 hown hgrow))
    go_loopw [4] (fun i wr => ∃ k : Nat, k ≤ n ∧ i = .int .i64 k ∧ Filling wr w.heap.size 99 .u64 n k zs ∧ Below w.heap.size w wr) (fun i _ => n - (intOf i).toNat)
    case atStart => exact ⟨0, Nat.zero_le _, rfl, Filling.start zs hown, (Below.refl _ _).grown hgrow (Nat.le_refl _) (by simp)⟩
    case round =>
      obtain ⟨k, hk, rfl, hfl, hbl⟩ := hrel
      by_cases hlt : k < n
      · have hx : ∃ b off, x = ⟨b, off, none⟩ ∧ b < w.heap.size ∧ ∀ i, i < n → w.cell? ⟨b, off + i, none⟩ = some (.int .u64 (zs.getD i 0)) := by
          rcases h4 with h4 | ⟨b, off, e, _, hb⟩
          · omega
          · cases e; exact ⟨b, off, rfl, hb⟩
        obtain ⟨b, off, rfl, hb, hc⟩ := hx
        have hcell := (hbl.cell (p := ⟨b, off + k, none⟩) hb).trans (hc k hlt)
        obtain ⟨v0, hold⟩ := hfl.some hlt
        have hfz := hfl.frozen (i := k)
        clear hc h4
        go_wp2
        go_roundw
        case rel => exact ⟨k + 1, by omega, by go_num, hfl.step hlt (by simp [h1, hlt]), hbl.setCell (Nat.le_refl _) _⟩
        case measure => simp [intOf]; omega
      · go_wp2
        go_ret
        have hkn : k = n := by omega
        subst hkn
        exact ⟨_, _, _, rfl, hfl.row h1 hml h5, rfl, hbl⟩

end Go.Proofs.Qxb6604092a
