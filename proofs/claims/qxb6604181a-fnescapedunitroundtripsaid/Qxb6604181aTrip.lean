import Derived.Test.Qxb6604181aHexes
namespace Go.Proofs.Qxb6604181a
open Go.RowKit

/-- The j-th of the four hexadecimal digits of u, the highest first. -/
def nib (u : Int) (j : Nat) : Int := u / 16 ^ (3 - j) % 16
/-- What is known of the data once the first k digits are written. -/
def Wrote (D : List Int) (n m k : Nat) (u : Int) : Prop :=
  D.length = n + 6 + m ∧ (∀ z ∈ D, Fits .u8 z) ∧ D.getD n 0 = 92 ∧ D.getD (n + 1) 0 = 117 ∧ ∀ j, j < k → hexv (D.getD (n + 2 + j) 0) = nib u j

theorem fits_u16 {z : Int} (h : Fits .u16 z) : 0 ≤ z ∧ z ≤ 65535 := by
  have hw : IntKind.u16.min ≤ z ∧ z ≤ IntKind.u16.max := by simpa [Fits, Lit.wf] using h
  have hmin : IntKind.u16.min = 0 := by decide
  have hmax : IntKind.u16.max = 65535 := by decide
  rw [hmin, hmax] at hw
  exact hw
theorem getD_set_eq {L : List Int} {i : Nat} {z : Int} (h : i < L.length) : (L.set i z).getD i 0 = z := by
  simp [List.getD, h]
theorem getD_set_ne {L : List Int} {i j : Nat} {z : Int} (h : i ≠ j) : (L.set i z).getD j 0 = L.getD j 0 := by
  simp [List.getD, h]
theorem mem_set_fits {L : List Int} {i : Nat} {y : Int} (h1 : ∀ z ∈ L, Fits .u8 z) (h2 : Fits .u8 y) : ∀ z ∈ L.set i y, Fits .u8 z := by
  intro z hz
  rcases List.mem_or_eq_of_mem_set hz with hz | rfl
  · exact h1 z hz
  · exact h2
theorem wraps_i64 (n : Int) (h₀ : 0 ≤ n) (h₁ : n < 2 ^ 63) : IntKind.i64.wrap n = n := by rw [IntKind.wrap_i64]; omega
theorem and15 {x : Int} (h0 : 0 ≤ x) (h1 : x < 65536) : bits .and .i64 x 15 = x % 16 := bits_mask .i64 63 (by decide) wraps_i64 4 (by decide) x h0 (by omega)
theorem lo_digit {N : Int} (h0 : 0 ≤ N) (h1 : N < 16) (hh : N.toNat < (⟨#[48, 49, 50, 51, 52, 53, 54, 55, 56, 57, 97, 98, 99, 100, 101, 102]⟩ : ByteArray).size) :
    Fits .u8 (((⟨#[48, 49, 50, 51, 52, 53, 54, 55, 56, 57, 97, 98, 99, 100, 101, 102]⟩ : ByteArray)[N.toNat]'hh).toNat : Int) ∧ hexv (((⟨#[48, 49, 50, 51, 52, 53, 54, 55, 56, 57, 97, 98, 99, 100, 101, 102]⟩ : ByteArray)[N.toNat]'hh).toNat : Int) = N := by
  obtain ⟨x, rfl⟩ := Int.eq_ofNat_of_zero_le h0
  obtain rfl | rfl | rfl | rfl | rfl | rfl | rfl | rfl | rfl | rfl | rfl | rfl | rfl | rfl | rfl | rfl : x = 0 ∨ x = 1 ∨ x = 2 ∨ x = 3 ∨ x = 4 ∨ x = 5 ∨ x = 6 ∨ x = 7 ∨ x = 8 ∨ x = 9 ∨ x = 10 ∨ x = 11 ∨ x = 12 ∨ x = 13 ∨ x = 14 ∨ x = 15 := by omega
  all_goals exact ⟨rfl, rfl⟩
theorem up_digit {N : Int} (h0 : 0 ≤ N) (h1 : N < 16) (hh : N.toNat < (⟨#[48, 49, 50, 51, 52, 53, 54, 55, 56, 57, 65, 66, 67, 68, 69, 70]⟩ : ByteArray).size) :
    Fits .u8 (((⟨#[48, 49, 50, 51, 52, 53, 54, 55, 56, 57, 65, 66, 67, 68, 69, 70]⟩ : ByteArray)[N.toNat]'hh).toNat : Int) ∧ hexv (((⟨#[48, 49, 50, 51, 52, 53, 54, 55, 56, 57, 65, 66, 67, 68, 69, 70]⟩ : ByteArray)[N.toNat]'hh).toNat : Int) = N := by
  obtain ⟨x, rfl⟩ := Int.eq_ofNat_of_zero_le h0
  obtain rfl | rfl | rfl | rfl | rfl | rfl | rfl | rfl | rfl | rfl | rfl | rfl | rfl | rfl | rfl | rfl : x = 0 ∨ x = 1 ∨ x = 2 ∨ x = 3 ∨ x = 4 ∨ x = 5 ∨ x = 6 ∨ x = 7 ∨ x = 8 ∨ x = 9 ∨ x = 10 ∨ x = 11 ∨ x = 12 ∨ x = 13 ∨ x = 14 ∨ x = 15 := by omega
  all_goals exact ⟨rfl, rfl⟩
theorem Wrote.step {D : List Int} {n m k : Nat} {u : Int} (h : Wrote D n m k u) (hk : k < 4) {z : Int} (hf : Fits .u8 z) (hz : hexv z = nib u k) : Wrote (D.set (n + 2 + k) z) n m (k + 1) u := by
  obtain ⟨h1, h2, h3, h4, h5⟩ := h
  refine ⟨by simpa using h1, mem_set_fits h2 hf, by rw [getD_set_ne (by omega)]; exact h3, by rw [getD_set_ne (by omega)]; exact h4, fun j hj => ?_⟩
  by_cases e : j = k
  · subst e
    rw [getD_set_eq (by omega)]
    exact hz
  · rw [getD_set_ne (by omega)]
    exact h5 j (by omega)
theorem getD_splice {L M : List Int} {off j : Nat} (h : j < off) (ho : off ≤ L.length) : (splice L off M).getD j 0 = L.getD j 0 := by
  simp only [splice, List.getD]
  rw [List.getElem?_append_left (by simp; omega), List.getElem?_take_of_lt h]
theorem unit_wrote {D S : List Int} {n m : Nat} {u : Int} (h : Wrote D n m 4 u) (h0 : 0 ≤ u) (h1 : u ≤ 65535) (hS : S.length = m) : unitOf (splice D (n + 6) S) n = u := by
  obtain ⟨d1, d2, d3, d4, d5⟩ := h
  have hl : (splice D (n + 6) S).length = n + 6 + m := by rw [length_splice _ _ _ (by omega)]; exact d1
  have hg : ∀ j, j < n + 6 → (splice D (n + 6) S).getD j 0 = D.getD j 0 := fun j hj => getD_splice hj (by omega)
  unfold unitOf
  rw [if_pos ⟨by omega, by rw [hg _ (by omega)]; exact d3, by rw [hg _ (by omega)]; exact d4⟩]
  rw [drop_get (by omega), drop_get (by omega), drop_get (by omega), drop_get (by omega), hg _ (by omega), hg _ (by omega), hg _ (by omega), hg _ (by omega)]
  have k0 := d5 0 (by omega)
  have k1 := d5 1 (by omega)
  have k2 := d5 2 (by omega)
  have k3 := d5 3 (by omega)
  simp only [nib] at k0 k1 k2 k3
  simp only [Nat.add_assoc] at k0 k1 k2 k3 ⊢
  simp at k0 k1 k2 k3 ⊢
  simp only [hexGo, k0, k1, k2, k3]
  rw [if_neg (by omega), if_neg (by omega), if_neg (by omega), if_neg (by omega)]
  omega
theorem mem_splice {L M : List Int} {off : Nat} {Q : Int → Prop} (h1 : ∀ z ∈ L, Q z) (h2 : ∀ z ∈ M, Q z) : ∀ z ∈ splice L off M, Q z := by
  intro z hz
  simp only [splice, List.mem_append] at hz
  rcases hz with hz | hz | hz
  · exact h1 z (List.mem_of_mem_take hz)
  · exact h2 z hz
  · exact h1 z (List.mem_of_mem_drop hz)

set_option maxHeartbeats 1000000 in
theorem lawTrip (a : Option Addr) (n c : Nat) (P : List Int) (b : Option Addr) (m d : Nat) (S : List Int) (u up : Int) (w : World) (hP : RowAt w 0 w.heap.size .u8 a n c P) (hS : RowAt w 0 w.heap.size .u8 b m d S)
    (hu : Fits .u16 u) (hup : Fits .u8 up) :
    Calls Try.prog 5 #[.slice a n c, .slice b m d, .int .u16 u, .int .u8 up] w fun e w' => e = .returned (.bool true) ∧ Below w.heap.size w w' := by
  have hn : n ≤ maxLen := Nat.le_trans hP.2.1 hP.2.2.1
  have hm : m ≤ maxLen := Nat.le_trans hS.2.1 hS.2.2.1
  have Z := sizes5 a b n c m d u up w hn hm
  unfold maxLen at hn hm
  go_enter Try.func5, Try.ntmps5
  go_wp2_with (first
    | (go_at_call 15; refine Z.mono ?_; rintro _ _ ⟨⟨b0, rfl, hb0⟩, hw1⟩; subst hw1))
  · go_ret
    exact ⟨rfl, Below.refl _ _⟩
  · go_ret
    exact ⟨rfl, Below.refl _ _⟩
  · go_ret
    exact ⟨rfl, Below.refl _ _⟩
  have hn5 : n ≤ 524288 := by omega
  have hm5 : m ≤ 524288 := by omega
  clear Z hb0
  refine (copyBytes a n c P w 0 hP (by omega)).mono ?_
  rintro _ w1 ⟨a1, n1, c1, rfl, hP1, hb1⟩
  obtain rfl : n1 = n := hP1.1.symm.trans hP.1
  have hS1 : RowAt w1 0 w1.heap.size .u8 b m d S := hS.keep (.of_below hb1) (Nat.le_refl _) hb1.size
  clear hP hS
  go_wp2_with fail
  refine (copyBytes b m d S w1 0 hS1 (by omega)).mono ?_
  rintro _ w2 ⟨b1, m1, d1, rfl, hS2, hb2⟩
  obtain rfl : m1 = m := hS2.1.symm.trans hS1.1
  have hP2 : RowAt w2 0 w2.heap.size .u8 a1 n1 c1 P := hP1.keep (.of_below hb2) (Nat.zero_le _) hb2.size
  have hA2 : Below w.heap.size w w2 := hb1.trans (hb2.mono hb1.size)
  have hsz := hA2.size
  have hS2' : RowAt w2 0 w2.heap.size .u8 b1 m1 d1 S := hS2.keep (Keeps.refl _ _ _) (Nat.zero_le _) (Nat.le_refl _)
  clear hS1 hP1 hb1 hb2 hS2
  obtain ⟨i0, hi, hz0, hz1, hz2⟩ := info_parts Try.info5
  have HB : i0.bytes * (n1 + 6 + m1) ≤ 281474976710656 := by rw [hz2]; omega
  have hml : n1 + 6 + m1 ≤ maxLen := by unfold maxLen; omega
  have hPl := hP2.1
  have e1 : Hid (P.length = Nat.min n1 (n1 + 6 + m1)) := show _ = _ by rw [hPl]; exact (Nat.min_eq_left (by omega)).symm
  have e3 : Hid (0 + P.length ≤ (List.replicate (n1 + 6 + m1) (0 : Int)).length) := show _ ≤ _ by simp; omega
  have eD : Hid (∀ w4 : World, Buf w4 w2.heap.size (splice (List.replicate (n1 + 6 + m1) 0) 0 P) → ∃ D, Buf w4 w2.heap.size D ∧ D.length = n1 + 6 + m1 ∧ ∀ z ∈ D, Fits .u8 z) := fun w4 h4 =>
    ⟨_, h4, by rw [length_splice _ _ _ e3.out]; simp, mem_splice (fun z hz => by rw [List.eq_of_mem_replicate hz]; rfl) hP2.2.2.2.1⟩
  go_wp2_with (first
    | (at_make; refine wpList_make_full _ rfl _ _ 22 rfl w2.heap.size 5 i0 (.int .u8 0) 1 Try.underlying22 hi hz0 hz1 _ _ _ _ (n1 + 6 + m1) rfl rfl (by omega) (by omega) HB hml (Nat.le_refl _) ?_; intro w3 hown hgrow; have hB3 : Buf w3 w2.heap.size (List.replicate (n1 + 6 + m1) 0) := Buf.start hown; have hb3 : Below w2.heap.size w2 w3 := (Below.refl _ _).grown hgrow (Nat.le_refl _) (by simp); clear hown hgrow)
    | (guard_target = wpList _ _ _ (Oper.mk _ (Op.call { callee := Callee.builtin Builtin.copy, args := _, argTypes := _ }) _ _ _ _ :: _) _ _; refine wpList_copy_buf rfl _ _ rfl _ _ _ _ _ _ rfl rfl w2.heap.size 0 _ hB3 P e1 (fun _ => rfl) (hP2.keep (.of_below hb3) (Nat.le_refl _) (Nat.le_refl _)).src e3 w2.heap.size w2 hb3 (Nat.le_refl _) ?_; intro w4 hB4' hb4; obtain ⟨D4, hB4, hD4, hF4⟩ := eD.out w4 hB4'; have q0 := hB4.cell (i := n1) (by omega); have q1 := hB4.cell (i := n1 + 1) (by omega); have f0 := hB4.frozen n1; have f1 := hB4.frozen (n1 + 1); clear hB3 hb3 hB4'))
  obtain ⟨W5, hW5⟩ : ∃ W5, W5 = (w4.setCell ⟨w2.heap.size, n1, none⟩ (.int .u8 92)).setCell ⟨w2.heap.size, n1 + 1, none⟩ (.int .u8 117) := ⟨_, rfl⟩
  rw [← hW5]
  have h5 : ∃ D, Buf W5 w2.heap.size D ∧ Wrote D n1 m1 0 u := by
    refine ⟨_, by rw [hW5]; exact (hB4.set n1 92).set (n1 + 1) 117, ?_, ?_, ?_, ?_, fun j hj => absurd hj (Nat.not_lt_zero _)⟩
    · simp [hD4]
    · intro z hz
      rcases List.mem_or_eq_of_mem_set hz with hz | rfl
      · rcases List.mem_or_eq_of_mem_set hz with hz | rfl
        · exact hF4 z hz
        · rfl
      · rfl
    · rw [getD_set_ne (by omega), getD_set_eq (by omega)]
    · rw [getD_set_eq (by simp [hD4]; omega)]
  have hb5 : Below w2.heap.size w2 W5 := by rw [hW5]; exact (hb4.setCell (Nat.le_refl _) _).setCell (Nat.le_refl _) _
  clear hB4 hD4 hF4 q0 q1 f0 f1 hW5 hb4 e1 e3 eD HB hi hz0 hz1 hz2
  have hub : 0 ≤ u ∧ u ≤ 65535 := fits_u16 hu
  have hpb : 0 ≤ up ∧ up ≤ 255 := fits_u8 hup
  go_loopw [11] (fun i wr => ∃ (k : Nat) (D : List Int), k ≤ 4 ∧ i = .int .i64 k ∧ Buf wr w2.heap.size D ∧ Wrote D n1 m1 k u ∧ Below w2.heap.size w2 wr) (fun i _ => 4 - (intOf i).toNat)
  case atStart =>
    obtain ⟨D, h1, h2⟩ := h5
    exact ⟨0, D, by omega, rfl, h1, h2, hb5⟩
  case round =>
    obtain ⟨k, D, hk, rfl, hB, hD, hbr⟩ := hrel
    clear h5 hb5
    by_cases hk4 : k < 4
    · have q := hB.cell (i := n1 + 2 + k) (by rw [hD.1]; omega)
      have f := hB.frozen (n1 + 2 + k)
      obtain rfl | rfl | rfl | rfl : k = 0 ∨ k = 1 ∨ k = 2 ∨ k = 3 := by omega
      · have hand := and15 (x := u / 4096) (by omega) (by omega)
        obtain ⟨N, hN⟩ : ∃ N, N = u / 4096 % 16 := ⟨_, rfl⟩
        rw [← hN] at hand
        have hN0 : 0 ≤ N := by omega
        have hN1 : N < 16 := by omega
        have HN : Hid (N = nib u 0) := hN
        clear hN
        go_wp2
        · go_roundw
          case rel => exact ⟨1, _, by omega, rfl, hB.set _ _, hD.step hk4 (up_digit hN0 hN1 _).1 ((up_digit hN0 hN1 _).2.trans HN.out), hbr.setCell (Nat.le_refl _) _⟩
          case measure => simp [intOf]
        · go_roundw
          case rel => exact ⟨1, _, by omega, rfl, hB.set _ _, hD.step hk4 (lo_digit hN0 hN1 _).1 ((lo_digit hN0 hN1 _).2.trans HN.out), hbr.setCell (Nat.le_refl _) _⟩
          case measure => simp [intOf]
      · have hand := and15 (x := u / 256) (by omega) (by omega)
        obtain ⟨N, hN⟩ : ∃ N, N = u / 256 % 16 := ⟨_, rfl⟩
        rw [← hN] at hand
        have hN0 : 0 ≤ N := by omega
        have hN1 : N < 16 := by omega
        have HN : Hid (N = nib u 1) := hN
        clear hN
        go_wp2
        · go_roundw
          case rel => exact ⟨2, _, by omega, rfl, hB.set _ _, hD.step hk4 (up_digit hN0 hN1 _).1 ((up_digit hN0 hN1 _).2.trans HN.out), hbr.setCell (Nat.le_refl _) _⟩
          case measure => simp [intOf]
        · go_roundw
          case rel => exact ⟨2, _, by omega, rfl, hB.set _ _, hD.step hk4 (lo_digit hN0 hN1 _).1 ((lo_digit hN0 hN1 _).2.trans HN.out), hbr.setCell (Nat.le_refl _) _⟩
          case measure => simp [intOf]
      · have hand := and15 (x := u / 16) (by omega) (by omega)
        obtain ⟨N, hN⟩ : ∃ N, N = u / 16 % 16 := ⟨_, rfl⟩
        rw [← hN] at hand
        have hN0 : 0 ≤ N := by omega
        have hN1 : N < 16 := by omega
        have HN : Hid (N = nib u 2) := hN
        clear hN
        go_wp2
        · go_roundw
          case rel => exact ⟨3, _, by omega, rfl, hB.set _ _, hD.step hk4 (up_digit hN0 hN1 _).1 ((up_digit hN0 hN1 _).2.trans HN.out), hbr.setCell (Nat.le_refl _) _⟩
          case measure => simp [intOf]
        · go_roundw
          case rel => exact ⟨3, _, by omega, rfl, hB.set _ _, hD.step hk4 (lo_digit hN0 hN1 _).1 ((lo_digit hN0 hN1 _).2.trans HN.out), hbr.setCell (Nat.le_refl _) _⟩
          case measure => simp [intOf]
      · have hand := and15 (x := u) (by omega) (by omega)
        obtain ⟨N, hN⟩ : ∃ N, N = u % 16 := ⟨_, rfl⟩
        rw [← hN] at hand
        have hN0 : 0 ≤ N := by omega
        have hN1 : N < 16 := by omega
        have HN : Hid (N = nib u 3) := hN.trans (by simp [nib])
        clear hN
        go_wp2
        · go_roundw
          case rel => exact ⟨4, _, by omega, rfl, hB.set _ _, hD.step hk4 (up_digit hN0 hN1 _).1 ((up_digit hN0 hN1 _).2.trans HN.out), hbr.setCell (Nat.le_refl _) _⟩
          case measure => simp [intOf]
        · go_roundw
          case rel => exact ⟨4, _, by omega, rfl, hB.set _ _, hD.step hk4 (lo_digit hN0 hN1 _).1 ((lo_digit hN0 hN1 _).2.trans HN.out), hbr.setCell (Nat.le_refl _) _⟩
          case measure => simp [intOf]
    · obtain rfl : k = 4 := by omega
      have hSl := hS2'.1
      have hSr := hS2'.keep (.of_below hbr) (Nat.le_refl _) (Nat.le_refl _)
      have hSrc := hSr.src
      have hDl := hD.1
      have HF : Hid (∀ z ∈ splice D (n1 + 6) S, Fits .u8 z) := mem_splice hD.2.1 hS2'.2.2.2.1
      have HL : Hid ((splice D (n1 + 6) S).length = n1 + 6 + m1) := show _ = _ by rw [length_splice _ _ _ (by omega)]; exact hDl
      have HU : Hid (unitOf (splice D (n1 + 6) S) n1 = u) := unit_wrote hD hub.1 hub.2 hSl
      have e1 : Hid (S.length = Nat.min m1 m1) := show _ = _ by rw [hSl]; exact (Nat.min_self m1).symm
      have e1' : Hid (S.length = Nat.min m1 (n1 + 6 + m1 - (n1 + 6))) := show _ = _ by rw [hSl, show n1 + 6 + m1 - (n1 + 6) = m1 from by omega]; exact (Nat.min_self m1).symm
      have e3 : Hid (n1 + 6 + S.length ≤ D.length) := show _ ≤ _ by omega
      have hC : ∀ W : World, Buf W w2.heap.size (splice D (n1 + 6) S) → Calls Try.prog 13 #[.slice (some ⟨w2.heap.size, 0, none⟩) (n1 + 6 + m1) (n1 + 6 + m1), .int .i64 n1] W fun e w' => e = .returned (.int .i32 u) ∧ ∃ q, w' = W.drewN q := by
        intro W hW
        have h1 := zzEscapedUnit _ _ _ _ n1 W _ _ (hW.row (off := 0) (n := n1 + 6 + m1) (c := n1 + 6 + m1) (M := splice D (n1 + 6) S) (by rw [List.drop_zero, List.take_of_length_le (by rw [HL.out]; exact Nat.le_refl _)]) HL.out (Nat.le_refl _) hml HF.out) (by omega)
        rw [HU.out] at h1
        exact h1
      clear hP2 hS2' hSr hD
      rcases Nat.eq_zero_or_pos m1 with h0 | h0
      · subst h0
        obtain rfl : S = [] := List.eq_nil_of_length_eq_zero hSl
        go_wp2_with (first
          | (guard_target = wpList _ _ _ (Oper.mk _ (Op.call { callee := Callee.builtin Builtin.copy, args := _, argTypes := _ }) _ _ _ _ :: _) _ _; refine wpList_copy_buf rfl _ _ rfl _ _ _ _ _ _ rfl rfl w2.heap.size (n1 + 6) _ hB [] (by first | exact e1 | exact e1') (fun h => absurd h (by decide)) hSrc e3 w2.heap.size w2 hbr (Nat.le_refl _) ?_; intro w6 hB6 hb6; have hC6 := hC w6 hB6; clear hB)
          | (go_at_call 13; refine hC6.mono ?_; rintro _ w7 ⟨rfl, q7, hq7⟩))
        go_ret
        exact ⟨rfl, below_drewN (hA2.trans (hb6.mono hsz)) _⟩
      · go_wp2_with (first
          | (guard_target = wpList _ _ _ (Oper.mk _ (Op.call { callee := Callee.builtin Builtin.copy, args := _, argTypes := _ }) _ _ _ _ :: _) _ _; refine wpList_copy_buf rfl _ _ rfl _ _ _ _ _ _ rfl rfl w2.heap.size (n1 + 6) _ hB S (by first | exact e1 | exact e1') (fun _ => rfl) hSrc e3 w2.heap.size w2 hbr (Nat.le_refl _) ?_; intro w6 hB6 hb6; have hC6 := hC w6 hB6; clear hB)
          | (go_at_call 13; refine hC6.mono ?_; rintro _ w7 ⟨rfl, q7, hq7⟩))
        go_ret
        exact ⟨rfl, below_drewN (hA2.trans (hb6.mono hsz)) _⟩
end Go.Proofs.Qxb6604181a
