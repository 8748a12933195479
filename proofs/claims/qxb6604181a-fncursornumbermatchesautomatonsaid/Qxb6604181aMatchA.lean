import Derived.Test.Qxb6604181aNumber
namespace Go.Proofs.Qxb6604181a
open Go.RowKit

/-- What the reader answers, and where it stands. -/
def Stands (F : Nat × Nat) (e : Ending) : Prop := e = .returned (.tuple #[.bool (acc F.2), .int .i64 F.1])

set_option maxHeartbeats 400000 in
theorem zzNumber (a : Option Addr) (n c p : Nat) (zs : List Int) (F : Nat × Nat) (w : World) (hF : fin zs p 0 = F) (hR : RowAt w 0 w.heap.size .u8 a n c zs) (hn : n ≤ 1048576) (hp : p ≤ 9223372036854775807) :
    Calls Try.prog 9 #[.slice a n c, .int .i64 p] w fun e w' => Stands F e ∧ Below w.heap.size w w' := by
  obtain ⟨W, hW⟩ : ∃ W, W = w.alloc (.cells #[.slice a n c, .int .i64 p, .bool false, .bool false, .slice none 0 0] 41) := ⟨_, rfl⟩
  have hbW : Below w.heap.size w W := by rw [hW]; exact (Below.refl _ _).alloc (Nat.le_refl _) _
  have hC : Cur W w.heap.size a n c p := by rw [hW]; exact ⟨_, _, _, heap_alloc_new _ _⟩
  have NN := number w.heap.size a n c p zs F W w.heap.size hF hC (hR.keep (.of_below hbW) (Nat.le_refl _) (Nat.le_refl _)) (Nat.le_refl _) hn hp
  clear hF hR hC
  go_enter Try.func9, Try.ntmps9
  go_wp2_with fail
  rw [← hW]
  clear hW
  refine NN.mono ?_
  rintro _ w2 ⟨rfl, hC2, hb2⟩
  have c1 := hC2.c1
  clear NN
  go_wp2
  go_quiet (fail)
  go_wp2
  exact bodyPost_ret (v := .tuple #[.bool (acc F.2), .int .i64 F.1]) (by simp [results, Try.results9, go_sem]) rfl ⟨rfl, below_drewN (hbW.trans hb2) _⟩

theorem sizes3 (a : Option Addr) (n c : Nat) (i : Int) (w : World) (hn : n ≤ maxLen) :
    Calls Try.prog 7 #[.slice a n c, .int .i64 i] w fun e w' => (∃ r : Bool, e = .returned (.bool r)) ∧ w = w' := by
  unfold maxLen at hn
  go_enter Try.func7, Try.ntmps7
  go_wp2
  all_goals
    go_ret
    exact ⟨⟨_, rfl⟩, rfl⟩

theorem accepts (s : Nat) (w : World) (hs : s ≤ 8) : Calls Try.prog 11 #[.int .i64 s] w fun e w' => e = .returned (.bool (acc s)) ∧ w = w' := by
  obtain rfl | rfl | rfl | rfl | rfl | rfl | rfl | rfl | rfl : s = 0 ∨ s = 1 ∨ s = 2 ∨ s = 3 ∨ s = 4 ∨ s = 5 ∨ s = 6 ∨ s = 7 ∨ s = 8 := by omega
  all_goals
    go_enter Try.func11, Try.ntmps11
    go_wp2
    go_ret
    exact ⟨rfl, rfl⟩

theorem fits_i64 {z : Int} (h : Fits .i64 z) : z ≤ 9223372036854775807 := by
  have hw : IntKind.i64.min ≤ z ∧ z ≤ IntKind.i64.max := by simpa [Fits, Lit.wf] using h
  have hmax : IntKind.i64.max = 9223372036854775807 := by decide
  rw [hmax] at hw
  exact hw.2
theorem ret64 {a b : Int} (h : a = b) : Ending.returned (.int .i64 a) = Ending.returned (.int .i64 b) := by rw [h]
set_option maxHeartbeats 2000000 in
theorem numberStep (s : Nat) (b : Int) (w : World) (hs : s ≤ 8) : Calls Try.prog 10 #[.int .i64 s, .int .u8 b] w fun e w' => e = .returned (.int .i64 (step s b)) ∧ w = w' := by
  obtain rfl | rfl | rfl | rfl | rfl | rfl | rfl | rfl | rfl : s = 0 ∨ s = 1 ∨ s = 2 ∨ s = 3 ∨ s = 4 ∨ s = 5 ∨ s = 6 ∨ s = 7 ∨ s = 8 := by omega
  all_goals
    go_enter Try.func10, Try.ntmps10
    go_wp2
    all_goals
      go_ret
      refine ⟨ret64 ?_, rfl⟩
      try simp only [beq_iff_eq, beq_eq_false_iff_ne, ne_eq] at *
      simp only [step]
      repeat' split
      all_goals first | omega | (exact absurd (Or.inl trivial) (by assumption))

set_option maxHeartbeats 1000000 in
theorem lawNumber (a : Option Addr) (n c : Nat) (zs : List Int) (i : Int) (w : World) (h : RowAt w 0 w.heap.size .u8 a n c zs) (hi : Fits .i64 i) :
    Calls Try.prog 3 #[.slice a n c, .int .i64 i] w fun e w' => e = .returned (.bool true) ∧ Below w.heap.size w w' := by
  have hn : n ≤ maxLen := Nat.le_trans h.2.1 h.2.2.1
  have Z := sizes3 a n c i w hn
  have hi63 := fits_i64 hi
  unfold maxLen at hn
  go_enter Try.func3, Try.ntmps3
  go_wp2_with (first
    | (go_at_call 7; refine Z.mono ?_; rintro _ _ ⟨⟨b0, rfl⟩, hw1⟩; subst hw1))
  all_goals try (go_ret; exact ⟨rfl, Below.refl _ _⟩)
  have hn20 : n ≤ 1048576 := by omega
  have hi0 : 0 ≤ i := by omega
  obtain ⟨i, rfl⟩ := Int.eq_ofNat_of_zero_le hi0
  clear Z hi hi0
  refine (copyBytes a n c zs w 0 h hn20).mono ?_
  rintro _ w1 ⟨a1, n1, c1, rfl, h1, hb1⟩
  obtain rfl : n1 = n := h1.1.symm.trans h.1
  have hl := h.1
  clear h
  have h1' : RowAt w1 0 w1.heap.size .u8 a1 n1 c1 zs := h1.keep (Keeps.refl _ _ _) (Nat.zero_le _) (Nat.le_refl _)
  have NN := fun F hF => zzNumber a1 n1 c1 i zs F w1 hF h1' hn20 (by omega)
  obtain ⟨F, hF⟩ : ∃ F, fin zs i 0 = F := ⟨_, rfl⟩
  have NF := NN F hF
  have HF : Hid (fin zs i 0 = F) := hF
  clear NN hF h1
  go_wp2_with fail
  refine NF.mono ?_
  rintro _ w2 ⟨he, hb2⟩
  unfold Stands at he
  subst he
  have hA : Below w.heap.size w w2 := hb1.trans (hb2.mono hb1.size)
  have h2 : RowAt w2 0 w1.heap.size .u8 a1 n1 c1 zs := h1'.keep (.of_below hb2) (Nat.le_refl _) (Nat.le_refl _)
  clear NF h1' hb1 hb2
  go_wp2
  go_loop [7, 8] (fun sv pv => ∃ s p : Nat, s ≤ 8 ∧ sv = .int .i64 s ∧ pv = .int .i64 p ∧ (p : Int) ≤ 9223372036854775807 ∧ fin zs p s = F) (fun _ pv => n1 - (intOf pv).toNat)
  case atStart => exact ⟨0, i, by omega, rfl, rfl, by omega, HF.out⟩
  case round =>
    obtain ⟨s, p, hs, rfl, rfl, hp, hf⟩ := hrel
    have AC := accepts s w2 hs
    by_cases hlt : p < n1
    · obtain ⟨b, off, rfl, hb, hc⟩ := h2.at hlt
      have cp := hc p hlt
      have NS := numberStep s (zs.getD p 0) w2 hs
      have gp : (p : Int) < (n1 : Int) := by omega
      have hsl := step_le s (zs.getD p 0)
      by_cases hst : 0 ≤ step s (zs.getD p 0)
      · obtain ⟨s', hs'⟩ := Int.eq_ofNat_of_zero_le hst
        have hm := fin_move hs'
        rw [hf] at hm
        have HM : Hid (fin zs (p + 1) s' = F) := hm.symm
        rw [hs'] at NS hsl
        generalize zs.getD p 0 = z at cp NS
        clear hst hs' hm hf hc h2 HF AC
        go_wp2_with (first | (go_at_call 10; refine NS.mono ?_; rintro _ _ ⟨rfl, hw⟩; subst hw))
        go_round
        case rel => exact ⟨s', p + 1, by omega, rfl, by go_num, by omega, HM.out⟩
        case measure => simp [intOf]; omega
      · have hF2 := hf.symm.trans (fin_stop (by omega))
        obtain ⟨v, hv⟩ : ∃ v, v = step s (zs.getD p 0) := ⟨_, rfl⟩
        rw [← hv] at NS hst
        have hv0 : v < 0 := by omega
        generalize zs.getD p 0 = z at cp NS
        clear hst hv hf hc h2 HF hsl
        subst hF2
        go_wp2_with (first | (go_at_call 10; refine NS.mono ?_; rintro _ _ ⟨rfl, hw⟩; subst hw) | (go_at_call 11; refine AC.mono ?_; rintro _ _ ⟨rfl, hw⟩; subst hw))
        go_ret
        exact ⟨rfl, hA⟩
    · have hF2 := hf.symm.trans (fin_end (by omega))
      have gp : ¬ (p : Int) < (n1 : Int) := by omega
      clear hf h2 HF
      subst hF2
      go_wp2_with (first | (go_at_call 11; refine AC.mono ?_; rintro _ _ ⟨rfl, hw⟩; subst hw))
      go_ret
      exact ⟨rfl, hA⟩
end Go.Proofs.Qxb6604181a
