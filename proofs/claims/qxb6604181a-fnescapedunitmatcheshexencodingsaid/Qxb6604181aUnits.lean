import Derived.Test.Qxb6604181aIsHex
namespace Go.Proofs.Qxb6604181a
open Go.RowKit

theorem sizes4 (a : Option Addr) (n c : Nat) (i : Int) (w : World) (hn : n ≤ maxLen) :
    Calls Try.prog 12 #[.slice a n c, .int .i64 i] w fun e w' => (∃ r : Bool, e = .returned (.bool r)) ∧ w = w' := by
  unfold maxLen at hn
  go_enter Try.func12, Try.ntmps12
  go_wp2
  all_goals
    go_ret
    exact ⟨⟨_, rfl⟩, rfl⟩

theorem wraps_i64' (n : Int) (h₀ : 0 ≤ n) (h₁ : n < 2 ^ 63) : IntKind.i64.wrap n = n := by rw [IntKind.wrap_i64]; omega
theorem and15i {x : Int} (h0 : 0 ≤ x) (h1 : x < 65536) : bits .and .i32 x 15 = x % 16 := bits_mask .i32 31 (by decide) wraps_i32 4 (by decide) x h0 (by omega)

/-- Four digits read. -/
theorem hexGo_four {z0 z1 z2 z3 : Int} (h0 : 0 ≤ hexv z0) (h1 : 0 ≤ hexv z1) (h2 : 0 ≤ hexv z2) (h3 : 0 ≤ hexv z3) :
    hexGo [z0, z1, z2, z3] 0 = ((hexv z0 * 16 + hexv z1) * 16 + hexv z2) * 16 + hexv z3 := by
  simp only [hexGo]
  rw [if_neg (by omega), if_neg (by omega), if_neg (by omega), if_neg (by omega)]
  omega
theorem hexGo_none {z0 z1 z2 z3 : Int} (h : hexv z0 < 0 ∨ hexv z1 < 0 ∨ hexv z2 < 0 ∨ hexv z3 < 0) : hexGo [z0, z1, z2, z3] 0 = -1 := by
  simp only [hexGo]
  repeat' split
  all_goals first | rfl | omega

set_option maxRecDepth 20000 in
set_option maxHeartbeats 2000000 in
theorem lawUnits (a : Option Addr) (n c : Nat) (zs : List Int) (i : Int) (w : World) (h : RowAt w 0 w.heap.size .u8 a n c zs) (hi : Fits .i64 i) :
    Calls Try.prog 4 #[.slice a n c, .int .i64 i] w fun e w' => e = .returned (.bool true) ∧ Below w.heap.size w w' := by
  have hn : n ≤ maxLen := Nat.le_trans h.2.1 h.2.2.1
  have Z := sizes4 a n c i w hn
  unfold maxLen at hn
  go_enter Try.func4, Try.ntmps4
  go_wp2_with (first
    | (go_at_call 12; refine Z.mono ?_; rintro _ _ ⟨⟨b0, rfl⟩, hw1⟩; subst hw1))
  all_goals try (go_ret; exact ⟨rfl, Below.refl _ _⟩)
  have hn20 : n ≤ 1048576 := by omega
  have hi0 : 0 ≤ i := by omega
  have hi1 : i ≤ 1073741824 := by omega
  obtain ⟨i, rfl⟩ := Int.eq_ofNat_of_zero_le hi0
  clear Z hi hi0
  refine (copyBytes a n c zs w 0 h hn20).mono ?_
  rintro _ w1 ⟨a1, n1, c1, rfl, h1, hb1⟩
  obtain rfl : n1 = n := h1.1.symm.trans h.1
  have hl := h.1
  clear h
  have EU := zzEscapedUnit a1 n1 c1 zs i w1 _ _ h1 (by omega)
  go_wp2_with fail
  refine EU.mono ?_
  rintro _ w2 ⟨rfl, q2, hq2⟩
  have h2 : RowAt w2 w.heap.size w1.heap.size .u8 a1 n1 c1 zs := by rw [hq2]; exact h1
  have hb2 : Below w.heap.size w w2 := by rw [hq2]; exact below_drewN hb1 _
  clear hq2 EU h1 hb1
  by_cases h6 : i + 6 ≤ n1
  · obtain ⟨b, off, rfl, hb, hc⟩ := h2.at (i := 0) (by omega)
    have c0 := hc i (by omega)
    have c1' := hc (i + 1) (by omega)
    have c2' := hc (i + 2) (by omega)
    have c3' := hc (i + 3) (by omega)
    have c4' := hc (i + 4) (by omega)
    have c5' := hc (i + 5) (by omega)
    have hcz := h2.2.1
    have hcm : c1 ≤ maxLen := h2.2.2.1
    unfold maxLen at hcm
    have hU : zs.getD i 0 = 92 → zs.getD (i + 1) 0 = 117 → unitOf zs i = hexGo [zs.getD (i + 2) 0, zs.getD (i + 3) 0, zs.getD (i + 4) 0, zs.getD (i + 5) 0] 0 := by
      intro e1 e2
      unfold unitOf
      rw [if_pos ⟨by omega, e1, e2⟩, drop_get (by omega), drop_get (by omega), drop_get (by omega), drop_get (by omega)]
      rfl
    have hN : ¬ (zs.getD i 0 = 92 ∧ zs.getD (i + 1) 0 = 117) → unitOf zs i = -1 := fun hh => by
      unfold unitOf
      rw [if_neg (fun h3 => hh h3.2)]
    generalize zs.getD i 0 = x at c0 hU hN
    generalize zs.getD (i + 1) 0 = y at c1' hU hN
    generalize zs.getD (i + 2) 0 = z0 at c2' hU
    generalize zs.getD (i + 3) 0 = z1 at c3' hU
    generalize zs.getD (i + 4) 0 = z2 at c4' hU
    generalize zs.getD (i + 5) 0 = z3 at c5' hU
    generalize unitOf zs i = U at hU hN ⊢
    clear hc h2
    have gi : (i : Int) + 6 ≤ (n1 : Int) := by omega
    by_cases hx : x = 92
    · by_cases hy : y = 117
      · subst hx
        subst hy
        have hUU := hU rfl rfl
        clear hU hN
        by_cases k0 : 0 ≤ hexv z0
        · by_cases k1 : 0 ≤ hexv z1
          · by_cases k2 : 0 ≤ hexv z2
            · by_cases k3 : 0 ≤ hexv z3
              · rw [hexGo_four k0 k1 k2 k3] at hUU
                have l0 := hexv_le z0
                have HD0 := hexv_digit k0
                obtain ⟨m0, hm0⟩ : ∃ m : Nat, m = (hexv z0).toNat := ⟨_, rfl⟩
                rw [← hm0] at HD0
                have hv0 : hexv z0 = (m0 : Int) := by omega
                have hq0 : m0 < 16 := by omega
                rw [hv0] at hUU
                have l1 := hexv_le z1
                have HD1 := hexv_digit k1
                obtain ⟨m1, hm1⟩ : ∃ m : Nat, m = (hexv z1).toNat := ⟨_, rfl⟩
                rw [← hm1] at HD1
                have hv1 : hexv z1 = (m1 : Int) := by omega
                have hq1 : m1 < 16 := by omega
                rw [hv1] at hUU
                have l2 := hexv_le z2
                have HD2 := hexv_digit k2
                obtain ⟨m2, hm2⟩ : ∃ m : Nat, m = (hexv z2).toNat := ⟨_, rfl⟩
                rw [← hm2] at HD2
                have hv2 : hexv z2 = (m2 : Int) := by omega
                have hq2 : m2 < 16 := by omega
                rw [hv2] at hUU
                have l3 := hexv_le z3
                have HD3 := hexv_digit k3
                obtain ⟨m3, hm3⟩ : ∃ m : Nat, m = (hexv z3).toNat := ⟨_, rfl⟩
                rw [← hm3] at HD3
                have hv3 : hexv z3 = (m3 : Int) := by omega
                have hq3 : m3 < 16 := by omega
                rw [hv3] at hUU
                have hU0 : 0 ≤ U := by omega
                have hU1 : U ≤ 65535 := by omega
                have n0 : U / 4096 % 16 = (m0 : Int) := by omega
                have n1' : U / 256 % 16 = (m1 : Int) := by omega
                have n2 : U / 16 % 16 = (m2 : Int) := by omega
                have n3 : U % 16 = (m3 : Int) := by omega
                have A0 : Hid (bits .and .i32 (U / 4096) 15 = (m0 : Int)) := (and15i (by omega) (by omega)).trans n0
                have A1 : Hid (bits .and .i32 (U / 256) 15 = (m1 : Int)) := (and15i (by omega) (by omega)).trans n1'
                have A2 : Hid (bits .and .i32 (U / 16) 15 = (m2 : Int)) := (and15i (by omega) (by omega)).trans n2
                have A3 : Hid (bits .and .i32 U 15 = (m3 : Int)) := (and15i (by omega) (by omega)).trans n3
                have G0 : Hid (z0 = lo m0 ∨ z0 = hi m0) := HD0
                have G1 : Hid (z1 = lo m1 ∨ z1 = hi m1) := HD1
                have G2 : Hid (z2 = lo m2 ∨ z2 = hi m2) := HD2
                have G3 : Hid (z3 = lo m3 ∨ z3 = hi m3) := HD3
                clear hUU n0 n1' n2 n3 HD0 HD1 HD2 HD3 l0 l1 l2 l3 hm0 hm1 hm2 hm3 hv0 hv1 hv2 hv3
                go_wp2_with (first | (go_at_call 14; refine (isHexF _ _ (by assumption)).mono ?_; rintro _ _ ⟨rfl, hw⟩; subst hw) | (go_at_call 14; refine (isHexT _ _ (by assumption)).mono ?_; rintro _ _ ⟨rfl, hw⟩; subst hw))
                go_loop [7] (fun kv => ∃ k : Nat, k ≤ 4 ∧ kv = .int .i64 k) (fun kv => 4 - (intOf kv).toNat)
                case atStart => exact ⟨0, Nat.zero_le _, rfl⟩
                case round =>
                  obtain ⟨k, hk, rfl⟩ := hrel
                  by_cases hk4 : k < 4
                  · obtain rfl | rfl | rfl | rfl : k = 0 ∨ k = 1 ∨ k = 2 ∨ k = 3 := by omega
                    · have hA := A0.out
                      have hlo := lo_get hq0
                      have hhi := hi_get hq0
                      have cz : w2.cell? ⟨b, off + (i + 2 + 0), none⟩ = some (.int .u8 z0) := c2'
                      rcases G0.out with e | e
                      all_goals
                        subst e
                        go_wp2
                        all_goals
                          go_round
                          case rel => exact ⟨1, by omega, rfl⟩
                          case measure => simp [intOf]
                    · have hA := A1.out
                      have hlo := lo_get hq1
                      have hhi := hi_get hq1
                      have cz : w2.cell? ⟨b, off + (i + 2 + 1), none⟩ = some (.int .u8 z1) := c3'
                      rcases G1.out with e | e
                      all_goals
                        subst e
                        go_wp2
                        all_goals
                          go_round
                          case rel => exact ⟨2, by omega, rfl⟩
                          case measure => simp [intOf]
                    · have hA := A2.out
                      have hlo := lo_get hq2
                      have hhi := hi_get hq2
                      have cz : w2.cell? ⟨b, off + (i + 2 + 2), none⟩ = some (.int .u8 z2) := c4'
                      rcases G2.out with e | e
                      all_goals
                        subst e
                        go_wp2
                        all_goals
                          go_round
                          case rel => exact ⟨3, by omega, rfl⟩
                          case measure => simp [intOf]
                    · have hA := A3.out
                      have hlo := lo_get hq3
                      have hhi := hi_get hq3
                      have cz : w2.cell? ⟨b, off + (i + 2 + 3), none⟩ = some (.int .u8 z3) := c5'
                      rcases G3.out with e | e
                      all_goals
                        subst e
                        go_wp2
                        all_goals
                          go_round
                          case rel => exact ⟨4, by omega, rfl⟩
                          case measure => simp [intOf]
                  · go_wp2
                    go_ret
                    exact ⟨rfl, hb2⟩
              · have k3' : hexv z3 < 0 := by omega
                rw [hexGo_none ((.inr (.inr (.inr k3'))))] at hUU
                subst hUU
                go_wp2_with (first | (go_at_call 14; refine (isHexF _ _ (by assumption)).mono ?_; rintro _ _ ⟨rfl, hw⟩; subst hw) | (go_at_call 14; refine (isHexT _ _ (by assumption)).mono ?_; rintro _ _ ⟨rfl, hw⟩; subst hw))
                go_ret
                exact ⟨rfl, hb2⟩
            · have k2' : hexv z2 < 0 := by omega
              rw [hexGo_none ((.inr (.inr (.inl k2'))))] at hUU
              subst hUU
              go_wp2_with (first | (go_at_call 14; refine (isHexF _ _ (by assumption)).mono ?_; rintro _ _ ⟨rfl, hw⟩; subst hw) | (go_at_call 14; refine (isHexT _ _ (by assumption)).mono ?_; rintro _ _ ⟨rfl, hw⟩; subst hw))
              go_ret
              exact ⟨rfl, hb2⟩
          · have k1' : hexv z1 < 0 := by omega
            rw [hexGo_none ((.inr (.inl k1')))] at hUU
            subst hUU
            go_wp2_with (first | (go_at_call 14; refine (isHexF _ _ (by assumption)).mono ?_; rintro _ _ ⟨rfl, hw⟩; subst hw) | (go_at_call 14; refine (isHexT _ _ (by assumption)).mono ?_; rintro _ _ ⟨rfl, hw⟩; subst hw))
            go_ret
            exact ⟨rfl, hb2⟩
        · have k0' : hexv z0 < 0 := by omega
          rw [hexGo_none (.inl k0')] at hUU
          subst hUU
          go_wp2_with (first | (go_at_call 14; refine (isHexF _ _ (by assumption)).mono ?_; rintro _ _ ⟨rfl, hw⟩; subst hw) | (go_at_call 14; refine (isHexT _ _ (by assumption)).mono ?_; rintro _ _ ⟨rfl, hw⟩; subst hw))
          go_ret
          exact ⟨rfl, hb2⟩
      · have e := hN (fun hh => hy hh.2)
        have hy' : (y == 117) = false := by simp [hy]
        subst hx
        subst e
        clear hU hN
        go_wp2
        go_ret
        exact ⟨rfl, hb2⟩
    · have e := hN (fun hh => hx hh.1)
      have hx' : (x == 92) = false := by simp [hx]
      subst e
      clear hU hN
      go_wp2
      go_ret
      exact ⟨rfl, hb2⟩
  · have e : unitOf zs i = -1 := by
      unfold unitOf
      rw [if_neg (fun hh => h6 (by omega))]
    rw [e]
    have gi : decide ((i : Int) + 6 ≤ (n1 : Int)) = false := by simp; omega
    go_wp2
    go_ret
    exact ⟨rfl, hb2⟩
end Go.Proofs.Qxb6604181a
