import Derived.Test.Qxb6604181aHexes
namespace Go.Proofs.Qxb6604181a
open Go.RowKit

/-- The hexadecimal digits in lower case, and in upper case. -/
def lo (k : Nat) : Int := if k < 10 then 48 + k else 87 + k
def hi (k : Nat) : Int := if k < 10 then 48 + k else 55 + k
theorem lo_get {k : Nat} (h : k < 16) (hh : k < (⟨#[48, 49, 50, 51, 52, 53, 54, 55, 56, 57, 97, 98, 99, 100, 101, 102]⟩ : ByteArray).size) :
    (((⟨#[48, 49, 50, 51, 52, 53, 54, 55, 56, 57, 97, 98, 99, 100, 101, 102]⟩ : ByteArray)[k]'hh).toNat : Int) = lo k := by
  obtain rfl | rfl | rfl | rfl | rfl | rfl | rfl | rfl | rfl | rfl | rfl | rfl | rfl | rfl | rfl | rfl : k = 0 ∨ k = 1 ∨ k = 2 ∨ k = 3 ∨ k = 4 ∨ k = 5 ∨ k = 6 ∨ k = 7 ∨ k = 8 ∨ k = 9 ∨ k = 10 ∨ k = 11 ∨ k = 12 ∨ k = 13 ∨ k = 14 ∨ k = 15 := by omega
  all_goals rfl
theorem hi_get {k : Nat} (h : k < 16) (hh : k < (⟨#[48, 49, 50, 51, 52, 53, 54, 55, 56, 57, 65, 66, 67, 68, 69, 70]⟩ : ByteArray).size) :
    (((⟨#[48, 49, 50, 51, 52, 53, 54, 55, 56, 57, 65, 66, 67, 68, 69, 70]⟩ : ByteArray)[k]'hh).toNat : Int) = hi k := by
  obtain rfl | rfl | rfl | rfl | rfl | rfl | rfl | rfl | rfl | rfl | rfl | rfl | rfl | rfl | rfl | rfl : k = 0 ∨ k = 1 ∨ k = 2 ∨ k = 3 ∨ k = 4 ∨ k = 5 ∨ k = 6 ∨ k = 7 ∨ k = 8 ∨ k = 9 ∨ k = 10 ∨ k = 11 ∨ k = 12 ∨ k = 13 ∨ k = 14 ∨ k = 15 := by omega
  all_goals rfl
/-- A byte with a value is the digit of that value. -/
theorem hexv_digit {z : Int} (h : 0 ≤ hexv z) : z = lo (hexv z).toNat ∨ z = hi (hexv z).toNat := by
  unfold hexv at h ⊢
  unfold lo hi
  repeat' split at h
  all_goals simp_all
  all_goals omega
theorem hexv_lo {k : Nat} (h : k < 16) : 0 ≤ hexv (lo k) := by
  unfold hexv lo
  repeat' split
  all_goals omega
theorem hexv_hi {k : Nat} (h : k < 16) : 0 ≤ hexv (hi k) := by
  unfold hexv hi
  repeat' split
  all_goals omega
theorem snoc_lt {P : Nat → Prop} {k : Nat} (h : ∀ i, i < k → P i) (hk : P k) : ∀ i, i < k + 1 → P i := by
  intro i hi
  by_cases e : i = k
  · exact e ▸ hk
  · exact h i (by omega)

set_option maxHeartbeats 400000 in
theorem isHexT (z : Int) (w : World) (hz : 0 ≤ hexv z) : Calls Try.prog 14 #[.int .u8 z] w fun e w' => e = .returned (.bool true) ∧ w = w' := by
  have hd := hexv_digit hz
  have hl := hexv_le z
  have hm : (hexv z).toNat < 16 := by omega
  generalize (hexv z).toNat = m at hd hm
  have HD : Hid (z = lo m ∨ z = hi m) := hd
  clear hd hl hz
  go_enter Try.func14, Try.ntmps14
  go_wp2
  go_loop [3] (fun kv => ∃ k : Nat, k ≤ m ∧ kv = .int .i64 k) (fun kv => 16 - (intOf kv).toNat)
  case atStart => exact ⟨0, Nat.zero_le _, rfl⟩
  case round =>
    obtain ⟨k, hk, rfl⟩ := hrel
    have hlo := lo_get (k := k) (by omega)
    have hhi := hi_get (k := k) (by omega)
    go_wp2
    · go_ret
      exact ⟨rfl, rfl⟩
    · go_ret
      exact ⟨rfl, rfl⟩
    · have h1 : (lo k == z) = false ∧ (hi k == z) = false := by assumption
      have hne : k ≠ m := by
        rintro rfl
        rcases HD.out with e | e
        · exact absurd (beq_iff_eq.2 e.symm) (by rw [h1.1]; decide)
        · exact absurd (beq_iff_eq.2 e.symm) (by rw [h1.2]; decide)
      go_round
      case rel => exact ⟨k + 1, by omega, by go_num⟩
      case measure => simp [intOf]; omega

set_option maxHeartbeats 400000 in
theorem isHexF (z : Int) (w : World) (hz : hexv z < 0) : Calls Try.prog 14 #[.int .u8 z] w fun e w' => e = .returned (.bool false) ∧ w = w' := by
  have HZ : Hid (∀ k, k < 16 → lo k ≠ z ∧ hi k ≠ z) := fun k hk => ⟨fun e => by have := hexv_lo hk; rw [e] at this; omega, fun e => by have := hexv_hi hk; rw [e] at this; omega⟩
  clear hz
  go_enter Try.func14, Try.ntmps14
  go_wp2
  go_loop [3] (fun kv => ∃ k : Nat, k ≤ 16 ∧ kv = .int .i64 k) (fun kv => 16 - (intOf kv).toNat)
  case atStart => exact ⟨0, Nat.zero_le _, rfl⟩
  case round =>
    obtain ⟨k, hk, rfl⟩ := hrel
    by_cases hkm : k < 16
    · have hlo := lo_get hkm
      have hhi := hi_get hkm
      have h1 : (lo k == z) = false := beq_eq_false_iff_ne.2 (HZ.out k hkm).1
      have h2 : (hi k == z) = false := beq_eq_false_iff_ne.2 (HZ.out k hkm).2
      go_wp2
      go_round
      case rel => exact ⟨k + 1, by omega, by go_num⟩
      case measure => simp [intOf]; omega
    · go_wp2
      go_ret
      exact ⟨rfl, rfl⟩
end Go.Proofs.Qxb6604181a
