import Derived.Test.Qxb6604092aCalls
namespace Go.Proofs.Qxb6604092a
open Go.RowKit

set_option maxRecDepth 20000 in
set_option maxHeartbeats 1000000 in
theorem zzCalls6 (ma : Option Addr) (ml mc : Nat) (a : Option Addr) (n c : Nat) (cs : List CCall) (w : World) (L B : Nat) (hml : ml ≤ maxLen) (h : CallsAt w L B a n c cs) :
    Calls Try.prog 39 #[.slice ma ml mc, .slice a n c] w fun e w' => SomeBool e ∧ w = w' := by
  have hm : n ≤ maxLen := Nat.le_trans h.2.1 h.2.2.1
  unfold maxLen at hm hml
  go_enter Try.func39, Try.ntmps39
  go_wp2
  all_goals first
    | (go_ret; exact ⟨⟨_, rfl⟩, rfl⟩)
    | skip
  go_loop [5, 6] (fun t i => ∃ (k : Nat) (z : Int), k ≤ n ∧ i = .int .i64 k ∧ t = .int .i64 z) (fun _ i => n - (intOf i).toNat)
  case atStart => exact ⟨0, _, Nat.zero_le _, rfl, rfl⟩
  case round =>
    obtain ⟨j, y, hj, rfl, rfl⟩ := hrel
    by_cases hjt : j < n
    · obtain ⟨b2, o2, rfl, _, _, hc2⟩ := h.at hjt
      have hE := hc2 j hjt
      generalize hke : cs.getD j call0 = cc at hE
      clear hke
      obtain ⟨v0, v1, v2, v3, ci, c1, c2, c3, c4, cn, ⟨da, dl, dc, xa, xl, xc, rfl, rfl, rfl, rfl, r2, r3, r4, r5, r6, r7⟩, _⟩ := hE
      have hd1 : dl ≤ maxLen := Nat.le_trans r2.2.1 r2.2.2.1
      have hd2 : xl ≤ maxLen := Nat.le_trans r4.2.1 r4.2.2.1
      unfold maxLen at hd1 hd2 r7
      have gy : (j : Int) < (n : Int) := by omega
      clear hc2 r2 r3 r4 r5 r6 h
      go_wp2
      iterate 6
        · go_ret
          exact ⟨⟨_, rfl⟩, rfl⟩
      · go_round
        case rel => exact ⟨j + 1, _, by omega, by go_num, rfl⟩
        case measure => simp [intOf]; omega
    · clear h
      go_wp2
      go_ret
      exact ⟨⟨_, rfl⟩, rfl⟩

set_option maxRecDepth 20000 in
set_option maxHeartbeats 1000000 in
theorem zzCalls5 (ma : Option Addr) (ml mc : Nat) (a : Option Addr) (n c : Nat) (cs : List CCall) (w : World) (L B : Nat) (hml : ml ≤ maxLen) (h : CallsAt w L B a n c cs) :
    Calls Try.prog 22 #[.slice ma ml mc, .slice a n c] w fun e w' => SomeBool e ∧ w = w' := by
  have hm : n ≤ maxLen := Nat.le_trans h.2.1 h.2.2.1
  unfold maxLen at hm hml
  go_enter Try.func22, Try.ntmps22
  go_wp2
  all_goals first
    | (go_ret; exact ⟨⟨_, rfl⟩, rfl⟩)
    | skip
  go_loop [5, 6] (fun t i => ∃ (k : Nat) (z : Int), k ≤ n ∧ i = .int .i64 k ∧ t = .int .i64 z) (fun _ i => n - (intOf i).toNat)
  case atStart => exact ⟨0, _, Nat.zero_le _, rfl, rfl⟩
  case round =>
    obtain ⟨j, y, hj, rfl, rfl⟩ := hrel
    by_cases hjt : j < n
    · obtain ⟨b2, o2, rfl, _, _, hc2⟩ := h.at hjt
      have hE := hc2 j hjt
      generalize hke : cs.getD j call0 = cc at hE
      clear hke
      obtain ⟨v0, v1, v2, v3, ci, c1, c2, c3, c4, cn, ⟨da, dl, dc, xa, xl, xc, rfl, rfl, rfl, rfl, r2, r3, r4, r5, r6, r7⟩, _⟩ := hE
      have hd1 : dl ≤ maxLen := Nat.le_trans r2.2.1 r2.2.2.1
      have hd2 : xl ≤ maxLen := Nat.le_trans r4.2.1 r4.2.2.1
      unfold maxLen at hd1 hd2 r7
      have gy : (j : Int) < (n : Int) := by omega
      clear hc2 r2 r3 r4 r5 r6 h
      go_wp2
      iterate 6
        · go_ret
          exact ⟨⟨_, rfl⟩, rfl⟩
      · go_round
        case rel => exact ⟨j + 1, _, by omega, by go_num, rfl⟩
        case measure => simp [intOf]; omega
    · clear h
      go_wp2
      go_ret
      exact ⟨⟨_, rfl⟩, rfl⟩

end Go.Proofs.Qxb6604092a
