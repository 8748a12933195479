import Derived.Test.Qxb6604092aSizes
namespace Go.Proofs.Qxb6604092a
open Go.RowKit

/-- The call hands back some bool. -/
def SomeBool (e : Ending) : Prop := ∃ b, e = .returned (.bool b)

set_option maxRecDepth 20000 in
set_option maxHeartbeats 1000000 in
theorem zzLogs (a : Option Addr) (n c : Nat) (ls : List (List Ent)) (w : World) (L B : Nat) (h : LogsAt w L B a n c ls) :
    Calls Try.prog 19 #[.slice a n c] w fun e w' => SomeBool e ∧ w = w' := by
  have hm : n ≤ maxLen := Nat.le_trans h.2.1 h.2.2.1
  unfold maxLen at hm
  by_cases hbig : 1048576 < n
  · go_enter Try.func19, Try.ntmps19
    go_wp2
    go_ret
    exact ⟨⟨_, rfl⟩, rfl⟩
  · go_enter Try.func19, Try.ntmps19
    go_wp2
    go_loop [3, 4] (fun t i => ∃ (k : Nat) (z : Int), k ≤ n ∧ i = .int .i64 k ∧ t = .int .i64 z) (fun _ i => n - (intOf i).toNat)
    case atStart => exact ⟨0, _, Nat.zero_le _, rfl, rfl⟩
    case round =>
      obtain ⟨k, z, hk, rfl, rfl⟩ := hrel
      by_cases hlt : k < n
      · obtain ⟨b1, o1, rfl, _, hc1⟩ := h.at hlt
        have hE := hc1 k hlt
        generalize hke : ls.getD k [] = es at hE
        clear hke
        obtain ⟨la, ll, lc, c0, r1⟩ := hE
        have gx : (k : Int) < (n : Int) := by omega
        have hlm : ll ≤ maxLen := Nat.le_trans r1.2.1 r1.2.2.1
        unfold maxLen at hlm
        clear hc1 h
        go_wp2
        · go_ret
          exact ⟨⟨_, rfl⟩, rfl⟩
        · go_ret
          exact ⟨⟨_, rfl⟩, rfl⟩
        · go_loop [3, 5] (fun t i => ∃ (j : Nat) (z : Int), j ≤ ll ∧ i = .int .i64 j ∧ t = .int .i64 z) (fun _ i => ll - (intOf i).toNat)
          case atStart => exact ⟨0, _, Nat.zero_le _, rfl, rfl⟩
          case round =>
            obtain ⟨j, y, hj, rfl, rfl⟩ := hrel
            by_cases hjt : j < ll
            · obtain ⟨b2, o2, rfl, _, hc2⟩ := r1.at hjt
              have hE := hc2 j hjt
              generalize hke : es.getD j ent0 = e at hE
              clear hke
              obtain ⟨v0, v1, v2, v3, c1, c2, c3, c4, da, dl, dc, ma, ml, mc, rfl, rfl, rfl, rfl, r2, r3, r4, r5, r6, r7⟩ := hE
              have hd1 : dl ≤ maxLen := Nat.le_trans r2.2.1 r2.2.2.1
              have hd2 : ml ≤ maxLen := Nat.le_trans r4.2.1 r4.2.2.1
              unfold maxLen at hd1 hd2 r7
              have gy : (j : Int) < (ll : Int) := by omega
              clear hc2 r1 r2 r3 r4 r5 r6
              go_wp2
              iterate 6
                · go_ret
                  exact ⟨⟨_, rfl⟩, rfl⟩
              · go_round
                case rel => exact ⟨j + 1, _, by omega, by go_num, rfl⟩
                case measure => simp [intOf]; omega
            · clear r1
              go_wp2
              go_round
              case rel => exact ⟨k + 1, _, by omega, by go_num, rfl⟩
              case measure => simp [intOf]; omega
      · clear h
        go_wp2
        go_ret
        exact ⟨⟨_, rfl⟩, rfl⟩
end Go.Proofs.Qxb6604092a
