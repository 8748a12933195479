import Derived.Test.Qxb6604092aZz
import Derived.Test.Qxb6604092aHeld
namespace Go.Proofs.Qxb6604092a
open Go.RowKit

/-! ### Calls of hold: plain, and in memory -/
structure HCall where
  log : List Ent
  f : Nat
def hcall0 : HCall := ⟨[], 1⟩
def HCallAt (w : World) (L B b o : Nat) (c : HCall) : Prop :=
  ∃ la ll lc, w.cell? ⟨b, o, none⟩ = some (.slice la ll lc) ∧ w.cell? ⟨b, o + 1, none⟩ = some (.int .u64 c.f) ∧ LogAt w L B la ll lc c.log ∧ (c.f : Int) ≤ 18446744073709551615
theorem HCallAt.keep {w w' : World} {L B L' B' : Nat} {b o : Nat} {c : HCall} (h : HCallAt w L B b o c) (hl : L ≤ b) (hlt : b < B) (hk : Keeps L B w w') (hL : L' ≤ L) (hB : B ≤ B') : HCallAt w' L' B' b o c := by
  obtain ⟨la, ll, lc, c0, c1, h, f1⟩ := h
  exact ⟨la, ll, lc, (hk.cell hl hlt).trans c0, (hk.cell hl hlt).trans c1, h.keep hk hL hB, f1⟩
def HCallsAt (w : World) (L B : Nat) (a : Option Addr) (n c : Nat) (cs : List HCall) : Prop :=
  cs.length = n ∧ n ≤ c ∧ c ≤ maxLen ∧ (n = 0 ∨ ∃ b off, a = some ⟨b, off, none⟩ ∧ L ≤ b ∧ b < B ∧ ∀ i, i < n → HCallAt w L B b (off + i * 2) (cs.getD i hcall0))
theorem HCallsAt.keep {w w' : World} {L B L' B' : Nat} {a : Option Addr} {n c : Nat} {cs : List HCall} (h : HCallsAt w L B a n c cs) (hk : Keeps L B w w') (hL : L' ≤ L) (hB : B ≤ B') : HCallsAt w' L' B' a n c cs := by
  obtain ⟨h1, h2, h3, h4⟩ := h
  refine ⟨h1, h2, h3, ?_⟩
  rcases h4 with h4 | ⟨b, off, e, hl, hlt, hc⟩
  · exact .inl h4
  · exact .inr ⟨b, off, e, by omega, by omega, fun i hi => (hc i hi).keep hl hlt hk hL hB⟩
theorem HCallsAt.at {w : World} {L B : Nat} {a : Option Addr} {n c : Nat} {cs : List HCall} (h : HCallsAt w L B a n c cs) {i : Nat} (hi : i < n) :
    ∃ b off, a = some ⟨b, off, none⟩ ∧ b < B ∧ ∀ j, j < n → HCallAt w L B b (off + j * 2) (cs.getD j hcall0) := by
  rcases h.2.2.2 with h4 | ⟨b, off, e, _, hb, hc⟩
  · omega
  · exact ⟨b, off, e, hb, hc⟩

set_option maxRecDepth 20000 in
set_option maxHeartbeats 1000000 in
theorem zzHolds (a : Option Addr) (n c : Nat) (ls : List HCall) (w : World) (L B : Nat) (h : HCallsAt w L B a n c ls) :
    Calls Try.prog 7 #[.slice a n c] w fun e w' => SomeBool e ∧ w = w' := by
  have hm : n ≤ maxLen := Nat.le_trans h.2.1 h.2.2.1
  unfold maxLen at hm
  by_cases hbig : 1048576 < n
  · go_enter Try.func7, Try.ntmps7
    go_wp2
    go_ret
    exact ⟨⟨_, rfl⟩, rfl⟩
  · go_enter Try.func7, Try.ntmps7
    go_wp2
    go_loop [3, 4] (fun t i => ∃ (k : Nat) (z : Int), k ≤ n ∧ i = .int .i64 k ∧ t = .int .i64 z) (fun _ i => n - (intOf i).toNat)
    case atStart => exact ⟨0, _, Nat.zero_le _, rfl, rfl⟩
    case round =>
      obtain ⟨k, z, hk, rfl, rfl⟩ := hrel
      by_cases hlt : k < n
      · obtain ⟨b1, o1, rfl, _, hc1⟩ := h.at hlt
        have hE := hc1 k hlt
        generalize hke : ls.getD k hcall0 = es at hE
        clear hke
        obtain ⟨la, ll, lc, c0, cf, r1, _⟩ := hE
        generalize es.log = el at r1
        have gx : (k : Int) < (n : Int) := by omega
        have hlm : ll ≤ maxLen := Nat.le_trans r1.2.1 r1.2.2.1
        unfold maxLen at hlm
        clear hc1 h cf
        go_wp2
        · go_ret
          exact ⟨⟨_, rfl⟩, rfl⟩
        · go_ret
          exact ⟨⟨_, rfl⟩, rfl⟩
        · go_loop [3, 5] (fun t i => ∃ (j : Nat) (z : Int), j ≤ ll ∧ i = .int .i64 j ∧ t = .int .i64 z) (fun _ i => ll - (intOf i).toNat)
          case atStart => exact ⟨0, _, Nat.zero_le _, rfl, rfl⟩
          case round =>
            obtain ⟨j, y, hj, rfl, rfl⟩ := hrel
            by_cases hjt : j < ll
            · obtain ⟨b2, o2, rfl, _, hc2⟩ := r1.at hjt
              have hE := hc2 j hjt
              generalize hke : el.getD j ent0 = e at hE
              clear hke
              obtain ⟨v0, v1, v2, v3, c1, c2, c3, c4, da, dl, dc, ma, ml, mc, rfl, rfl, rfl, rfl, r2, r3, r4, r5, r6, r7⟩ := hE
              have hd1 : dl ≤ maxLen := Nat.le_trans r2.2.1 r2.2.2.1
              have hd2 : ml ≤ maxLen := Nat.le_trans r4.2.1 r4.2.2.1
              unfold maxLen at hd1 hd2 r7
              have gy : (j : Int) < (ll : Int) := by omega
              clear hc2 r1 r2 r3 r4 r5 r6
              go_wp2
              iterate 6
                · go_ret
                  exact ⟨⟨_, rfl⟩, rfl⟩
              · go_round
                case rel => exact ⟨j + 1, _, by omega, by go_num, rfl⟩
                case measure => simp [intOf]; omega
            · clear r1
              go_wp2
              go_round
              case rel => exact ⟨k + 1, _, by omega, by go_num, rfl⟩
              case measure => simp [intOf]; omega
      · clear h
        go_wp2
        go_ret
        exact ⟨⟨_, rfl⟩, rfl⟩

theorem hlogs_drop {ls : List HCall} {k : Nat} (hk : k < ls.length) (t : Int) : logsGo ((ls.map HCall.log).drop k) t = if 1048576 < logB (ls.getD k hcall0).log (t + 8) then 1048577 else logsGo ((ls.map HCall.log).drop (k + 1)) (logB (ls.getD k hcall0).log (t + 8)) := by
  rw [logsGo_drop (by simpa using hk)]
  simp [hk]

set_option maxHeartbeats 400000 in
theorem holdsBytes (a : Option Addr) (n c : Nat) (ls : List HCall) (w : World) (L B : Nat) (h : HCallsAt w L B a n c ls) :
    Calls Try.prog 8 #[.slice a n c] w fun e w' => e = .returned (.int .i64 (logsGo (ls.map HCall.log) 0)) ∧ ∃ q, w' = w.drewN q := by
  have hl := h.1
  have hm : n ≤ maxLen := Nat.le_trans h.2.1 h.2.2.1
  unfold maxLen at hm
  go_enter Try.func8, Try.ntmps8
  go_wp2
  go_loopw [3, 4] (fun tt i wr => ∃ (k : Nat) (tk : Int), k ≤ n ∧ i = .int .i64 k ∧ tt = .int .i64 tk ∧ 0 ≤ tk ∧ tk ≤ 1048576 ∧ logsGo ((ls.map HCall.log).drop k) tk = logsGo (ls.map HCall.log) 0 ∧ ∃ q, wr = w.drewN q) (fun _ i _ => n - (intOf i).toNat)
  case atStart => exact ⟨0, 0, Nat.zero_le _, rfl, rfl, by omega, by omega, rfl, 0, rfl⟩
  case round =>
    obtain ⟨k, tk, hk, rfl, rfl, k0, k1, hgo, q, rfl⟩ := hrel
    by_cases hlt : k < n
    · obtain ⟨b1, o1, rfl, _, hc1⟩ := h.at hlt
      have HG : Hid (logsGo ((ls.map HCall.log).drop k) tk = logsGo (ls.map HCall.log) 0) := hgo
      clear hgo
      have hE := hc1 k hlt
      have hstep := hlogs_drop (ls := ls) (k := k) (by omega) tk
      generalize hke : ls.getD k hcall0 = hc at hE hstep
      clear hke
      obtain ⟨la, ll, lc, c0, cf, r1, _⟩ := hE
      generalize hc.log = es at r1 hstep
      have hbd := logB_bd es (tk + 8) (by omega) (by omega)
      have HST : Hid _ := hstep
      clear hstep
      have gx : (k : Int) < (n : Int) := by omega
      clear hc1 h cf
      go_wp2_with (go_at_call 43; refine (logBytes la ll lc es (tk + 8) _ L B (r1.drewN q) (by omega) (by omega)).mono ?_; rintro e w' ⟨rfl, q1, rfl⟩)
      · have hbig : 1048576 < logB es (tk + 8) := by assumption
        go_ret
        rw [← HG.out, HST.out, if_pos hbig]
        exact ⟨rfl, q + q1, by simp⟩
      · have hsm : logB es (tk + 8) ≤ 1048576 := by assumption
        go_roundw
        case rel => exact ⟨k + 1, logB es (tk + 8), by omega, by go_num, rfl, by omega, by omega, by rw [← HG.out, HST.out, if_neg (by omega)], q + q1, by simp⟩
        case measure => simp [intOf]; omega
    · have HG : Hid (logsGo ((ls.map HCall.log).drop k) tk = logsGo (ls.map HCall.log) 0) := hgo
      clear hgo h
      go_wp2
      go_ret
      rw [← HG.out, List.drop_eq_nil_of_le (by simp; omega)]
      exact ⟨rfl, q, rfl⟩
end Go.Proofs.Qxb6604092a
