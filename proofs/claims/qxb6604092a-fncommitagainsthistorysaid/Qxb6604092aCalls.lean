import Derived.Test.Qxb6604092aIdxMap
import Derived.Test.Qxb6604092aSizes
import Derived.Test.Qxb6604092aZz
namespace Go.Proofs.Qxb6604092a
open Go.RowKit

/-! ### Calls of commit in memory -/
def call0 : CCall := ⟨0, ent0, 0⟩
def CallAt (w : World) (L B b o : Nat) (c : CCall) : Prop :=
  ∃ v0 v1 v2 v3, w.cell? ⟨b, o, none⟩ = some (.int .u64 c.idx) ∧ w.cell? ⟨b, o + 1, none⟩ = some v0 ∧ w.cell? ⟨b, o + 2, none⟩ = some v1 ∧ w.cell? ⟨b, o + 3, none⟩ = some v2 ∧ w.cell? ⟨b, o + 4, none⟩ = some v3 ∧
    w.cell? ⟨b, o + 5, none⟩ = some (.int .u64 c.nt) ∧ EntV w L B v0 v1 v2 v3 c.e ∧ Fits .u64 c.idx ∧ Fits .u64 c.nt
theorem CallAt.keep {w w' : World} {L B L' B' : Nat} {b o : Nat} {c : CCall} (h : CallAt w L B b o c) (hl : L ≤ b) (hlt : b < B) (hk : Keeps L B w w') (hL : L' ≤ L) (hB : B ≤ B') : CallAt w' L' B' b o c := by
  obtain ⟨v0, v1, v2, v3, ci, c0, c1, c2, c3, cn, h, f1, f2⟩ := h
  exact ⟨v0, v1, v2, v3, (hk.cell hl hlt).trans ci, (hk.cell hl hlt).trans c0, (hk.cell hl hlt).trans c1, (hk.cell hl hlt).trans c2, (hk.cell hl hlt).trans c3, (hk.cell hl hlt).trans cn, h.keep hk hL hB, f1, f2⟩
def CallsAt (w : World) (L B : Nat) (a : Option Addr) (n c : Nat) (cs : List CCall) : Prop :=
  cs.length = n ∧ n ≤ c ∧ c ≤ maxLen ∧ (n = 0 ∨ ∃ b off, a = some ⟨b, off, none⟩ ∧ L ≤ b ∧ b < B ∧ ∀ i, i < n → CallAt w L B b (off + i * 6) (cs.getD i call0))
theorem CallsAt.keep {w w' : World} {L B L' B' : Nat} {a : Option Addr} {n c : Nat} {cs : List CCall} (h : CallsAt w L B a n c cs) (hk : Keeps L B w w') (hL : L' ≤ L) (hB : B ≤ B') : CallsAt w' L' B' a n c cs := by
  obtain ⟨h1, h2, h3, h4⟩ := h
  refine ⟨h1, h2, h3, ?_⟩
  rcases h4 with h4 | ⟨b, off, e, hl, hlt, hc⟩
  · exact .inl h4
  · exact .inr ⟨b, off, e, by omega, by omega, fun i hi => (hc i hi).keep hl hlt hk hL hB⟩
theorem CallsAt.at {w : World} {L B : Nat} {a : Option Addr} {n c : Nat} {cs : List CCall} (h : CallsAt w L B a n c cs) {i : Nat} (hi : i < n) :
    ∃ b off, a = some ⟨b, off, none⟩ ∧ L ≤ b ∧ b < B ∧ ∀ j, j < n → CallAt w L B b (off + j * 6) (cs.getD j call0) := by
  rcases h.2.2.2 with h4 | h4
  · omega
  · exact h4

/-! ### Their sizes -/
def callsGo : List CCall → Int → Int
  | [], t => t
  | c :: cs, t => if 1048576 < t + (24 + entOf c.e) then 1048577 else callsGo cs (t + (24 + entOf c.e))
theorem callsGo_small : ∀ (cs : List CCall) (t : Int), 0 ≤ t → callsGo cs t ≤ 1048576 → ∀ c ∈ cs, SmallE c.e
  | [], _, _, _, c, hc => by cases hc
  | x :: cs, t, h0, h, c, hc => by
    simp only [callsGo] at h
    have hb := entB_bd x.e.data.length x.e.mems.length x.e.addr.size
    split at h
    · omega
    · rename_i hn
      have hx : entOf x.e = entB x.e.data.length x.e.mems.length x.e.addr.size := rfl
      rcases List.mem_cons.1 hc with rfl | hc
      · exact hb.2.2 (by omega)
      · exact callsGo_small cs _ (by omega) h c hc
theorem callsGo_drop {cs : List CCall} {k : Nat} (hk : k < cs.length) (t : Int) : callsGo (cs.drop k) t = if 1048576 < t + (24 + entOf (cs.getD k call0).e) then 1048577 else callsGo (cs.drop (k + 1)) (t + (24 + entOf (cs.getD k call0).e)) := by
  rw [List.drop_eq_getElem_cons hk]
  simp [callsGo, hk]

set_option maxHeartbeats 400000 in
theorem commitCallsBytes (a : Option Addr) (n c : Nat) (cs : List CCall) (t : Int) (w : World) (L B : Nat) (h : CallsAt w L B a n c cs) (t0 : 0 ≤ t) (t1 : t ≤ 1048576) :
    Calls Try.prog 23 #[.slice a n c, .int .i64 t] w fun e w' => e = .returned (.int .i64 (callsGo cs t)) ∧ ∃ q, w' = w.drewN q := by
  have hl := h.1
  have hm : n ≤ maxLen := Nat.le_trans h.2.1 h.2.2.1
  unfold maxLen at hm
  go_enter Try.func23, Try.ntmps23
  go_wp2
  go_loopw [1, 5] (fun tt i wr => ∃ (k : Nat) (tk : Int), k ≤ n ∧ i = .int .i64 k ∧ tt = .int .i64 tk ∧ 0 ≤ tk ∧ tk ≤ 1048576 ∧ callsGo (cs.drop k) tk = callsGo cs t ∧ ∃ q, wr = w.drewN q) (fun _ i _ => n - (intOf i).toNat)
  case atStart => exact ⟨0, t, Nat.zero_le _, rfl, rfl, t0, t1, rfl, 0, rfl⟩
  case round =>
    obtain ⟨k, tk, hk, rfl, rfl, k0, k1, hgo, q, rfl⟩ := hrel
    by_cases hlt : k < n
    · obtain ⟨b1, o1, rfl, _, _, hc1⟩ := h.at hlt
      have HG : Hid (callsGo (cs.drop k) tk = callsGo cs t) := hgo
      clear hgo
      have hE := hc1 k hlt
      have hstep := callsGo_drop (cs := cs) (k := k) (by omega) tk
      generalize hke : cs.getD k call0 = cc at hE hstep
      clear hke
      obtain ⟨v0, v1, v2, v3, ci, c0, c1, c2, c3, cn, ⟨da, dl, dc, ma, ml, mc, rfl, rfl, rfl, rfl, r1, r2, r3, r4, r5, r6⟩, f1, f2⟩ := hE
      have hEO : Hid (entOf cc.e = entB dl ml cc.e.addr.size) := by unfold entOf; rw [r1.1, r3.1]; rfl
      have hbd := entB_bd dl ml cc.e.addr.size
      have HST : Hid _ := hstep
      clear hstep
      have gx : (k : Int) < (n : Int) := by omega
      have d1 : dl ≤ maxLen := Nat.le_trans r1.2.1 r1.2.2.1
      have d2 : ml ≤ maxLen := Nat.le_trans r3.2.1 r3.2.2.1
      clear hc1 h
      go_wp2
      go_quiet ((go_at_call 50; exact quiet_at_same (entBytes _ _ _ _ _ _ _ _ d1 d2 r6)))
      go_wp2
      · have hbig : 1048576 < tk + (24 + entB dl ml cc.e.addr.size) := by assumption
        go_ret
        rw [← HG.out, HST.out, hEO.out, if_pos hbig]
        exact ⟨rfl, q + nq, rfl⟩
      · have hsm : tk + (24 + entB dl ml cc.e.addr.size) ≤ 1048576 := by assumption
        go_roundw
        case rel => exact ⟨k + 1, tk + (24 + entB dl ml cc.e.addr.size), by omega, by go_num, rfl, by omega, by omega, by rw [← HG.out, HST.out, hEO.out, if_neg (by omega)], q + nq, rfl⟩
        case measure => simp [intOf]; omega
    · have HG : Hid (callsGo (cs.drop k) tk = callsGo cs t) := hgo
      clear hgo h
      go_wp2
      go_ret
      rw [← HG.out, List.drop_eq_nil_of_le (by omega)]
      exact ⟨rfl, q, rfl⟩
end Go.Proofs.Qxb6604092a
