import Derived.Test.Qxb6604092aEqs
namespace Go.Proofs.Qxb6604092a
open Go.RowKit

/-- A contract met inside a loop, in a region that draws: the draws add up. -/
theorem quiet_at {P : Program} {f : FuncId} {args : Array Value} {w : World} {q x : Nat} {v : Value}
    (h : Calls P f args (w.drewN (q + x)) fun e w' => e = .returned v ∧ ∃ m, w' = (w.drewN (q + x)).drewN m) : Calls P f args (w.drewN (q + x)) fun e w'' => e = .returned v ∧ ∃ n, w'' = w.drewN (q + n) :=
  h.mono fun _ _ ⟨he, m, hm⟩ => ⟨he, x + m, by rw [hm, World.drewN_drewN, Nat.add_assoc]⟩
theorem quiet_at_same {P : Program} {f : FuncId} {args : Array Value} {w : World} {q x : Nat} {v : Value}
    (h : Calls P f args (w.drewN (q + x)) fun e w' => e = .returned v ∧ w' = w.drewN (q + x)) : Calls P f args (w.drewN (q + x)) fun e w'' => e = .returned v ∧ ∃ n, w'' = w.drewN (q + n) :=
  h.mono fun _ _ ⟨he, hm⟩ => ⟨he, x, hm⟩

def entB (dl ml al : Nat) : Int := if 1048576 < dl ∨ 1048576 < ml ∨ 1048576 < al then 1048577 else 8 + dl + 8 * ml + al
theorem entB_bd (dl ml al : Nat) : 8 ≤ entB dl ml al ∧ entB dl ml al ≤ 10485768 ∧ (entB dl ml al ≤ 1048576 → dl ≤ 1048576 ∧ ml ≤ 1048576 ∧ al ≤ 1048576) := by
  unfold entB; split <;> omega

set_option maxHeartbeats 400000 in
theorem entBytes (da ma : Option Addr) (dl dc ml mc : Nat) (s : ByteArray) (w : World) (h1 : dl ≤ maxLen) (h2 : ml ≤ maxLen) (h3 : s.size ≤ maxLen) :
    Calls Try.prog 50 #[.slice da dl dc, .slice ma ml mc, .string s] w fun e w' => e = .returned (.int .i64 (entB dl ml s.size)) ∧ w' = w := by
  unfold maxLen at h1 h2 h3
  unfold entB
  by_cases g1 : 1048576 < dl
  · rw [if_pos (.inl g1)]
    go_enter Try.func50, Try.ntmps50
    go_wp2
    go_ret
    exact ⟨rfl, rfl⟩
  · by_cases g2 : 1048576 < ml
    · rw [if_pos (.inr (.inl g2))]
      go_enter Try.func50, Try.ntmps50
      go_wp2
      go_ret
      exact ⟨rfl, rfl⟩
    · by_cases g3 : 1048576 < s.size
      · rw [if_pos (.inr (.inr g3))]
        go_enter Try.func50, Try.ntmps50
        go_wp2
        go_ret
        exact ⟨rfl, rfl⟩
      · rw [if_neg (by omega)]
        go_enter Try.func50, Try.ntmps50
        go_wp2
        go_ret
        exact ⟨rfl, rfl⟩

def entOf (e : Ent) : Int := entB e.data.length e.mems.length e.addr.size
def logGo : List Ent → Int → Int
  | [], t => t
  | e :: es, t => if 1048576 < t + entOf e then 1048577 else logGo es (t + entOf e)
def logB (es : List Ent) (t : Int) : Int := if 1048576 < es.length then 1048577 else logGo es t
def SmallE (e : Ent) : Prop := e.data.length ≤ 1048576 ∧ e.mems.length ≤ 1048576 ∧ e.addr.size ≤ 1048576
theorem logGo_small : ∀ (es : List Ent) (t : Int), 0 ≤ t → logGo es t ≤ 1048576 → ∀ e ∈ es, SmallE e
  | [], _, _, _, e, he => by cases he
  | x :: es, t, h0, h, e, he => by
    simp only [logGo] at h
    have hb := entB_bd x.data.length x.mems.length x.addr.size
    split at h
    · omega
    · rename_i hn
      have hx : entOf x = entB x.data.length x.mems.length x.addr.size := rfl
      rcases List.mem_cons.1 he with rfl | he
      · exact hb.2.2 (by omega)
      · exact logGo_small es _ (by omega) h e he
theorem logGo_nonneg : ∀ (es : List Ent) (t : Int), 0 ≤ t → 0 ≤ logGo es t
  | [], t, h => h
  | x :: es, t, h => by
    simp only [logGo]
    have hb := entB_bd x.data.length x.mems.length x.addr.size
    have hx : entOf x = entB x.data.length x.mems.length x.addr.size := rfl
    split
    · omega
    · exact logGo_nonneg es _ (by omega)
theorem logGo_le : ∀ (es : List Ent) (t : Int), t ≤ 1048584 → logGo es t ≤ 1048584
  | [], t, h => h
  | x :: es, t, h => by
    simp only [logGo]
    split
    · omega
    · exact logGo_le es _ (by omega)
theorem logB_bd (es : List Ent) (t : Int) (h0 : 0 ≤ t) (h : t ≤ 1048584) : 0 ≤ logB es t ∧ logB es t ≤ 1048584 ∧ (logB es t ≤ 1048576 → es.length ≤ 1048576 ∧ ∀ e ∈ es, SmallE e) := by
  unfold logB
  split
  · omega
  · exact ⟨logGo_nonneg _ _ h0, logGo_le _ _ h, fun h1 => ⟨by omega, logGo_small es t h0 h1⟩⟩
theorem logGo_drop {es : List Ent} {k : Nat} (hk : k < es.length) (t : Int) : logGo (es.drop k) t = if 1048576 < t + entOf (es.getD k ent0) then 1048577 else logGo (es.drop (k + 1)) (t + entOf (es.getD k ent0)) := by
  rw [List.drop_eq_getElem_cons hk]
  simp [logGo, hk]

set_option maxHeartbeats 400000 in
theorem logBytes (a : Option Addr) (n c : Nat) (es : List Ent) (t : Int) (w : World) (L B : Nat) (h : LogAt w L B a n c es) (t0 : 0 ≤ t) (t1 : t ≤ 1048584) :
    Calls Try.prog 43 #[.slice a n c, .int .i64 t] w fun e w' => e = .returned (.int .i64 (logB es t)) ∧ ∃ q, w' = w.drewN q := by
  have hl := h.1
  have hm : n ≤ maxLen := Nat.le_trans h.2.1 h.2.2.1
  unfold maxLen at hm
  by_cases hn : 1048576 < n
  · have e1 : logB es t = 1048577 := by unfold logB; rw [if_pos (by omega)]
    go_enter Try.func43, Try.ntmps43
    go_wp2
    go_ret
    rw [e1]
    exact ⟨rfl, 0, rfl⟩
  · have e1 : logB es t = logGo es t := by unfold logB; rw [if_neg (by omega)]
    rw [e1]
    clear e1
    go_enter Try.func43, Try.ntmps43
    go_wp2
    go_loopw [1, 5] (fun tt i wr => ∃ (k : Nat) (tk : Int), k ≤ n ∧ i = .int .i64 k ∧ tt = .int .i64 tk ∧ 0 ≤ tk ∧ tk ≤ 1048584 ∧ logGo (es.drop k) tk = logGo es t ∧ ∃ q, wr = w.drewN q) (fun _ i _ => n - (intOf i).toNat)
    case atStart => exact ⟨0, t, Nat.zero_le _, rfl, rfl, t0, t1, rfl, 0, rfl⟩
    case round =>
      obtain ⟨k, tk, hk, rfl, rfl, k0, k1, hgo, q, rfl⟩ := hrel
      by_cases hlt : k < n
      · obtain ⟨b1, o1, rfl, _, hc1⟩ := h.at hlt
        have HG : Hid (logGo (es.drop k) tk = logGo es t) := hgo
        clear hgo
        have hE := hc1 k hlt
        have hstep := logGo_drop (es := es) (k := k) (by omega) tk
        generalize hke : es.getD k ent0 = e at hE hstep
        clear hke
        obtain ⟨v0, v1, v2, v3, c0, c1, c2, c3, da, dl, dc, ma, ml, mc, rfl, rfl, rfl, rfl, r1, r2, r3, r4, r5, r6⟩ := hE
        have hEO : Hid (entOf e = entB dl ml e.addr.size) := by unfold entOf; rw [r1.1, r3.1]; rfl
        have hbd := entB_bd dl ml e.addr.size
        have HST : Hid _ := hstep
        clear hstep
        have gx : (k : Int) < (n : Int) := by omega
        have d1 : dl ≤ maxLen := Nat.le_trans r1.2.1 r1.2.2.1
        have d2 : ml ≤ maxLen := Nat.le_trans r3.2.1 r3.2.2.1
        clear hc1 h
        go_wp2
        go_quiet ((go_at_call 50; exact quiet_at_same (entBytes _ _ _ _ _ _ _ _ d1 d2 r6)))
        go_wp2
        · have hbig : 1048576 < tk + entB dl ml e.addr.size := by assumption
          go_ret
          rw [← HG.out, HST.out, hEO.out, if_pos hbig]
          exact ⟨rfl, q + nq, rfl⟩
        · have hsm : tk + entB dl ml e.addr.size ≤ 1048576 := by assumption
          go_roundw
          case rel => exact ⟨k + 1, tk + entB dl ml e.addr.size, by omega, by go_num, rfl, by omega, by omega, by rw [← HG.out, HST.out, hEO.out, if_neg (by omega)], q + nq, rfl⟩
          case measure => simp [intOf]; omega
      · have HG : Hid (logGo (es.drop k) tk = logGo es t) := hgo
        clear hgo h
        go_wp2
        go_ret
        rw [← HG.out, List.drop_eq_nil_of_le (by omega)]
        exact ⟨rfl, q, rfl⟩

def logsGo : List (List Ent) → Int → Int
  | [], t => t
  | l :: ls, t => if 1048576 < logB l (t + 8) then 1048577 else logsGo ls (logB l (t + 8))
def SmallL (l : List Ent) : Prop := l.length ≤ 1048576 ∧ ∀ e ∈ l, SmallE e
theorem logsGo_small : ∀ (ls : List (List Ent)) (t : Int), 0 ≤ t → t ≤ 1048576 → logsGo ls t ≤ 1048576 → ∀ l ∈ ls, SmallL l
  | [], _, _, _, _, l, hl => by cases hl
  | x :: ls, t, h0, h1, h, l, hl => by
    simp only [logsGo] at h
    have hb := logB_bd x (t + 8) (by omega) (by omega)
    split at h
    · omega
    · rename_i hn
      rcases List.mem_cons.1 hl with rfl | hl
      · exact hb.2.2 (by omega)
      · exact logsGo_small ls _ hb.1 (by omega) h l hl
theorem logsGo_drop {ls : List (List Ent)} {k : Nat} (hk : k < ls.length) (t : Int) : logsGo (ls.drop k) t = if 1048576 < logB (ls.getD k []) (t + 8) then 1048577 else logsGo (ls.drop (k + 1)) (logB (ls.getD k []) (t + 8)) := by
  rw [List.drop_eq_getElem_cons hk]
  simp [logsGo, hk]

set_option maxHeartbeats 400000 in
theorem logsBytes (a : Option Addr) (n c : Nat) (ls : List (List Ent)) (w : World) (L B : Nat) (h : LogsAt w L B a n c ls) :
    Calls Try.prog 20 #[.slice a n c] w fun e w' => e = .returned (.int .i64 (logsGo ls 0)) ∧ ∃ q, w' = w.drewN q := by
  have hl := h.1
  have hm : n ≤ maxLen := Nat.le_trans h.2.1 h.2.2.1
  unfold maxLen at hm
  go_enter Try.func20, Try.ntmps20
  go_wp2
  go_loopw [3, 4] (fun tt i wr => ∃ (k : Nat) (tk : Int), k ≤ n ∧ i = .int .i64 k ∧ tt = .int .i64 tk ∧ 0 ≤ tk ∧ tk ≤ 1048576 ∧ logsGo (ls.drop k) tk = logsGo ls 0 ∧ ∃ q, wr = w.drewN q) (fun _ i _ => n - (intOf i).toNat)
  case atStart => exact ⟨0, 0, Nat.zero_le _, rfl, rfl, by omega, by omega, rfl, 0, rfl⟩
  case round =>
    obtain ⟨k, tk, hk, rfl, rfl, k0, k1, hgo, q, rfl⟩ := hrel
    by_cases hlt : k < n
    · obtain ⟨b1, o1, rfl, _, hc1⟩ := h.at hlt
      have HG : Hid (logsGo (ls.drop k) tk = logsGo ls 0) := hgo
      clear hgo
      have hE := hc1 k hlt
      have hstep := logsGo_drop (ls := ls) (k := k) (by omega) tk
      generalize hke : ls.getD k [] = es at hE hstep
      clear hke
      obtain ⟨la, ll, lc, c0, r1⟩ := hE
      have hbd := logB_bd es (tk + 8) (by omega) (by omega)
      have HST : Hid _ := hstep
      clear hstep
      have gx : (k : Int) < (n : Int) := by omega
      clear hc1 h
      go_wp2_with (go_at_call 43; refine (logBytes la ll lc es (tk + 8) _ L B (r1.drewN q) (by omega) (by omega)).mono ?_; rintro e w' ⟨rfl, q1, rfl⟩)
      · have hbig : 1048576 < logB es (tk + 8) := by assumption
        go_ret
        rw [← HG.out, HST.out, if_pos hbig]
        exact ⟨rfl, q + q1, by simp⟩
      · have hsm : logB es (tk + 8) ≤ 1048576 := by assumption
        go_roundw
        case rel => exact ⟨k + 1, logB es (tk + 8), by omega, by go_num, rfl, by omega, by omega, by rw [← HG.out, HST.out, if_neg (by omega)], q + q1, by simp⟩
        case measure => simp [intOf]; omega
    · have HG : Hid (logsGo (ls.drop k) tk = logsGo ls 0) := hgo
      clear hgo h
      go_wp2
      go_ret
      rw [← HG.out, List.drop_eq_nil_of_le (by omega)]
      exact ⟨rfl, q, rfl⟩
end Go.Proofs.Qxb6604092a
