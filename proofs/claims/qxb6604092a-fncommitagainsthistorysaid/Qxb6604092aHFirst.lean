import Derived.Test.Qxb6604092aHCalls
namespace Go.Proofs.Qxb6604092a
open Go.RowKit

/-- Does the call bring an entry of index i and term t? -/
def bringsC (i : Nat) (t : Int) (c : HCall) : Bool := (decide (c.f ≤ i) && decide (i ≤ c.log.length)) && decide ((c.log.getD (i - 1) ent0).term = t)

theorem ret_bool' {a b : Bool} (h : a = b) : Ending.returned (.bool a) = Ending.returned (.bool b) := by rw [h]
set_option maxHeartbeats 400000 in
theorem covers (la : Option Addr) (ll lc f i : Nat) (w : World) (hll : ll ≤ maxLen) :
    Calls Try.prog 48 #[.agg #[.slice la ll lc, .int .u64 f], .int .u64 i] w fun e w' => e = .returned (.bool (decide (f ≤ i) && decide (i ≤ ll))) ∧ Below w.heap.size w w' := by
  unfold maxLen at hll
  have hb := (Below.refl w.heap.size w).alloc (Nat.le_refl _) (Obj.cells #[.slice la ll lc, .int .u64 f] 28)
  by_cases h1 : f ≤ i
  · by_cases h2 : i ≤ ll
    · have g1 : (f : Int) ≤ (i : Int) := by omega
      have g2 : (i : Int) ≤ (ll : Int) := by omega
      go_enter Try.func48, Try.ntmps48
      go_wp2
      go_ret
      exact ⟨ret_bool' (by simp [h1, h2]), hb⟩
    · have g1 : (f : Int) ≤ (i : Int) := by omega
      have g2 : ¬ (i : Int) ≤ (ll : Int) := by omega
      go_enter Try.func48, Try.ntmps48
      go_wp2
      go_ret
      exact ⟨ret_bool' rfl, hb⟩
  · have g1 : ¬ (f : Int) ≤ (i : Int) := by omega
    go_enter Try.func48, Try.ntmps48
    go_wp2
    go_ret
    exact ⟨ret_bool' rfl, hb⟩

theorem prevTerm (la : Option Addr) (ll lc i : Nat) (es : List Ent) (w : World) (L B : Nat) (h : LogAt w L B la ll lc es) (hi : i ≤ ll) (hll : ll ≤ 1048576) :
    Calls Try.prog 16 #[.slice la ll lc, .int .u64 i] w fun e w' => e = .returned (.int .u64 (prevT es i)) ∧ w = w' := by
  by_cases h1 : 1 < i
  · obtain ⟨b, o, rfl, _, hc⟩ := h.at (i := i - 2) (by omega)
    obtain ⟨v0, v1, v2, v3, c0, _, _, _, _, _, _, _, _, _, rfl, _⟩ := hc (i - 2) (by omega)
    obtain ⟨j, rfl⟩ : ∃ j, i = j + 2 := ⟨i - 2, by omega⟩
    have e : prevT es (j + 2) = (es.getD j ent0).term := by simp [prevT]
    rw [e]
    rw [Nat.add_sub_cancel] at c0
    clear h hc e
    generalize (es.getD j ent0).term = tt at c0
    have g1 : (1 : Int) < (j : Int) + 2 := by omega
    have g2 : (j : Int) < (ll : Int) := by omega
    go_enter Try.func16, Try.ntmps16
    go_wp2
    go_ret
    exact ⟨rfl, rfl⟩
  · have e : prevT es i = 0 := by simp [prevT, h1]
    rw [e]
    have g1 : (i : Int) ≤ 1 := by omega
    go_enter Try.func16, Try.ntmps16
    go_wp2
    go_ret
    exact ⟨rfl, rfl⟩

/-- The least of the first k calls that brings the position, or -1. -/
def FH (cs : List HCall) (k i : Nat) (t z : Int) : Prop :=
  (z = -1 ∧ ∀ g, g < k → bringsC i t (cs.getD g hcall0) = false) ∨ ∃ j : Nat, z = j ∧ j < k ∧ bringsC i t (cs.getD j hcall0) = true ∧ ∀ g, g < j → bringsC i t (cs.getD g hcall0) = false
def SaysFH (cs : List HCall) (k i : Nat) (t : Int) (e : Ending) : Prop := ∃ z, e = .returned (.int .i64 z) ∧ FH cs k i t z
theorem snoc_lt {P : Nat → Prop} {j : Nat} (h : ∀ g, g < j → P g) (hj : P j) : ∀ g, g < j + 1 → P g := fun g hg => by
  by_cases e : g = j
  · subst e; exact hj
  · exact h g (by omega)

set_option maxRecDepth 20000 in
set_option maxHeartbeats 2000000 in
theorem firstHolder (a : Option Addr) (n c : Nat) (cs : List HCall) (k m : Nat) (t : Int) (w : World) (L B : Nat) (h : HCallsAt w L B a n c cs) (hB : B ≤ w.heap.size) (hk : k ≤ n) (hm : m ≤ 1048576) (hn : n ≤ 256) (hs : ∀ cc ∈ cs, cc.log.length ≤ 1048576) :
    Calls Try.prog 13 #[.slice a n c, .int .i64 k, .int .u64 ((m : Int) + 1), .int .u64 t] w fun e w' => SaysFH cs k (m + 1) t e ∧ Below w.heap.size w w' := by
  have hl := h.1
  go_enter Try.func13, Try.ntmps13
  go_wp2
  go_loopw [9] (fun i wr => ∃ j : Nat, j ≤ k ∧ i = .int .i64 j ∧ (∀ g, g < j → bringsC (m + 1) t (cs.getD g hcall0) = false) ∧ Below w.heap.size w wr) (fun i _ => k - (intOf i).toNat)
  case atStart => exact ⟨0, Nat.zero_le _, rfl, fun g hg => absurd hg (Nat.not_lt_zero _), Below.refl _ _⟩
  case round =>
    obtain ⟨j, hj, rfl, hnone, hbl⟩ := hrel
    have HNONE : Hid (∀ g, g < j → bringsC (m + 1) t (cs.getD g hcall0) = false) := hnone
    clear hnone
    by_cases hlt : j < k
    · obtain ⟨b, off, rfl, hb, hc⟩ := h.at (i := j) (by omega)
      have hE := hc j (by omega)
      have hss : (cs.getD j hcall0).log.length ≤ 1048576 := hs _ (by have : j < cs.length := by omega
                                                                     simp [this])
      generalize hke : cs.getD j hcall0 = cc at hE hss
      have HKE : Hid (cs.getD j hcall0 = cc) := hke
      obtain ⟨la, ll, lc, c0', c1', hL, _⟩ := hE
      have hll : cc.log.length = ll := hL.1
      have hsz := hbl.size
      have hbw : b < wr.heap.size := by omega
      have c0 := (hbl.cell (p := ⟨b, off + j * 2, none⟩) (by show b < _; omega)).trans c0'
      have c1 := (hbl.cell (p := ⟨b, off + j * 2 + 1, none⟩) (by show b < _; omega)).trans c1'
      have hL' := hL.keep (.of_below (hbl.mono hB)) (Nat.le_refl _) (Nat.le_refl _)
      have gx : (j : Int) < (k : Int) := by omega
      have gx0 : (j : Int) < (n : Int) := by omega
      have hml : ll ≤ maxLen := by unfold maxLen; omega
      clear c0' c1' hL hc h hs hke
      by_cases hcov : cc.f ≤ m + 1 ∧ m + 1 ≤ ll
      · have hdec : (decide (cc.f ≤ m + 1) && decide (m + 1 ≤ ll)) = true := by simp [hcov.1, hcov.2]
        have ZC := covers la ll lc cc.f (m + 1) wr hml
        rw [hdec, Int.natCast_add, Int.cast_ofNat_Int] at ZC
        obtain ⟨b2, o2, rfl, hb2, hc2⟩ := hL'.at (i := m) (by omega)
        obtain ⟨v0, v1, v2, v3, e0', _, _, _, _, _, _, _, _, _, rfl, _⟩ := hc2 m (by omega)
        have hb2w : b2 < wr.heap.size := by omega
        have gy : (m : Int) < (ll : Int) := by omega
        have HBR : Hid (bringsC (m + 1) t cc = decide ((cc.log.getD m ent0).term = t)) := by
          unfold bringsC
          rw [hll, hdec, Nat.add_sub_cancel, Bool.true_and]
          rfl
        generalize (cc.log.getD m ent0).term = tt at e0' HBR
        clear hc2 hL' hdec hcov
        go_wp2_with (go_at_call 48; refine ZC.mono ?_; rintro _ w5 ⟨rfl, hB5⟩; obtain ⟨hcc, hff⟩ := bcell hB5; have d0 := (hcc _ _ hbw).trans c0; have d1 := (hcc _ _ hb2w).trans e0')
        · have ht : (tt == t) = true := by assumption
          have HT : Hid (tt = t) := by simpa [Hid] using ht
          go_ret
          exact ⟨⟨j, rfl, .inr ⟨j, rfl, by omega, by rw [HKE.out, HBR.out, decide_eq_true HT.out], HNONE.out⟩⟩, hbl.trans (hB5.mono hsz)⟩
        · have ht : (tt == t) = false := by assumption
          have HT : Hid (¬ tt = t) := by simpa [Hid] using ht
          go_roundw
          case rel => exact ⟨j + 1, by omega, by go_num, snoc_lt HNONE.out (by rw [HKE.out, HBR.out, decide_eq_false HT.out]), hbl.trans (hB5.mono hsz)⟩
          case measure => simp [intOf]; omega
      · have hdec : (decide (cc.f ≤ m + 1) && decide (m + 1 ≤ ll)) = false := by
          cases hd : (decide (cc.f ≤ m + 1) && decide (m + 1 ≤ ll)) with
          | false => rfl
          | true => exact absurd (by simpa using hd) hcov
        have ZC := covers la ll lc cc.f (m + 1) wr hml
        rw [hdec, Int.natCast_add, Int.cast_ofNat_Int] at ZC
        have HBR : Hid (bringsC (m + 1) t cc = false) := by
          show bringsC (m + 1) t cc = false
          unfold bringsC
          rw [hll, hdec, Bool.false_and]
        clear hL' hdec hcov
        go_wp2_with (go_at_call 48; refine ZC.mono ?_; rintro _ w5 ⟨rfl, hB5⟩)
        go_roundw
        case rel => exact ⟨j + 1, by omega, by go_num, snoc_lt HNONE.out (by rw [HKE.out, HBR.out]), hbl.trans (hB5.mono hsz)⟩
        case measure => simp [intOf]; omega
    · clear h
      go_wp2
      go_ret
      have : j = k := by omega
      subst this
      exact ⟨⟨-1, rfl, .inl ⟨rfl, HNONE.out⟩⟩, hbl⟩
theorem count_snoc {cs : List HCall} {q : HCall → Bool} {j : Nat} (hj : j < cs.length) (h : q (cs.getD j hcall0) = true) : (cs.take (j + 1)).countP q = (cs.take j).countP q + 1 := by
  rw [List.take_succ_eq_append_getElem hj, List.countP_append]
  have : q cs[j] = true := by simpa [hj] using h
  simp [this]
theorem count_snoc0 {cs : List HCall} {q : HCall → Bool} {j : Nat} (hj : j < cs.length) (h : q (cs.getD j hcall0) = false) : (cs.take (j + 1)).countP q = (cs.take j).countP q := by
  rw [List.take_succ_eq_append_getElem hj, List.countP_append]
  have : q cs[j] = false := by simpa [hj] using h
  simp [this]

set_option maxRecDepth 20000 in
set_option maxHeartbeats 2000000 in
theorem countHolders (a : Option Addr) (n c : Nat) (cs : List HCall) (m : Nat) (t : Int) (w : World) (L B : Nat) (h : HCallsAt w L B a n c cs) (hB : B ≤ w.heap.size) (hm : m ≤ 1048576) (hn : n ≤ 256) (hs : ∀ cc ∈ cs, cc.log.length ≤ 1048576) :
    Calls Try.prog 17 #[.slice a n c, .int .u64 ((m : Int) + 1), .int .u64 t] w fun e w' => e = .returned (.int .i64 (cs.countP (bringsC (m + 1) t) : Nat)) ∧ Below w.heap.size w w' := by
  have hl := h.1
  go_enter Try.func17, Try.ntmps17
  go_wp2
  go_loopw [7, 8] (fun q i wr => ∃ j p : Nat, j ≤ n ∧ i = .int .i64 j ∧ q = .int .i64 p ∧ p ≤ j ∧ p = (cs.take j).countP (bringsC (m + 1) t) ∧ Below w.heap.size w wr) (fun _ i _ => n - (intOf i).toNat)
  case atStart => exact ⟨0, 0, Nat.zero_le _, rfl, rfl, Nat.le_refl _, rfl, Below.refl _ _⟩
  case round =>
    obtain ⟨j, p, hj, rfl, rfl, hpj, hnone, hbl⟩ := hrel
    have HNONE : Hid (p = (cs.take j).countP (bringsC (m + 1) t)) := hnone
    clear hnone
    by_cases hlt : j < n
    · obtain ⟨b, off, rfl, hb, hc⟩ := h.at (i := j) (by omega)
      have hE := hc j (by omega)
      have hss : (cs.getD j hcall0).log.length ≤ 1048576 := hs _ (by have : j < cs.length := by omega
                                                                     simp [this])
      generalize hke : cs.getD j hcall0 = cc at hE hss
      have HKE : Hid (cs.getD j hcall0 = cc) := hke
      obtain ⟨la, ll, lc, c0', c1', hL, _⟩ := hE
      have hll : cc.log.length = ll := hL.1
      have hsz := hbl.size
      have hbw : b < wr.heap.size := by omega
      have c0 := (hbl.cell (p := ⟨b, off + j * 2, none⟩) (by show b < _; omega)).trans c0'
      have c1 := (hbl.cell (p := ⟨b, off + j * 2 + 1, none⟩) (by show b < _; omega)).trans c1'
      have hL' := hL.keep (.of_below (hbl.mono hB)) (Nat.le_refl _) (Nat.le_refl _)
      have gx0 : (j : Int) < (n : Int) := by omega
      have hml : ll ≤ maxLen := by unfold maxLen; omega
      clear c0' c1' hL hc h hs hke
      by_cases hcov : cc.f ≤ m + 1 ∧ m + 1 ≤ ll
      · have hdec : (decide (cc.f ≤ m + 1) && decide (m + 1 ≤ ll)) = true := by simp [hcov.1, hcov.2]
        have ZC := covers la ll lc cc.f (m + 1) wr hml
        rw [hdec, Int.natCast_add, Int.cast_ofNat_Int] at ZC
        obtain ⟨b2, o2, rfl, hb2, hc2⟩ := hL'.at (i := m) (by omega)
        obtain ⟨v0, v1, v2, v3, e0', _, _, _, _, _, _, _, _, _, rfl, _⟩ := hc2 m (by omega)
        have hb2w : b2 < wr.heap.size := by omega
        have gy : (m : Int) < (ll : Int) := by omega
        have HBR : Hid (bringsC (m + 1) t cc = decide ((cc.log.getD m ent0).term = t)) := by
          unfold bringsC
          rw [hll, hdec, Nat.add_sub_cancel, Bool.true_and]
          rfl
        generalize (cc.log.getD m ent0).term = tt at e0' HBR
        clear hc2 hL' hdec hcov
        go_wp2_with (go_at_call 48; refine ZC.mono ?_; rintro _ w5 ⟨rfl, hB5⟩; obtain ⟨hcc, hff⟩ := bcell hB5; have d0 := (hcc _ _ hbw).trans c0; have d1 := (hcc _ _ hb2w).trans e0')
        · have ht : (tt == t) = true := by assumption
          have HT : Hid (tt = t) := by simpa [Hid] using ht
          go_roundw
          case rel => exact ⟨j + 1, p + 1, by omega, by go_num, by go_num, by omega, by rw [count_snoc (by omega) (by rw [HKE.out, HBR.out, decide_eq_true HT.out]), HNONE.out], hbl.trans (hB5.mono hsz)⟩
          case measure => simp [intOf]; omega
        · have ht : (tt == t) = false := by assumption
          have HT : Hid (¬ tt = t) := by simpa [Hid] using ht
          go_roundw
          case rel => exact ⟨j + 1, p, by omega, by go_num, rfl, by omega, by rw [count_snoc0 (by omega) (by rw [HKE.out, HBR.out, decide_eq_false HT.out]), HNONE.out], hbl.trans (hB5.mono hsz)⟩
          case measure => simp [intOf]; omega
      · have hdec : (decide (cc.f ≤ m + 1) && decide (m + 1 ≤ ll)) = false := by
          cases hd : (decide (cc.f ≤ m + 1) && decide (m + 1 ≤ ll)) with
          | false => rfl
          | true => exact absurd (by simpa using hd) hcov
        have ZC := covers la ll lc cc.f (m + 1) wr hml
        rw [hdec, Int.natCast_add, Int.cast_ofNat_Int] at ZC
        have HBR : Hid (bringsC (m + 1) t cc = false) := by
          show bringsC (m + 1) t cc = false
          unfold bringsC
          rw [hll, hdec, Bool.false_and]
        clear hL' hdec hcov
        go_wp2_with (go_at_call 48; refine ZC.mono ?_; rintro _ w5 ⟨rfl, hB5⟩)
        go_roundw
        case rel => exact ⟨j + 1, p, by omega, by go_num, rfl, by omega, by rw [count_snoc0 (by omega) (by rw [HKE.out, HBR.out]), HNONE.out], hbl.trans (hB5.mono hsz)⟩
        case measure => simp [intOf]; omega
    · clear h
      go_wp2
      go_ret
      have hp := HNONE.out
      rw [List.take_of_length_le (by omega)] at hp
      rw [← hp]
      exact ⟨rfl, hbl⟩
end Go.Proofs.Qxb6604092a
