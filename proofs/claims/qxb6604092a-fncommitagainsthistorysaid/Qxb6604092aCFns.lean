import Derived.Test.Qxb6604092aCHist
import Derived.Test.Qxb6604092aMatch
import Derived.Test.Qxb6604092aHFirst
namespace Go.Proofs.Qxb6604092a
open Go.RowKit

/-! ### The model of commit: scans of the calls -/
def FA (cs : List CCall) (k : Nat) (z : Int) : Prop := (z = -1 ∧ isFirst cs k) ∨ ∃ j : Nat, z = j ∧ ¬ isFirst cs k
def SaysFA (cs : List CCall) (k : Nat) (e : Ending) : Prop := ∃ z, e = .returned (.int .i64 z) ∧ FA cs k z

set_option maxHeartbeats 1000000 in
theorem firstAt (a : Option Addr) (n c : Nat) (cs : List CCall) (k : Nat) (w : World) (L B : Nat) (h : CallsAt w L B a n c cs) (hk : k < n) (hn : n ≤ 4096) :
    Calls Try.prog 28 #[.slice a n c, .int .i64 k] w fun e w' => SaysFA cs k e ∧ ∃ q, w' = w.drewN q := by
  obtain ⟨b, off, rfl, _, hb, hc⟩ := h.at hk
  obtain ⟨_, _, _, _, gk, _, _, _, _, _, _, _, _⟩ := hc k hk
  generalize hik : (cs.getD k call0).idx = ik at gk
  have HIK : Hid ((cs.getD k call0).idx = ik) := hik
  have hkn : (k : Int) < (n : Int) := by omega
  have hk0 : (0 : Int) ≤ (k : Int) := by omega
  clear hik
  go_enter Try.func28, Try.ntmps28
  go_wp2
  go_loopw [5] (fun i wr => ∃ j : Nat, j ≤ k ∧ i = .int .i64 j ∧ (∀ g, g < j → ¬ (cs.getD g call0).idx = ik) ∧ ∃ q, wr = w.drewN q) (fun i _ => k - (intOf i).toNat)
  case atStart => exact ⟨0, Nat.zero_le _, rfl, fun g hg => absurd hg (Nat.not_lt_zero _), 0, rfl⟩
  case round =>
    obtain ⟨j, hj, rfl, hno, q, rfl⟩ := hrel
    have HNO : Hid (∀ g, g < j → ¬ (cs.getD g call0).idx = ik) := hno
    clear hno
    by_cases hlt : j < k
    · obtain ⟨_, _, _, _, gj, _⟩ := hc j (by omega)
      generalize hij : (cs.getD j call0).idx = ij at gj
      have HIJ : Hid ((cs.getD j call0).idx = ij) := hij
      have hjk : (j : Int) < (k : Int) := by omega
      have hjn : (j : Int) < (n : Int) := by omega
      have hj0 : (0 : Int) ≤ (j : Int) := by omega
      clear hc hij h
      by_cases he : ij = ik
      · have heb : (ij == ik) = true := by simpa using he
        have HE : Hid (ij = ik) := he
        clear he
        go_wp2
        go_quiet (fail)
        go_wp2
        go_ret
        exact ⟨⟨j, rfl, .inr ⟨j, rfl, fun hf => hf j hlt (by rw [HIJ.out, HIK.out, HE.out])⟩⟩, q + nq, by simp⟩
      · have heb : (ij == ik) = false := by simpa using he
        have HE : Hid (¬ ij = ik) := he
        clear he
        go_wp2
        go_quiet (fail)
        go_wp2
        go_roundw
        case rel => exact ⟨j + 1, by omega, by go_num, snoc_lt HNO.out (by rw [HIJ.out]; exact HE.out), q + nq, by simp⟩
        case measure => simp [intOf]; omega
    · clear h hc
      go_wp2
      go_ret
      have : j = k := by omega
      subst this
      exact ⟨⟨-1, rfl, .inl ⟨rfl, fun g hg => by rw [HIK.out]; exact HNO.out g hg⟩⟩, _, rfl⟩

theorem seenAll_take_succ {cs : List CCall} {j : Nat} (hj : j < cs.length) (idx : Int) : seenAll (cs.take (j + 1)) idx = seen idx (seenAll (cs.take j) idx) (cs.getD j call0) := by
  rw [take_snoc hj, seenAll_snoc]
/-- The least term among the calls at the index so far, or the greatest number. -/
def LowIs (cs : List CCall) (j : Nat) (idx l : Int) : Prop := (seenAll (cs.take j) idx = none ∧ l = 18446744073709551615) ∨ ∃ e, seenAll (cs.take j) idx = some (e, l)
theorem LowIs.other {cs : List CCall} {j : Nat} {idx l : Int} (h : LowIs cs j idx l) (hj : j < cs.length) (hi : ¬ (cs.getD j call0).idx = idx) : LowIs cs (j + 1) idx l := by
  unfold LowIs
  rw [seenAll_take_succ hj, seen_other hi]
  exact h
theorem LowIs.take {cs : List CCall} {j : Nat} {idx l : Int} (h : LowIs cs j idx l) (hj : j < cs.length) (hi : (cs.getD j call0).idx = idx) (hl : (cs.getD j call0).nt < l) : LowIs cs (j + 1) idx (cs.getD j call0).nt := by
  unfold LowIs
  rw [seenAll_take_succ hj, seen_same hi]
  rcases h with ⟨h1, h2⟩ | ⟨e, h1⟩
  · rw [h1]
    exact .inr ⟨_, rfl⟩
  · rw [h1]
    refine .inr ⟨e, ?_⟩
    simp only [mn2, hl, if_true]
theorem LowIs.leave {cs : List CCall} {j : Nat} {idx l : Int} (h : LowIs cs j idx l) (hj : j < cs.length) (hi : (cs.getD j call0).idx = idx) (hl : ¬ (cs.getD j call0).nt < l) (hm : (cs.getD j call0).nt ≤ 18446744073709551615) : LowIs cs (j + 1) idx l := by
  unfold LowIs
  rw [seenAll_take_succ hj, seen_same hi]
  rcases h with ⟨h1, h2⟩ | ⟨e, h1⟩
  · rw [h1]
    refine .inr ⟨(cs.getD j call0).e, ?_⟩
    simp only [Option.some.injEq, Prod.mk.injEq, true_and]
    omega
  · rw [h1]
    refine .inr ⟨e, ?_⟩
    simp only [mn2, hl, if_false]
theorem LowIs.done {cs : List CCall} {n : Nat} {idx l l' : Int} {e : Ent} (h : LowIs cs n idx l) (hn : cs.length = n) (hs : seenAll cs idx = some (e, l')) : l = l' := by
  unfold LowIs at h
  rw [List.take_of_length_le (by omega), hs] at h
  rcases h with ⟨h1, _⟩ | ⟨e', h1⟩
  · cases h1
  · cases h1; rfl
theorem fits_u64 {z : Int} (h : Fits .u64 z) : 0 ≤ z ∧ z ≤ 18446744073709551615 := by
  have hw : IntKind.u64.min ≤ z ∧ z ≤ IntKind.u64.max := by simpa [Fits, Lit.wf] using h
  have hmin : IntKind.u64.min = 0 := by decide
  have hmax : IntKind.u64.max = 18446744073709551615 := by decide
  rw [hmin, hmax] at hw
  exact hw

set_option maxHeartbeats 1000000 in
theorem minNodeTerm (a : Option Addr) (n c : Nat) (cs : List CCall) (idx l : Int) (e : Ent) (w : World) (L B : Nat) (h : CallsAt w L B a n c cs) (hn : n ≤ 4096) (hs : seenAll cs idx = some (e, l)) :
    Calls Try.prog 31 #[.slice a n c, .int .u64 idx] w fun r w' => r = .returned (.int .u64 l) ∧ w = w' := by
  have hl := h.1
  have HS : Hid (seenAll cs idx = some (e, l)) := hs
  clear hs
  go_enter Try.func31, Try.ntmps31
  go_wp2
  go_loop [5, 6] (fun q i => ∃ (j : Nat) (lw : Int), j ≤ n ∧ i = .int .i64 j ∧ q = .int .u64 lw ∧ LowIs cs j idx lw) (fun _ i => n - (intOf i).toNat)
  case atStart => exact ⟨0, _, Nat.zero_le _, rfl, rfl, .inl ⟨rfl, rfl⟩⟩
  case round =>
    obtain ⟨j, lw, hj, rfl, rfl, hlow⟩ := hrel
    have HLOW : Hid (LowIs cs j idx lw) := hlow
    clear hlow
    by_cases hlt : j < n
    · obtain ⟨b, off, rfl, _, hb, hc⟩ := h.at hlt
      obtain ⟨_, _, _, _, gi, _, _, _, _, gn, _, _, hfit⟩ := hc j hlt
      have HF : Hid ((cs.getD j call0).nt ≤ 18446744073709551615) := (fits_u64 hfit).2
      generalize hij : (cs.getD j call0).idx = ij at gi
      generalize hnj : (cs.getD j call0).nt = nj at gn
      have HIJ : Hid ((cs.getD j call0).idx = ij) := hij
      have HNJ : Hid ((cs.getD j call0).nt = nj) := hnj
      have hjn : (j : Int) < (n : Int) := by omega
      clear hc h hfit hij hnj
      by_cases he : ij = idx
      · have heb : (ij == idx) = true := by simpa using he
        have HE : Hid (ij = idx) := he
        clear he
        by_cases hll : nj < lw
        · go_wp2
          go_round
          case rel => exact ⟨j + 1, nj, by omega, by go_num, rfl, by rw [← HNJ.out]; exact HLOW.out.take (by omega) (by rw [HIJ.out, HE.out]) (by rw [HNJ.out]; exact hll)⟩
          case measure => simp [intOf]; omega
        · go_wp2
          go_round
          case rel => exact ⟨j + 1, lw, by omega, by go_num, rfl, HLOW.out.leave (by omega) (by rw [HIJ.out, HE.out]) (by rw [HNJ.out]; exact hll) HF.out⟩
          case measure => simp [intOf]; omega
      · have heb : (ij == idx) = false := by simpa using he
        have HE : Hid (¬ ij = idx) := he
        clear he
        go_wp2
        go_round
        case rel => exact ⟨j + 1, lw, by omega, by go_num, rfl, HLOW.out.other (by omega) (by rw [HIJ.out]; exact HE.out)⟩
        case measure => simp [intOf]; omega
    · clear h
      go_wp2
      go_ret
      have : j = n := by omega
      subst this
      rw [HLOW.out.done hl HS.out]
      exact ⟨rfl, rfl⟩

set_option maxHeartbeats 1000000 in
theorem isGreatest (a : Option Addr) (n c : Nat) (cs : List CCall) (z : Int) (w : World) (L B : Nat) (h : CallsAt w L B a n c cs) (hn : n ≤ 4096) (hg : Greatest cs n z) :
    Calls Try.prog 33 #[.slice a n c, .int .u64 z] w fun r w' => r = .returned (.bool true) ∧ w = w' := by
  have hl := h.1
  have HG : Hid (Greatest cs n z) := hg
  clear hg
  by_cases h0 : n = 0
  · subst h0
    have hz : z = 0 := by
      rcases HG.out.2 with ⟨_, h1⟩ | ⟨j, h1, _⟩
      · exact h1
      · omega
    subst hz
    clear h
    go_enter Try.func33, Try.ntmps33
    go_wp2
    go_ret
    exact ⟨rfl, rfl⟩
  · have hnz : ((n : Int) == 0) = false := by simpa using h0
    go_enter Try.func33, Try.ntmps33
    go_wp2
    go_loop [5, 6] (fun f i => ∃ (j : Nat) (fb : Bool), j ≤ n ∧ i = .int .i64 j ∧ f = .bool fb ∧ (fb = true ∨ ∀ g, g < j → ¬ (cs.getD g call0).idx = z)) (fun _ i => n - (intOf i).toNat)
    case atStart => exact ⟨0, false, Nat.zero_le _, rfl, rfl, .inr fun g hg => absurd hg (Nat.not_lt_zero _)⟩
    case round =>
      obtain ⟨j, fb, hj, rfl, rfl, hfb⟩ := hrel
      have HFB : Hid (fb = true ∨ ∀ g, g < j → ¬ (cs.getD g call0).idx = z) := hfb
      clear hfb
      by_cases hlt : j < n
      · obtain ⟨b, off, rfl, _, hb, hc⟩ := h.at hlt
        obtain ⟨_, _, _, _, gi, _⟩ := hc j hlt
        have hle := HG.out.1 j hlt
        generalize hij : (cs.getD j call0).idx = ij at gi hle
        have HIJ : Hid ((cs.getD j call0).idx = ij) := hij
        have hjn : (j : Int) < (n : Int) := by omega
        clear hc h hij
        by_cases he : ij = z
        · have heb : (ij == z) = true := by simpa using he
          clear he
          go_wp2
          go_round
          case rel => exact ⟨j + 1, true, by omega, by go_num, rfl, .inl rfl⟩
          case measure => simp [intOf]; omega
        · have heb : (ij == z) = false := by simpa using he
          have HE : Hid (¬ ij = z) := he
          clear he
          go_wp2
          go_round
          case rel => exact ⟨j + 1, fb, by omega, by go_num, rfl, HFB.out.imp_right fun h => snoc_lt h (by rw [HIJ.out]; exact HE.out)⟩
          case measure => simp [intOf]; omega
      · clear h
        go_wp2
        go_ret
        have hfb : fb = true := by
          rcases HFB.out with h1 | h1
          · exact h1
          · rcases HG.out.2 with ⟨h2, _⟩ | ⟨i, h2, h3⟩
            · omega
            · exact absurd h3 (h1 i (by omega))
        exact ⟨ret_bool hfb, rfl⟩

/-- A block of bools. -/
def ChAt (w : World) (g n : Nat) (f : Nat → Bool) : Prop := ∀ i, i < n → w.cell? ⟨g, i, none⟩ = some (.bool (f i))
def Above (cs : List CCall) (n : Nat) (f : Nat → Bool) (z : Int) : Prop := ∃ j, j < n ∧ f j = true ∧ z < (cs.getD j call0).idx
set_option maxHeartbeats 1000000 in
theorem changeAbove (a : Option Addr) (n c : Nat) (cs : List CCall) (g : Nat) (f : Nat → Bool) (z : Int) (w : World) (L B : Nat) (h : CallsAt w L B a n c cs) (hn : n ≤ 4096) (hf : ChAt w g n f) :
    Calls Try.prog 35 #[.slice a n c, .slice (some ⟨g, 0, none⟩) n n, .int .u64 z] w fun r w' => SaysBool r (Above cs n f z) ∧ w = w' := by
  have hl := h.1
  go_enter Try.func35, Try.ntmps35
  go_wp2
  go_loop [7] (fun i => ∃ (j : Nat), j ≤ n ∧ i = .int .i64 j ∧ (∀ i, i < j → ¬ (f i = true ∧ z < (cs.getD i call0).idx))) (fun i => n - (intOf i).toNat)
  case atStart => exact ⟨0, Nat.zero_le _, rfl, fun g hg => absurd hg (Nat.not_lt_zero _)⟩
  case round =>
    obtain ⟨j, hj, rfl, hno⟩ := hrel
    have HNO : Hid (∀ i, i < j → ¬ (f i = true ∧ z < (cs.getD i call0).idx)) := hno
    clear hno
    by_cases hlt : j < n
    · obtain ⟨b, off, rfl, _, hb, hc⟩ := h.at hlt
      obtain ⟨_, _, _, _, gi, _⟩ := hc j hlt
      have cf := hf j hlt
      generalize hij : (cs.getD j call0).idx = ij at gi
      have HIJ : Hid ((cs.getD j call0).idx = ij) := hij
      generalize hfj : f j = fj at cf
      have HFJ : Hid (f j = fj) := hfj
      have hjn : (j : Int) < (n : Int) := by omega
      clear hc h hij hf hfj
      cases fj with
      | false =>
        go_wp2
        go_round
        case rel => exact ⟨j + 1, by omega, by go_num, snoc_lt HNO.out (by rw [HFJ.out]; simp)⟩
        case measure => simp [intOf]; omega
      | true =>
        by_cases hz : z < ij
        · go_wp2
          go_ret
          exact ⟨SaysBool.tt ⟨j, hlt, HFJ.out, by rw [HIJ.out]; exact hz⟩, rfl⟩
        · go_wp2
          go_round
          case rel => exact ⟨j + 1, by omega, by go_num, snoc_lt HNO.out (by rw [HIJ.out]; exact fun hh => hz hh.2)⟩
          case measure => simp [intOf]; omega
    · clear h hf
      go_wp2
      go_ret
      exact ⟨SaysBool.ff (fun ⟨i, h1, h2, h3⟩ => HNO.out i (by omega) ⟨h2, h3⟩), rfl⟩
end Go.Proofs.Qxb6604092a
