import Derived.Test.Qxb6604092aCopies
import Derived.Laws.BytesArg
import Derived.Lib.Bytes
import Derived.OpenShut
namespace Go.Proofs.Qxb6604092a
open Go.RowKit

def eqL (xs ys : List Int) : Bool := decide (xs = ys)
theorem eqL_len {xs ys : List Int} (h : xs.length ≠ ys.length) : eqL xs ys = false := by
  simp only [eqL, decide_eq_false_iff_not]; intro e; exact h (by rw [e])
theorem eqL_at {xs ys : List Int} {k : Nat} (h : xs.getD k 0 ≠ ys.getD k 0) : eqL xs ys = false := by
  simp only [eqL, decide_eq_false_iff_not]; intro e; exact h (by rw [e])
theorem eqL_all {xs ys : List Int} {n : Nat} (hx : xs.length = n) (hy : ys.length = n) (h : ∀ i, i < n → xs.getD i 0 = ys.getD i 0) : eqL xs ys = true := by
  simp only [eqL, decide_eq_true_eq]
  apply List.ext_getElem (by omega)
  intro i h1 h2
  have := h i (by omega)
  simpa [h1, h2] using this
theorem all_snoc {xs ys : List Int} {k : Nat} (h : ∀ j, j < k → xs.getD j 0 = ys.getD j 0) (hk : xs.getD k 0 = ys.getD k 0) : ∀ j, j < k + 1 → xs.getD j 0 = ys.getD j 0 := by
  intro j hj
  by_cases e : j = k
  · subst e; exact hk
  · exact h j (by omega)

set_option maxHeartbeats 400000 in
theorem bytesEq (a b : Option Addr) (n c m d : Nat) (xs ys : List Int) (w : World) (L B L' B' : Nat) (hx : RowAt w L B .u8 a n c xs) (hy : RowAt w L' B' .u8 b m d ys) :
    Calls Try.prog 49 #[.slice a n c, .slice b m d] w fun e w' => e = .returned (.bool (eqL xs ys)) ∧ ∃ q, w' = w.drewN q := by
  have hxl := hx.1
  have hyl := hy.1
  have hxm : n ≤ maxLen := Nat.le_trans hx.2.1 hx.2.2.1
  unfold maxLen at hxm
  by_cases hnm : n = m
  · subst hnm
    go_enter Try.func49, Try.ntmps49
    go_wp2
    go_loopw [5] (fun i wr => ∃ k : Nat, k ≤ n ∧ i = .int .i64 k ∧ (∀ j, j < k → xs.getD j 0 = ys.getD j 0) ∧ ∃ q, wr = w.drewN q) (fun i _ => n - (intOf i).toNat)
    case atStart => exact ⟨0, Nat.zero_le _, rfl, fun j hj => by omega, 0, rfl⟩
    case round =>
      obtain ⟨k, hk, rfl, hall, q, rfl⟩ := hrel
      by_cases hlt : k < n
      · obtain ⟨b1, o1, rfl, _, hc1⟩ := hx.at hlt
        obtain ⟨b2, o2, rfl, _, hc2⟩ := hy.at hlt
        have g1 := hc1 k hlt
        have g2 := hc2 k hlt
        have gx : (k : Int) < (n : Int) := by omega
        obtain ⟨u, hu⟩ : ∃ u, u = xs.getD k 0 := ⟨_, rfl⟩
        obtain ⟨v, hv⟩ : ∃ v, v = ys.getD k 0 := ⟨_, rfl⟩
        rw [← hu] at g1
        rw [← hv] at g2
        have HU : Hid (u = xs.getD k 0) := hu
        have HV : Hid (v = ys.getD k 0) := hv
        have HALL : Hid (∀ j, j < k → xs.getD j 0 = ys.getD j 0) := hall
        clear hu hv hall hc1 hc2 hx hy
        go_wp2
        go_quiet (fail)
        go_wp2
        · have hne : (u != v) = true := by assumption
          go_ret
          rw [eqL_at (by rw [← HU.out, ← HV.out]; simpa using hne)]
          exact ⟨rfl, q + nq, by rw [World.drewN_drewN]⟩
        · have hne : (u != v) = false := by assumption
          go_roundw
          case rel => exact ⟨k + 1, by omega, by go_num, all_snoc HALL.out (by rw [← HU.out, ← HV.out]; simpa using hne), q + nq, rfl⟩
          case measure => simp [intOf]; omega
      · have HALL : Hid (∀ j, j < k → xs.getD j 0 = ys.getD j 0) := hall
        clear hall
        go_wp2
        go_ret
        rw [eqL_all hxl hyl (fun i hi => HALL.out i (by omega))]
        exact ⟨rfl, q, rfl⟩
  · have hnm' : ((n : Int) == (m : Int)) = false := by simp; omega
    go_enter Try.func49, Try.ntmps49
    go_wp2
    go_ret
    rw [eqL_len (by omega)]
    exact ⟨rfl, 0, rfl⟩

set_option maxHeartbeats 400000 in
theorem u64Eq (a b : Option Addr) (n c m d : Nat) (xs ys : List Int) (w : World) (L B L' B' : Nat) (hx : RowAt w L B .u64 a n c xs) (hy : RowAt w L' B' .u64 b m d ys) :
    Calls Try.prog 56 #[.slice a n c, .slice b m d] w fun e w' => e = .returned (.bool (eqL xs ys)) ∧ ∃ q, w' = w.drewN q := by
  have hxl := hx.1
  have hyl := hy.1
  have hxm : n ≤ maxLen := Nat.le_trans hx.2.1 hx.2.2.1
  unfold maxLen at hxm
  by_cases hnm : n = m
  · subst hnm
    go_enter Try.func56, Try.ntmps56
    go_wp2
    go_loopw [5] (fun i wr => ∃ k : Nat, k ≤ n ∧ i = .int .i64 k ∧ (∀ j, j < k → xs.getD j 0 = ys.getD j 0) ∧ ∃ q, wr = w.drewN q) (fun i _ => n - (intOf i).toNat)
    case atStart => exact ⟨0, Nat.zero_le _, rfl, fun j hj => by omega, 0, rfl⟩
    case round =>
      obtain ⟨k, hk, rfl, hall, q, rfl⟩ := hrel
      by_cases hlt : k < n
      · obtain ⟨b1, o1, rfl, _, hc1⟩ := hx.at hlt
        obtain ⟨b2, o2, rfl, _, hc2⟩ := hy.at hlt
        have g1 := hc1 k hlt
        have g2 := hc2 k hlt
        have gx : (k : Int) < (n : Int) := by omega
        obtain ⟨u, hu⟩ : ∃ u, u = xs.getD k 0 := ⟨_, rfl⟩
        obtain ⟨v, hv⟩ : ∃ v, v = ys.getD k 0 := ⟨_, rfl⟩
        rw [← hu] at g1
        rw [← hv] at g2
        have HU : Hid (u = xs.getD k 0) := hu
        have HV : Hid (v = ys.getD k 0) := hv
        have HALL : Hid (∀ j, j < k → xs.getD j 0 = ys.getD j 0) := hall
        clear hu hv hall hc1 hc2 hx hy
        go_wp2
        go_quiet (fail)
        go_wp2
        · have hne : (u != v) = true := by assumption
          go_ret
          rw [eqL_at (by rw [← HU.out, ← HV.out]; simpa using hne)]
          exact ⟨rfl, q + nq, by rw [World.drewN_drewN]⟩
        · have hne : (u != v) = false := by assumption
          go_roundw
          case rel => exact ⟨k + 1, by omega, by go_num, all_snoc HALL.out (by rw [← HU.out, ← HV.out]; simpa using hne), q + nq, rfl⟩
          case measure => simp [intOf]; omega
      · have HALL : Hid (∀ j, j < k → xs.getD j 0 = ys.getD j 0) := hall
        clear hall
        go_wp2
        go_ret
        rw [eqL_all hxl hyl (fun i hi => HALL.out i (by omega))]
        exact ⟨rfl, q, rfl⟩
  · have hnm' : ((n : Int) == (m : Int)) = false := by simp; omega
    go_enter Try.func56, Try.ntmps56
    go_wp2
    go_ret
    rw [eqL_len (by omega)]
    exact ⟨rfl, 0, rfl⟩

set_option maxHeartbeats 400000 in
theorem idsEq (a b : Option Addr) (n c m d : Nat) (xs ys : List Int) (w : World) (L B L' B' : Nat) (hx : RowAt w L B .u64 a n c xs) (hy : RowAt w L' B' .u64 b m d ys) :
    Calls Try.prog 42 #[.slice a n c, .slice b m d] w fun e w' => e = .returned (.bool (eqL xs ys)) ∧ ∃ q, w' = w.drewN q := by
  have hxl := hx.1
  have hyl := hy.1
  have hxm : n ≤ maxLen := Nat.le_trans hx.2.1 hx.2.2.1
  unfold maxLen at hxm
  by_cases hnm : n = m
  · subst hnm
    go_enter Try.func42, Try.ntmps42
    go_wp2
    go_loopw [5] (fun i wr => ∃ k : Nat, k ≤ n ∧ i = .int .i64 k ∧ (∀ j, j < k → xs.getD j 0 = ys.getD j 0) ∧ ∃ q, wr = w.drewN q) (fun i _ => n - (intOf i).toNat)
    case atStart => exact ⟨0, Nat.zero_le _, rfl, fun j hj => by omega, 0, rfl⟩
    case round =>
      obtain ⟨k, hk, rfl, hall, q, rfl⟩ := hrel
      by_cases hlt : k < n
      · obtain ⟨b1, o1, rfl, _, hc1⟩ := hx.at hlt
        obtain ⟨b2, o2, rfl, _, hc2⟩ := hy.at hlt
        have g1 := hc1 k hlt
        have g2 := hc2 k hlt
        have gx : (k : Int) < (n : Int) := by omega
        obtain ⟨u, hu⟩ : ∃ u, u = xs.getD k 0 := ⟨_, rfl⟩
        obtain ⟨v, hv⟩ : ∃ v, v = ys.getD k 0 := ⟨_, rfl⟩
        rw [← hu] at g1
        rw [← hv] at g2
        have HU : Hid (u = xs.getD k 0) := hu
        have HV : Hid (v = ys.getD k 0) := hv
        have HALL : Hid (∀ j, j < k → xs.getD j 0 = ys.getD j 0) := hall
        clear hu hv hall hc1 hc2 hx hy
        go_wp2
        go_quiet (fail)
        go_wp2
        · have hne : (u != v) = true := by assumption
          go_ret
          rw [eqL_at (by rw [← HU.out, ← HV.out]; simpa using hne)]
          exact ⟨rfl, q + nq, by rw [World.drewN_drewN]⟩
        · have hne : (u != v) = false := by assumption
          go_roundw
          case rel => exact ⟨k + 1, by omega, by go_num, all_snoc HALL.out (by rw [← HU.out, ← HV.out]; simpa using hne), q + nq, rfl⟩
          case measure => simp [intOf]; omega
      · have HALL : Hid (∀ j, j < k → xs.getD j 0 = ys.getD j 0) := hall
        clear hall
        go_wp2
        go_ret
        rw [eqL_all hxl hyl (fun i hi => HALL.out i (by omega))]
        exact ⟨rfl, q, rfl⟩
  · have hnm' : ((n : Int) == (m : Int)) = false := by simp; omega
    go_enter Try.func42, Try.ntmps42
    go_wp2
    go_ret
    rw [eqL_len (by omega)]
    exact ⟨rfl, 0, rfl⟩

set_option maxHeartbeats 400000 in
theorem idsEqU (a b : Option Addr) (n c m d : Nat) (xs ys : List Int) (w : World) (L B L' B' : Nat) (hx : RowAt w L B .u64 a n c xs) (hy : RowAt w L' B' .u64 b m d ys) :
    Calls Try.prog 38 #[.slice a n c, .slice b m d] w fun e w' => e = .returned (.bool (eqL xs ys)) ∧ ∃ q, w' = w.drewN q := by
  have hxl := hx.1
  have hyl := hy.1
  have hxm : n ≤ maxLen := Nat.le_trans hx.2.1 hx.2.2.1
  unfold maxLen at hxm
  by_cases hnm : n = m
  · subst hnm
    go_enter Try.func38, Try.ntmps38
    go_wp2
    go_loopw [5] (fun i wr => ∃ k : Nat, k ≤ n ∧ i = .int .i64 k ∧ (∀ j, j < k → xs.getD j 0 = ys.getD j 0) ∧ ∃ q, wr = w.drewN q) (fun i _ => n - (intOf i).toNat)
    case atStart => exact ⟨0, Nat.zero_le _, rfl, fun j hj => by omega, 0, rfl⟩
    case round =>
      obtain ⟨k, hk, rfl, hall, q, rfl⟩ := hrel
      by_cases hlt : k < n
      · obtain ⟨b1, o1, rfl, _, hc1⟩ := hx.at hlt
        obtain ⟨b2, o2, rfl, _, hc2⟩ := hy.at hlt
        have g1 := hc1 k hlt
        have g2 := hc2 k hlt
        have gx : (k : Int) < (n : Int) := by omega
        obtain ⟨u, hu⟩ : ∃ u, u = xs.getD k 0 := ⟨_, rfl⟩
        obtain ⟨v, hv⟩ : ∃ v, v = ys.getD k 0 := ⟨_, rfl⟩
        rw [← hu] at g1
        rw [← hv] at g2
        have HU : Hid (u = xs.getD k 0) := hu
        have HV : Hid (v = ys.getD k 0) := hv
        have HALL : Hid (∀ j, j < k → xs.getD j 0 = ys.getD j 0) := hall
        clear hu hv hall hc1 hc2 hx hy
        go_wp2
        go_quiet (fail)
        go_wp2
        · have hne : (u != v) = true := by assumption
          go_ret
          rw [eqL_at (by rw [← HU.out, ← HV.out]; simpa using hne)]
          exact ⟨rfl, q + nq, by rw [World.drewN_drewN]⟩
        · have hne : (u != v) = false := by assumption
          go_roundw
          case rel => exact ⟨k + 1, by omega, by go_num, all_snoc HALL.out (by rw [← HU.out, ← HV.out]; simpa using hne), q + nq, rfl⟩
          case measure => simp [intOf]; omega
      · have HALL : Hid (∀ j, j < k → xs.getD j 0 = ys.getD j 0) := hall
        clear hall
        go_wp2
        go_ret
        rw [eqL_all hxl hyl (fun i hi => HALL.out i (by omega))]
        exact ⟨rfl, q, rfl⟩
  · have hnm' : ((n : Int) == (m : Int)) = false := by simp; omega
    go_enter Try.func38, Try.ntmps38
    go_wp2
    go_ret
    rw [eqL_len (by omega)]
    exact ⟨rfl, 0, rfl⟩

set_option maxHeartbeats 400000 in
theorem slicesEqual (a b : Option Addr) (n c m d : Nat) (xs ys : List Int) (w : World) (L B L' B' : Nat) (hx : RowAt w L B .u64 a n c xs) (hy : RowAt w L' B' .u64 b m d ys) :
    Calls Try.prog 58 #[.slice a n c, .slice b m d] w fun e w' => e = .returned (.bool (eqL xs ys)) ∧ ∃ q, w' = w.drewN q := by
  have hxl := hx.1
  have hyl := hy.1
  have hxm : n ≤ maxLen := Nat.le_trans hx.2.1 hx.2.2.1
  unfold maxLen at hxm
  by_cases hnm : n = m
  · subst hnm
    go_enter Try.func58, Try.ntmps58
    go_wp2
    go_loopw [13] (fun i wr => ∃ k : Nat, k ≤ n ∧ i = .int .i64 k ∧ (∀ j, j < k → xs.getD j 0 = ys.getD j 0) ∧ ∃ q, wr = w.drewN q) (fun i _ => n - (intOf i).toNat)
    case atStart => exact ⟨0, Nat.zero_le _, rfl, fun j hj => by omega, 0, rfl⟩
    case round =>
      obtain ⟨k, hk, rfl, hall, q, rfl⟩ := hrel
      by_cases hlt : k < n
      · obtain ⟨b1, o1, rfl, _, hc1⟩ := hx.at hlt
        obtain ⟨b2, o2, rfl, _, hc2⟩ := hy.at hlt
        have g1 := hc1 k hlt
        have g2 := hc2 k hlt
        have gx : (k : Int) < (n : Int) := by omega
        obtain ⟨u, hu⟩ : ∃ u, u = xs.getD k 0 := ⟨_, rfl⟩
        obtain ⟨v, hv⟩ : ∃ v, v = ys.getD k 0 := ⟨_, rfl⟩
        rw [← hu] at g1
        rw [← hv] at g2
        have HU : Hid (u = xs.getD k 0) := hu
        have HV : Hid (v = ys.getD k 0) := hv
        have HALL : Hid (∀ j, j < k → xs.getD j 0 = ys.getD j 0) := hall
        clear hu hv hall hc1 hc2 hx hy
        go_wp2
        go_quiet (fail)
        go_wp2
        · have hne : (u != v) = true := by assumption
          go_ret
          rw [eqL_at (by rw [← HU.out, ← HV.out]; simpa using hne)]
          exact ⟨rfl, q + nq, by rw [World.drewN_drewN]⟩
        · have hne : (u != v) = false := by assumption
          go_roundw
          case rel => exact ⟨k + 1, by omega, by go_num, all_snoc HALL.out (by rw [← HU.out, ← HV.out]; simpa using hne), q + nq, rfl⟩
          case measure => simp [intOf]; omega
      · have HALL : Hid (∀ j, j < k → xs.getD j 0 = ys.getD j 0) := hall
        clear hall
        go_wp2
        go_ret
        rw [eqL_all hxl hyl (fun i hi => HALL.out i (by omega))]
        exact ⟨rfl, q, rfl⟩
  · have hnm' : ((n : Int) == (m : Int)) = false := by simp; omega
    go_enter Try.func58, Try.ntmps58
    go_wp2
    go_ret
    rw [eqL_len (by omega)]
    exact ⟨rfl, 0, rfl⟩

/-! ### bytes.Equal: by way of strings -/
theorem fits_u8 {z : Int} (h : Fits .u8 z) : 0 ≤ z ∧ z < 256 := by
  have := bounds_u8 h
  omega
theorem strOfNums_inj {xs ys : List Int} (hx : ∀ z ∈ xs, Fits .u8 z) (hy : ∀ z ∈ ys, Fits .u8 z) : (strOfNums xs).toList = (strOfNums ys).toList → xs = ys := by
  rw [Lib.strOfNums_toList, Lib.strOfNums_toList]
  intro h
  have hl : xs.length = ys.length := by have := congrArg List.length h; simpa [Lib.bytesOf] using this
  apply List.ext_getElem hl
  intro i h1 h2
  have e := congrArg (fun l => l[i]?) h
  simp [Lib.bytesOf, h1, h2] at e
  have a1 := fits_u8 (hx _ (List.getElem_mem h1))
  have a2 := fits_u8 (hy _ (List.getElem_mem h2))
  have e' := congrArg UInt8.toNat e
  simp at e'
  omega
theorem run_convert_row {w : World} {L B : Nat} {a : Option Addr} {n c : Nat} {xs : List Int} (h : RowAt w L B .u8 a n c xs) : (convert 46 9 (.slice a n c)).run Try.prog w = .ok (.string (strOfNums xs)) w := by
  obtain ⟨h1, h2, h3, h5, h4⟩ := h
  cases a with
  | none =>
    have hn : n = 0 := by
      rcases h4 with h4 | ⟨b, off, e, _⟩
      · exact h4
      · cases e
    subst hn
    have : xs = [] := List.eq_nil_of_length_eq_zero h1
    subst this
    exact run_convert_bytes_nil w 46 5 Try.underlying46 Try.underlying5 0 c 9 Try.underlying9
  | some x =>
    rcases h4 with h4 | ⟨b, off, e, _, hb, hc⟩
    · subst h4
      have : xs = [] := List.eq_nil_of_length_eq_zero h1
      subst this
      rw [run_convert_bytes_string w 46 9 5 _ 0 c Try.underlying46 Try.underlying5 Try.underlying9, run_bytesToString w x 0 c [] (by simpa using run_loadCells_list (P := Try.prog) w x [] (by simp))]
      rfl
    · cases e
      exact run_convert_bytes_arg w 46 5 Try.underlying46 Try.underlying5 b off n c xs h1 hc 9 Try.underlying9

set_option maxHeartbeats 400000 in
theorem bytesEqual (a b : Option Addr) (n c m d : Nat) (xs ys : List Int) (w : World) (L B L' B' : Nat) (hx : RowAt w L B .u8 a n c xs) (hy : RowAt w L' B' .u8 b m d ys) :
    Calls Try.prog 57 #[.slice a n c, .slice b m d] w fun e w' => e = .returned (.bool (eqL xs ys)) ∧ ∃ q, w' = w.drewN q := by
  have e1 := run_convert_row hx
  have e2 := run_convert_row hy
  have hfx := hx.2.2.2.1
  have hfy := hy.2.2.2.1
  have he : ((strOfNums xs).toList == (strOfNums ys).toList) = eqL xs ys := by
    rw [Bool.eq_iff_iff]
    simp only [eqL, decide_eq_true_eq, beq_iff_eq]
    exact ⟨strOfNums_inj hfx hfy, fun e => by rw [e]⟩
  clear hx hy hfx hfy
  go_enter Try.func57, Try.ntmps57
  go_wp2
  go_ret
  exact ⟨rfl, 0, rfl⟩

end Go.Proofs.Qxb6604092a
