import Derived.Test.Qxb6604092aSame
namespace Go.Proofs.Qxb6604092a
open Go.RowKit

theorem bool_ne {a b : Bool} (h : ¬ a = b) : (a = true ∧ b = false) ∨ (a = false ∧ b = true) := by
  cases a <;> cases b <;> simp_all
/-- The two entries are alike, nil and empty told apart. -/
def gotB (e f : Ent) : Bool := decide (e.dn = f.dn) && (decide (e.mn = f.mn) && sameE e f)

set_option maxRecDepth 20000 in
set_option maxHeartbeats 2000000 in
theorem sameHEntry (v0 v1 v2 v3 u0 u1 u2 u3 : Value) (e f : Ent) (w : World) (L B L' B' : Nat) (h : EntV w L B v0 v1 v2 v3 e) (k : EntV w L' B' u0 u1 u2 u3 f) (hB : B ≤ w.heap.size) (hB' : B' ≤ w.heap.size) :
    Calls Try.prog 41 #[.agg #[v0, v1, v2, v3], .agg #[u0, u1, u2, u3]] w fun r w' => r = .returned (.bool (gotB e f)) ∧ Below w.heap.size w w' := by
  have hk := fun (o : Obj) (o' : Obj) => Keeps.of_below (L := 0) (((Below.refl w.heap.size w).alloc (Nat.le_refl _) o).alloc (by simp) o')
  have hbb : ∀ (o o' : Obj) (q : Nat), Below w.heap.size w (((w.alloc o).alloc o').drewN q) := fun o o' q => below_drewN (((Below.refl w.heap.size w).alloc (Nat.le_refl _) o).alloc (by simp) o') q
  have n1 := fun w a n c => Lib.run_eql_slice_nil (P := Try.prog) w 46 5 a n c 0 0 Try.underlying46
  have n2' := fun w a n c => Lib.run_eql_slice_nil (P := Try.prog) w 39 99 a n c 0 0 Try.underlying39
  obtain ⟨da, dl, dc, ma, ml, mc, rfl, rfl, rfl, rfl, r1, r2, r3, r4, r5, r6⟩ := h
  obtain ⟨da', dl', dc', ma', ml', mc', rfl, rfl, rfl, rfl, s1, s2, s3, s4, s5, s6⟩ := k
  have R1 : ∀ (o o' : Obj) (q : Nat), RowAt (((w.alloc o).alloc o').drewN q) L B .u8 da dl dc e.data := fun o o' q => (r1.keep ((hk o o').mono (Nat.zero_le _) hB) (Nat.le_refl _) (Nat.le_refl _)).drewN q
  have S1 : ∀ (o o' : Obj) (q : Nat), RowAt (((w.alloc o).alloc o').drewN q) L' B' .u8 da' dl' dc' f.data := fun o o' q => (s1.keep ((hk o o').mono (Nat.zero_le _) hB') (Nat.le_refl _) (Nat.le_refl _)).drewN q
  have R3 : ∀ (o o' : Obj) (q : Nat), RowAt (((w.alloc o).alloc o').drewN q) L B .u64 ma ml mc e.mems := fun o o' q => (r3.keep ((hk o o').mono (Nat.zero_le _) hB) (Nat.le_refl _) (Nat.le_refl _)).drewN q
  have S3 : ∀ (o o' : Obj) (q : Nat), RowAt (((w.alloc o).alloc o').drewN q) L' B' .u64 ma' ml' mc' f.mems := fun o o' q => (s3.keep ((hk o o').mono (Nat.zero_le _) hB') (Nat.le_refl _) (Nat.le_refl _)).drewN q
  unfold gotB sameE
  rw [← r2, ← r4, ← s2, ← s4]
  clear hk r1 r3 s1 s3 r2 r4 s2 s4
  generalize hx1 : da.isNone = x1
  generalize hx2 : da'.isNone = x2
  generalize hx3 : ma.isNone = x3
  generalize hx4 : ma'.isNone = x4
  by_cases e1 : x1 = x2
  · subst e1
    rw [decide_eq_true rfl, Bool.true_and]
    by_cases e2 : x3 = x4
    · subst e2
      rw [decide_eq_true rfl, Bool.true_and]
      by_cases g1 : e.term = f.term
      · have g1' : (e.term == f.term) = true := by simpa using g1
        rw [decide_eq_true g1, Bool.true_and]
        cases g2 : eqL e.data f.data with
        | false =>
          rw [Bool.false_and]
          go_enter Try.func41, Try.ntmps41
          go_wp2_with (first | (go_at_call 49; refine (bytesEq _ _ _ _ _ _ _ _ _ L B L' B' (R1 _ _ 0) (S1 _ _ 0)).mono ?_; rintro _ w1 ⟨rfl, q1, rfl⟩) | (go_at_call 42; refine (idsEq _ _ _ _ _ _ _ _ _ L B L' B' (R3 _ _ q1) (S3 _ _ q1)).mono ?_; rintro _ w1 ⟨rfl, q2, rfl⟩))
          go_ret
          exact ⟨rfl, hbb _ _ _⟩
        | true =>
          rw [Bool.true_and]
          cases g3 : eqL e.mems f.mems with
          | false =>
            rw [Bool.false_and]
            go_enter Try.func41, Try.ntmps41
            go_wp2_with (first | (go_at_call 49; refine (bytesEq _ _ _ _ _ _ _ _ _ L B L' B' (R1 _ _ 0) (S1 _ _ 0)).mono ?_; rintro _ w1 ⟨rfl, q1, rfl⟩) | (go_at_call 42; refine (idsEq _ _ _ _ _ _ _ _ _ L B L' B' (R3 _ _ q1) (S3 _ _ q1)).mono ?_; rintro _ w1 ⟨rfl, q2, rfl⟩))
            go_ret
            exact ⟨rfl, hbb _ _ _⟩
          | true =>
            rw [Bool.true_and]
            go_enter Try.func41, Try.ntmps41
            go_wp2_with (first | (go_at_call 49; refine (bytesEq _ _ _ _ _ _ _ _ _ L B L' B' (R1 _ _ 0) (S1 _ _ 0)).mono ?_; rintro _ w1 ⟨rfl, q1, rfl⟩) | (go_at_call 42; refine (idsEq _ _ _ _ _ _ _ _ _ L B L' B' (R3 _ _ q1) (S3 _ _ q1)).mono ?_; rintro _ w1 ⟨rfl, q2, rfl⟩))
            go_ret
            exact ⟨ret_bool (by rw [Bool.eq_iff_iff]; simp), hbb _ _ _⟩
      · have g1' : (e.term == f.term) = false := by simpa using g1
        rw [decide_eq_false g1, Bool.false_and]
        go_enter Try.func41, Try.ntmps41
        go_wp2
        go_ret
        exact ⟨rfl, hbb _ _ 0⟩
    · rw [decide_eq_false e2, Bool.false_and]
      rcases bool_ne e2 with ⟨rfl, rfl⟩ | ⟨rfl, rfl⟩
      all_goals
        clear e2
        go_enter Try.func41, Try.ntmps41
        go_wp2
        go_ret
        exact ⟨rfl, hbb _ _ 0⟩
  · rw [decide_eq_false e1, Bool.false_and]
    rcases bool_ne e1 with ⟨rfl, rfl⟩ | ⟨rfl, rfl⟩
    all_goals
      clear e1
      go_enter Try.func41, Try.ntmps41
      go_wp2
      go_ret
      exact ⟨rfl, hbb _ _ 0⟩

set_option maxRecDepth 20000 in
set_option maxHeartbeats 2000000 in
theorem gotIsEnt (v0 v1 v2 v3 u0 u1 u2 u3 : Value) (e f : Ent) (w : World) (L B L' B' : Nat) (h : EntV w L B v0 v1 v2 v3 e) (k : EntV w L' B' u0 u1 u2 u3 f) (hB : B ≤ w.heap.size) (hB' : B' ≤ w.heap.size) :
    Calls Try.prog 15 #[.agg #[v0, v1, v2, v3], .agg #[u0, u1, u2, u3]] w fun r w' => r = .returned (.bool (gotB e f)) ∧ Below w.heap.size w w' := by
  have hk := fun (o : Obj) (o' : Obj) => Keeps.of_below (L := 0) (((Below.refl w.heap.size w).alloc (Nat.le_refl _) o).alloc (by simp) o')
  have hbb : ∀ (o o' : Obj) (q : Nat), Below w.heap.size w (((w.alloc o).alloc o').drewN q) := fun o o' q => below_drewN (((Below.refl w.heap.size w).alloc (Nat.le_refl _) o).alloc (by simp) o') q
  have n1 := fun w a n c => Lib.run_eql_slice_nil (P := Try.prog) w 46 5 a n c 0 0 Try.underlying46
  have n2' := fun w a n c => Lib.run_eql_slice_nil (P := Try.prog) w 39 99 a n c 0 0 Try.underlying39
  have n3' := fun w a n c => Lib.run_eql_slice_nil (P := Try.prog) w 36 26 a n c 0 0 Try.underlying36
  obtain ⟨da, dl, dc, ma, ml, mc, rfl, rfl, rfl, rfl, r1, r2, r3, r4, r5, r6⟩ := h
  obtain ⟨da', dl', dc', ma', ml', mc', rfl, rfl, rfl, rfl, s1, s2, s3, s4, s5, s6⟩ := k
  have R1 : ∀ (o o' : Obj) (q : Nat), RowAt (((w.alloc o).alloc o').drewN q) L B .u8 da dl dc e.data := fun o o' q => (r1.keep ((hk o o').mono (Nat.zero_le _) hB) (Nat.le_refl _) (Nat.le_refl _)).drewN q
  have S1 : ∀ (o o' : Obj) (q : Nat), RowAt (((w.alloc o).alloc o').drewN q) L' B' .u8 da' dl' dc' f.data := fun o o' q => (s1.keep ((hk o o').mono (Nat.zero_le _) hB') (Nat.le_refl _) (Nat.le_refl _)).drewN q
  have R3 : ∀ (o o' : Obj) (q : Nat), RowAt (((w.alloc o).alloc o').drewN q) L B .u64 ma ml mc e.mems := fun o o' q => (r3.keep ((hk o o').mono (Nat.zero_le _) hB) (Nat.le_refl _) (Nat.le_refl _)).drewN q
  have S3 : ∀ (o o' : Obj) (q : Nat), RowAt (((w.alloc o).alloc o').drewN q) L' B' .u64 ma' ml' mc' f.mems := fun o o' q => (s3.keep ((hk o o').mono (Nat.zero_le _) hB') (Nat.le_refl _) (Nat.le_refl _)).drewN q
  unfold gotB sameE
  rw [← r2, ← r4, ← s2, ← s4]
  clear hk r1 r3 s1 s3 r2 r4 s2 s4
  generalize hx1 : da.isNone = x1
  generalize hx2 : da'.isNone = x2
  generalize hx3 : ma.isNone = x3
  generalize hx4 : ma'.isNone = x4
  by_cases e1 : x1 = x2
  · subst e1
    rw [decide_eq_true rfl, Bool.true_and]
    by_cases e2 : x3 = x4
    · subst e2
      rw [decide_eq_true rfl, Bool.true_and]
      by_cases g1 : e.term = f.term
      · have g1' : (e.term == f.term) = true := by simpa using g1
        rw [decide_eq_true g1, Bool.true_and]
        cases g2 : eqL e.data f.data with
        | false =>
          rw [Bool.false_and]
          go_enter Try.func15, Try.ntmps15
          go_wp2_with (first | (go_at_call 49; refine (bytesEq _ _ _ _ _ _ _ _ _ L B L' B' (R1 _ _ 0) (S1 _ _ 0)).mono ?_; rintro _ w1 ⟨rfl, q1, rfl⟩) | (go_at_call 38; refine (idsEqU _ _ _ _ _ _ _ _ _ L B L' B' (R3 _ _ q1) (S3 _ _ q1)).mono ?_; rintro _ w1 ⟨rfl, q2, rfl⟩))
          go_ret
          exact ⟨rfl, hbb _ _ _⟩
        | true =>
          rw [Bool.true_and]
          cases g3 : eqL e.mems f.mems with
          | false =>
            rw [Bool.false_and]
            go_enter Try.func15, Try.ntmps15
            go_wp2_with (first | (go_at_call 49; refine (bytesEq _ _ _ _ _ _ _ _ _ L B L' B' (R1 _ _ 0) (S1 _ _ 0)).mono ?_; rintro _ w1 ⟨rfl, q1, rfl⟩) | (go_at_call 38; refine (idsEqU _ _ _ _ _ _ _ _ _ L B L' B' (R3 _ _ q1) (S3 _ _ q1)).mono ?_; rintro _ w1 ⟨rfl, q2, rfl⟩))
            go_ret
            exact ⟨rfl, hbb _ _ _⟩
          | true =>
            rw [Bool.true_and]
            go_enter Try.func15, Try.ntmps15
            go_wp2_with (first | (go_at_call 49; refine (bytesEq _ _ _ _ _ _ _ _ _ L B L' B' (R1 _ _ 0) (S1 _ _ 0)).mono ?_; rintro _ w1 ⟨rfl, q1, rfl⟩) | (go_at_call 38; refine (idsEqU _ _ _ _ _ _ _ _ _ L B L' B' (R3 _ _ q1) (S3 _ _ q1)).mono ?_; rintro _ w1 ⟨rfl, q2, rfl⟩))
            go_ret
            exact ⟨ret_bool (by rw [Bool.eq_iff_iff]; simp), hbb _ _ _⟩
      · have g1' : (e.term == f.term) = false := by simpa using g1
        rw [decide_eq_false g1, Bool.false_and]
        go_enter Try.func15, Try.ntmps15
        go_wp2
        go_ret
        exact ⟨rfl, hbb _ _ 0⟩
    · rw [decide_eq_false e2, Bool.false_and]
      rcases bool_ne e2 with ⟨rfl, rfl⟩ | ⟨rfl, rfl⟩
      all_goals
        clear e2
        go_enter Try.func15, Try.ntmps15
        go_wp2
        go_ret
        exact ⟨rfl, hbb _ _ 0⟩
  · rw [decide_eq_false e1, Bool.false_and]
    rcases bool_ne e1 with ⟨rfl, rfl⟩ | ⟨rfl, rfl⟩
    all_goals
      clear e1
      go_enter Try.func15, Try.ntmps15
      go_wp2
      go_ret
      exact ⟨rfl, hbb _ _ 0⟩

set_option maxRecDepth 20000 in
set_option maxHeartbeats 2000000 in
theorem gotIsCall (i2 n2 : Int) (v0 v1 v2 v3 u0 u1 u2 u3 : Value) (e f : Ent) (w : World) (L B L' B' : Nat) (h : EntV w L B v0 v1 v2 v3 e) (k : EntV w L' B' u0 u1 u2 u3 f) (hB : B ≤ w.heap.size) (hB' : B' ≤ w.heap.size) :
    Calls Try.prog 30 #[.agg #[v0, v1, v2, v3], .agg #[.int .u64 i2, u0, u1, u2, u3, .int .u64 n2]] w fun r w' => r = .returned (.bool (gotB e f)) ∧ Below w.heap.size w w' := by
  have hk := fun (o : Obj) (o' : Obj) => Keeps.of_below (L := 0) (((Below.refl w.heap.size w).alloc (Nat.le_refl _) o).alloc (by simp) o')
  have hbb : ∀ (o o' : Obj) (q : Nat), Below w.heap.size w (((w.alloc o).alloc o').drewN q) := fun o o' q => below_drewN (((Below.refl w.heap.size w).alloc (Nat.le_refl _) o).alloc (by simp) o') q
  have n1 := fun w a n c => Lib.run_eql_slice_nil (P := Try.prog) w 46 5 a n c 0 0 Try.underlying46
  have n2' := fun w a n c => Lib.run_eql_slice_nil (P := Try.prog) w 39 99 a n c 0 0 Try.underlying39
  have n3' := fun w a n c => Lib.run_eql_slice_nil (P := Try.prog) w 36 26 a n c 0 0 Try.underlying36
  obtain ⟨da, dl, dc, ma, ml, mc, rfl, rfl, rfl, rfl, r1, r2, r3, r4, r5, r6⟩ := h
  obtain ⟨da', dl', dc', ma', ml', mc', rfl, rfl, rfl, rfl, s1, s2, s3, s4, s5, s6⟩ := k
  have R1 : ∀ (o o' : Obj) (q : Nat), RowAt (((w.alloc o).alloc o').drewN q) L B .u8 da dl dc e.data := fun o o' q => (r1.keep ((hk o o').mono (Nat.zero_le _) hB) (Nat.le_refl _) (Nat.le_refl _)).drewN q
  have S1 : ∀ (o o' : Obj) (q : Nat), RowAt (((w.alloc o).alloc o').drewN q) L' B' .u8 da' dl' dc' f.data := fun o o' q => (s1.keep ((hk o o').mono (Nat.zero_le _) hB') (Nat.le_refl _) (Nat.le_refl _)).drewN q
  have R3 : ∀ (o o' : Obj) (q : Nat), RowAt (((w.alloc o).alloc o').drewN q) L B .u64 ma ml mc e.mems := fun o o' q => (r3.keep ((hk o o').mono (Nat.zero_le _) hB) (Nat.le_refl _) (Nat.le_refl _)).drewN q
  have S3 : ∀ (o o' : Obj) (q : Nat), RowAt (((w.alloc o).alloc o').drewN q) L' B' .u64 ma' ml' mc' f.mems := fun o o' q => (s3.keep ((hk o o').mono (Nat.zero_le _) hB') (Nat.le_refl _) (Nat.le_refl _)).drewN q
  unfold gotB sameE
  rw [← r2, ← r4, ← s2, ← s4]
  clear hk r1 r3 s1 s3 r2 r4 s2 s4
  generalize hx1 : da.isNone = x1
  generalize hx2 : da'.isNone = x2
  generalize hx3 : ma.isNone = x3
  generalize hx4 : ma'.isNone = x4
  by_cases e1 : x1 = x2
  · subst e1
    rw [decide_eq_true rfl, Bool.true_and]
    by_cases e2 : x3 = x4
    · subst e2
      rw [decide_eq_true rfl, Bool.true_and]
      by_cases g1 : e.term = f.term
      · have g1' : (e.term == f.term) = true := by simpa using g1
        rw [decide_eq_true g1, Bool.true_and]
        cases g2 : eqL e.data f.data with
        | false =>
          rw [Bool.false_and]
          go_enter Try.func30, Try.ntmps30
          go_wp2_with (first | (go_at_call 49; refine (bytesEq _ _ _ _ _ _ _ _ _ L B L' B' (R1 _ _ 0) (S1 _ _ 0)).mono ?_; rintro _ w1 ⟨rfl, q1, rfl⟩) | (go_at_call 38; refine (idsEqU _ _ _ _ _ _ _ _ _ L B L' B' (R3 _ _ q1) (S3 _ _ q1)).mono ?_; rintro _ w1 ⟨rfl, q2, rfl⟩))
          go_ret
          exact ⟨rfl, hbb _ _ _⟩
        | true =>
          rw [Bool.true_and]
          cases g3 : eqL e.mems f.mems with
          | false =>
            rw [Bool.false_and]
            go_enter Try.func30, Try.ntmps30
            go_wp2_with (first | (go_at_call 49; refine (bytesEq _ _ _ _ _ _ _ _ _ L B L' B' (R1 _ _ 0) (S1 _ _ 0)).mono ?_; rintro _ w1 ⟨rfl, q1, rfl⟩) | (go_at_call 38; refine (idsEqU _ _ _ _ _ _ _ _ _ L B L' B' (R3 _ _ q1) (S3 _ _ q1)).mono ?_; rintro _ w1 ⟨rfl, q2, rfl⟩))
            go_ret
            exact ⟨rfl, hbb _ _ _⟩
          | true =>
            rw [Bool.true_and]
            go_enter Try.func30, Try.ntmps30
            go_wp2_with (first | (go_at_call 49; refine (bytesEq _ _ _ _ _ _ _ _ _ L B L' B' (R1 _ _ 0) (S1 _ _ 0)).mono ?_; rintro _ w1 ⟨rfl, q1, rfl⟩) | (go_at_call 38; refine (idsEqU _ _ _ _ _ _ _ _ _ L B L' B' (R3 _ _ q1) (S3 _ _ q1)).mono ?_; rintro _ w1 ⟨rfl, q2, rfl⟩))
            go_ret
            exact ⟨ret_bool (by rw [Bool.eq_iff_iff]; simp), hbb _ _ _⟩
      · have g1' : (e.term == f.term) = false := by simpa using g1
        rw [decide_eq_false g1, Bool.false_and]
        go_enter Try.func30, Try.ntmps30
        go_wp2
        go_ret
        exact ⟨rfl, hbb _ _ 0⟩
    · rw [decide_eq_false e2, Bool.false_and]
      rcases bool_ne e2 with ⟨rfl, rfl⟩ | ⟨rfl, rfl⟩
      all_goals
        clear e2
        go_enter Try.func30, Try.ntmps30
        go_wp2
        go_ret
        exact ⟨rfl, hbb _ _ 0⟩
  · rw [decide_eq_false e1, Bool.false_and]
    rcases bool_ne e1 with ⟨rfl, rfl⟩ | ⟨rfl, rfl⟩
    all_goals
      clear e1
      go_enter Try.func30, Try.ntmps30
      go_wp2
      go_ret
      exact ⟨rfl, hbb _ _ 0⟩

end Go.Proofs.Qxb6604092a
