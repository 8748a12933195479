import Derived.Test.Qxb6604092aEqs
import Derived.WalkSmall
namespace Go.Proofs.Qxb6604092a
open Go.RowKit

def sameE (e f : Ent) : Bool := decide (e.term = f.term) && (eqL e.data f.data && (eqL e.mems f.mems && decide (e.addr.toList = f.addr.toList)))
theorem ret_bool {a b : Bool} (h : a = b) : Ending.returned (.bool a) = .returned (.bool b) := by rw [h]

set_option maxHeartbeats 1000000 in
theorem sameEnt (v0 v1 v2 v3 u0 u1 u2 u3 : Value) (e f : Ent) (w : World) (L B L' B' : Nat) (h : EntV w L B v0 v1 v2 v3 e) (k : EntV w L' B' u0 u1 u2 u3 f) (hB : B ≤ w.heap.size) (hB' : B' ≤ w.heap.size) :
    Calls Try.prog 47 #[.agg #[v0, v1, v2, v3], .agg #[u0, u1, u2, u3]] w fun r w' => r = .returned (.bool (sameE e f)) ∧ Below w.heap.size w w' := by
  have hk := fun (o : Obj) (o' : Obj) => Keeps.of_below (L := 0) (((Below.refl w.heap.size w).alloc (Nat.le_refl _) o).alloc (by simp) o')
  have hbb : ∀ (o o' : Obj) (q : Nat), Below w.heap.size w (((w.alloc o).alloc o').drewN q) := fun o o' q => below_drewN (((Below.refl w.heap.size w).alloc (Nat.le_refl _) o).alloc (by simp) o') q
  obtain ⟨da, dl, dc, ma, ml, mc, rfl, rfl, rfl, rfl, r1, r2, r3, r4, r5, r6⟩ := h
  obtain ⟨da', dl', dc', ma', ml', mc', rfl, rfl, rfl, rfl, s1, s2, s3, s4, s5, s6⟩ := k
  have R1 : ∀ (o o' : Obj) (q : Nat), RowAt (((w.alloc o).alloc o').drewN q) L B .u8 da dl dc e.data := fun o o' q => (r1.keep ((hk o o').mono (Nat.zero_le _) hB) (Nat.le_refl _) (Nat.le_refl _)).drewN q
  have S1 : ∀ (o o' : Obj) (q : Nat), RowAt (((w.alloc o).alloc o').drewN q) L' B' .u8 da' dl' dc' f.data := fun o o' q => (s1.keep ((hk o o').mono (Nat.zero_le _) hB') (Nat.le_refl _) (Nat.le_refl _)).drewN q
  have R3 : ∀ (o o' : Obj) (q : Nat), RowAt (((w.alloc o).alloc o').drewN q) L B .u64 ma ml mc e.mems := fun o o' q => (r3.keep ((hk o o').mono (Nat.zero_le _) hB) (Nat.le_refl _) (Nat.le_refl _)).drewN q
  have S3 : ∀ (o o' : Obj) (q : Nat), RowAt (((w.alloc o).alloc o').drewN q) L' B' .u64 ma' ml' mc' f.mems := fun o o' q => (s3.keep ((hk o o').mono (Nat.zero_le _) hB') (Nat.le_refl _) (Nat.le_refl _)).drewN q
  unfold sameE
  clear hk r1 r3 s1 s3
  by_cases g1 : e.term = f.term
  · have g1' : (e.term == f.term) = true := by simpa using g1
    rw [decide_eq_true g1, Bool.true_and]
    cases g2 : eqL e.data f.data with
    | false =>
      rw [Bool.false_and]
      go_enter Try.func47, Try.ntmps47
      go_wp2_with (first | (go_at_call 49; refine (bytesEq _ _ _ _ _ _ _ _ _ L B L' B' (R1 _ _ 0) (S1 _ _ 0)).mono ?_; rintro _ w1 ⟨rfl, q1, rfl⟩))
      go_ret
      exact ⟨rfl, hbb _ _ _⟩
    | true =>
      rw [Bool.true_and]
      cases g3 : eqL e.mems f.mems with
      | false =>
        rw [Bool.false_and]
        go_enter Try.func47, Try.ntmps47
        go_wp2_with (first | (go_at_call 49; refine (bytesEq _ _ _ _ _ _ _ _ _ L B L' B' (R1 _ _ 0) (S1 _ _ 0)).mono ?_; rintro _ w1 ⟨rfl, q1, rfl⟩) | (go_at_call 56; refine (u64Eq _ _ _ _ _ _ _ _ _ L B L' B' (R3 _ _ q1) (S3 _ _ q1)).mono ?_; rintro _ w1 ⟨rfl, q2, rfl⟩))
        go_ret
        exact ⟨rfl, hbb _ _ _⟩
      | true =>
        rw [Bool.true_and]
        go_enter Try.func47, Try.ntmps47
        go_wp2_with (first | (go_at_call 49; refine (bytesEq _ _ _ _ _ _ _ _ _ L B L' B' (R1 _ _ 0) (S1 _ _ 0)).mono ?_; rintro _ w1 ⟨rfl, q1, rfl⟩) | (go_at_call 56; refine (u64Eq _ _ _ _ _ _ _ _ _ L B L' B' (R3 _ _ q1) (S3 _ _ q1)).mono ?_; rintro _ w1 ⟨rfl, q2, rfl⟩))
        go_ret
        exact ⟨ret_bool (by rw [Bool.eq_iff_iff]; simp), hbb _ _ _⟩
  · have g1' : (e.term == f.term) = false := by simpa using g1
    rw [decide_eq_false g1, Bool.false_and]
    go_enter Try.func47, Try.ntmps47
    go_wp2
    go_ret
    exact ⟨rfl, hbb _ _ 0⟩

set_option maxHeartbeats 1000000 in
theorem sameEntry (v0 v1 v2 v3 u0 u1 u2 u3 : Value) (e f : Ent) (w : World) (L B L' B' : Nat) (h : EntV w L B v0 v1 v2 v3 e) (k : EntV w L' B' u0 u1 u2 u3 f) (hB : B ≤ w.heap.size) (hB' : B' ≤ w.heap.size) :
    Calls Try.prog 55 #[.agg #[v0, v1, v2, v3], .agg #[u0, u1, u2, u3]] w fun r w' => r = .returned (.bool (sameE e f)) ∧ Below w.heap.size w w' := by
  have hk := fun (o : Obj) (o' : Obj) => Keeps.of_below (L := 0) (((Below.refl w.heap.size w).alloc (Nat.le_refl _) o).alloc (by simp) o')
  have hbb : ∀ (o o' : Obj) (q : Nat), Below w.heap.size w (((w.alloc o).alloc o').drewN q) := fun o o' q => below_drewN (((Below.refl w.heap.size w).alloc (Nat.le_refl _) o).alloc (by simp) o') q
  obtain ⟨da, dl, dc, ma, ml, mc, rfl, rfl, rfl, rfl, r1, r2, r3, r4, r5, r6⟩ := h
  obtain ⟨da', dl', dc', ma', ml', mc', rfl, rfl, rfl, rfl, s1, s2, s3, s4, s5, s6⟩ := k
  have R1 : ∀ (o o' : Obj) (q : Nat), RowAt (((w.alloc o).alloc o').drewN q) L B .u8 da dl dc e.data := fun o o' q => (r1.keep ((hk o o').mono (Nat.zero_le _) hB) (Nat.le_refl _) (Nat.le_refl _)).drewN q
  have S1 : ∀ (o o' : Obj) (q : Nat), RowAt (((w.alloc o).alloc o').drewN q) L' B' .u8 da' dl' dc' f.data := fun o o' q => (s1.keep ((hk o o').mono (Nat.zero_le _) hB') (Nat.le_refl _) (Nat.le_refl _)).drewN q
  have R3 : ∀ (o o' : Obj) (q : Nat), RowAt (((w.alloc o).alloc o').drewN q) L B .u64 ma ml mc e.mems := fun o o' q => (r3.keep ((hk o o').mono (Nat.zero_le _) hB) (Nat.le_refl _) (Nat.le_refl _)).drewN q
  have S3 : ∀ (o o' : Obj) (q : Nat), RowAt (((w.alloc o).alloc o').drewN q) L' B' .u64 ma' ml' mc' f.mems := fun o o' q => (s3.keep ((hk o o').mono (Nat.zero_le _) hB') (Nat.le_refl _) (Nat.le_refl _)).drewN q
  unfold sameE
  clear hk r1 r3 s1 s3
  by_cases g1 : e.term = f.term
  · have g1' : (e.term == f.term) = true := by simpa using g1
    rw [decide_eq_true g1, Bool.true_and]
    cases g2 : eqL e.data f.data with
    | false =>
      rw [Bool.false_and]
      go_enter Try.func55, Try.ntmps55
      go_wp2_with (first | (go_at_call 57; refine (bytesEqual _ _ _ _ _ _ _ _ _ L B L' B' (R1 _ _ 0) (S1 _ _ 0)).mono ?_; rintro _ w1 ⟨rfl, q1, rfl⟩))
      go_ret
      exact ⟨rfl, hbb _ _ _⟩
    | true =>
      rw [Bool.true_and]
      cases g3 : eqL e.mems f.mems with
      | false =>
        rw [Bool.false_and]
        go_enter Try.func55, Try.ntmps55
        go_wp2_with (first | (go_at_call 57; refine (bytesEqual _ _ _ _ _ _ _ _ _ L B L' B' (R1 _ _ 0) (S1 _ _ 0)).mono ?_; rintro _ w1 ⟨rfl, q1, rfl⟩) | (go_at_call 58; refine (slicesEqual _ _ _ _ _ _ _ _ _ L B L' B' (R3 _ _ q1) (S3 _ _ q1)).mono ?_; rintro _ w1 ⟨rfl, q2, rfl⟩))
        go_ret
        exact ⟨rfl, hbb _ _ _⟩
      | true =>
        rw [Bool.true_and]
        go_enter Try.func55, Try.ntmps55
        go_wp2_with (first | (go_at_call 57; refine (bytesEqual _ _ _ _ _ _ _ _ _ L B L' B' (R1 _ _ 0) (S1 _ _ 0)).mono ?_; rintro _ w1 ⟨rfl, q1, rfl⟩) | (go_at_call 58; refine (slicesEqual _ _ _ _ _ _ _ _ _ L B L' B' (R3 _ _ q1) (S3 _ _ q1)).mono ?_; rintro _ w1 ⟨rfl, q2, rfl⟩))
        go_ret
        exact ⟨ret_bool (by rw [Bool.eq_iff_iff]; simp), hbb _ _ _⟩
  · have g1' : (e.term == f.term) = false := by simpa using g1
    rw [decide_eq_false g1, Bool.false_and]
    go_enter Try.func55, Try.ntmps55
    go_wp2
    go_ret
    exact ⟨rfl, hbb _ _ 0⟩

end Go.Proofs.Qxb6604092a
