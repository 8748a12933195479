/- Plain law of decimal digits: multiplication by one pass equals repeated doubling. No Go in sight. -/
namespace Go.Proofs.Qxb6604181a

/-- The value of a byte as a digit. -/
def dg (z : Int) : Nat := (z - 48).toNat
/-- The value of a list of digits, the first the highest. -/
def val : List Int → Nat
  | [] => 0
  | z :: L => dg z * 10 ^ L.length + val L
def Dig (L : List Int) : Prop := ∀ z ∈ L, 48 ≤ z ∧ z ≤ 57

theorem Dig.tail {z : Int} {L : List Int} (h : Dig (z :: L)) : Dig L := fun y hy => h y (List.mem_cons_of_mem _ hy)
theorem Dig.head {z : Int} {L : List Int} (h : Dig (z :: L)) : 48 ≤ z ∧ z ≤ 57 := h z (List.mem_cons_self ..)
theorem Dig.cons {z : Int} {L : List Int} (h1 : 48 ≤ z) (h2 : z ≤ 57) (h : Dig L) : Dig (z :: L) := by
  intro y hy
  rcases List.mem_cons.1 hy with rfl | hy
  · exact ⟨h1, h2⟩
  · exact h y hy
theorem dg_le {z : Int} (h : z ≤ 57) : dg z ≤ 9 := by unfold dg; omega

theorem val_lt : ∀ {L : List Int}, Dig L → val L < 10 ^ L.length
  | [], _ => by simp [val]
  | z :: L, h => by
    have h1 := val_lt h.tail
    have h2 := dg_le h.head.2
    have h3 : dg z * 10 ^ L.length ≤ 9 * 10 ^ L.length := Nat.mul_le_mul_right _ h2
    simp only [val, List.length_cons, Nat.pow_succ]
    omega

theorem val_inj : ∀ {L M : List Int}, Dig L → Dig M → L.length = M.length → val L = val M → L = M
  | [], [], _, _, _, _ => rfl
  | [], _ :: _, _, _, h, _ => by simp at h
  | _ :: _, [], _, _, h, _ => by simp at h
  | z :: L, y :: M, hL, hM, hl, hv => by
    have hl' : L.length = M.length := by simpa using hl
    have h1 := val_lt hL.tail
    have h2 := val_lt hM.tail
    have hz := hL.head
    have hy := hM.head
    simp only [val] at hv
    rw [← hl'] at hv h2
    have hp : 0 < 10 ^ L.length := Nat.pow_pos (by omega)
    have hd : dg z = dg y := by
      have e1 : (dg z * 10 ^ L.length + val L) / 10 ^ L.length = dg z := by
        rw [Nat.mul_comm, Nat.mul_add_div hp, Nat.div_eq_of_lt h1]; omega
      have e2 : (dg y * 10 ^ L.length + val M) / 10 ^ L.length = dg y := by
        rw [Nat.mul_comm, Nat.mul_add_div hp, Nat.div_eq_of_lt h2]; omega
      rw [← e1, ← e2, hv]
    have hzy : z = y := by unfold dg at hd; omega
    subst hzy
    have : val L = val M := by omega
    rw [val_inj hL.tail hM.tail hl' this]

/-- L writes V in the width n, or in more where V wants more. -/
def Fit (n V : Nat) (L : List Int) : Prop := Dig L ∧ val L = V ∧ (L.length = n ∨ (n < L.length ∧ 10 ^ (L.length - 1) ≤ V))

theorem Fit.le {n V : Nat} {L : List Int} (h : Fit n V L) : n ≤ L.length := by rcases h.2.2 with h | h <;> omega

theorem fit_unique {n V : Nat} {L M : List Int} (h : Fit n V L) (k : Fit n V M) : L = M := by
  refine val_inj h.1 k.1 ?_ (h.2.1.trans k.2.1.symm)
  have h1 := val_lt h.1
  have h2 := val_lt k.1
  rw [h.2.1] at h1
  rw [k.2.1] at h2
  have key : ∀ {a b : Nat}, 10 ^ (a - 1) ≤ V → V < 10 ^ b → a - 1 < b := fun {a b} ha hb => (Nat.pow_lt_pow_iff_right (by omega : 1 < 10)).1 (Nat.lt_of_le_of_lt ha hb)
  rcases h.2.2 with e | ⟨e1, e2⟩ <;> rcases k.2.2 with f | ⟨f1, f2⟩
  · omega
  · have := key f2 h1; omega
  · have := key e2 h2; omega
  · have := key f2 h1
    have := key e2 h2
    omega

theorem dg_of (x : Nat) (_h : x < 10) : dg (48 + (x : Int)) = x := by unfold dg; omega
theorem dig_of (x : Nat) (h : x < 10) : (48 : Int) ≤ 48 + (x : Int) ∧ 48 + (x : Int) ≤ 57 := by omega

theorem mul_step {m c : Nat} {R D : List Int} {d : Int} (hl : R.length = D.length) (h : val R + c * 10 ^ R.length = val D * m) :
    val ((48 + (((dg d * m + c) % 10 : Nat) : Int)) :: R) + (dg d * m + c) / 10 * 10 ^ (R.length + 1) = val (d :: D) * m := by
  simp only [val]
  rw [dg_of _ (Nat.mod_lt _ (by omega)), ← hl, Nat.pow_succ, Nat.add_mul, ← h]
  generalize 10 ^ R.length = P
  generalize hx : dg d * m + c = x
  have e : x % 10 * P + x / 10 * (P * 10) = x * P := by
    have : x / 10 * (P * 10) = 10 * (x / 10) * P := by rw [Nat.mul_comm P 10, ← Nat.mul_assoc, Nat.mul_comm (x / 10) 10]
    rw [this, ← Nat.add_mul, Nat.mod_add_div]
  have e2 : x * P = dg d * P * m + c * P := by rw [← hx, Nat.add_mul, Nat.mul_assoc, Nat.mul_comm m P, ← Nat.mul_assoc]
  omega

theorem carry_lt {m c : Nat} {d : Int} (h : d ≤ 57) (hc : c < m) : (dg d * m + c) / 10 < m := by
  have h2 := dg_le h
  have h3 : dg d * m ≤ 9 * m := Nat.mul_le_mul_right _ h2
  omega

/-- What the tail of the pass keeps: the carry's digits go in front. -/
def Going (n V c : Nat) (R : List Int) : Prop := Dig R ∧ val R + c * 10 ^ R.length = V ∧ (R.length = n ∨ (n < R.length ∧ 10 ^ (R.length - 1) ≤ V))

theorem Going.done {n V : Nat} {R : List Int} (h : Going n V 0 R) : Fit n V R := ⟨h.1, by simpa using h.2.1, h.2.2⟩
theorem Going.step {n V c : Nat} {R : List Int} (h : Going n V c R) (hc : 0 < c) : Going n V (c / 10) ((48 + ((c % 10 : Nat) : Int)) :: R) := by
  obtain ⟨h1, h2, h3⟩ := h
  have hd := dig_of (c % 10) (Nat.mod_lt _ (by omega))
  refine ⟨h1.cons hd.1 hd.2, ?_, .inr ⟨by simp only [List.length_cons]; rcases h3 with h | h <;> omega, ?_⟩⟩
  · simp only [val, List.length_cons]
    rw [dg_of _ (Nat.mod_lt _ (by omega)), Nat.pow_succ]
    rw [← h2]
    generalize 10 ^ R.length = P
    have e : c % 10 * P + c / 10 * (P * 10) = c * P := by
      have : c / 10 * (P * 10) = 10 * (c / 10) * P := by rw [Nat.mul_comm P 10, ← Nat.mul_assoc, Nat.mul_comm (c / 10) 10]
      rw [this, ← Nat.add_mul, Nat.mod_add_div]
    omega
  · simp only [List.length_cons, Nat.add_sub_cancel]
    have : 1 * 10 ^ R.length ≤ c * 10 ^ R.length := Nat.mul_le_mul_right _ hc
    omega

theorem fit_start {L : List Int} (h : Dig L) : Fit L.length (val L) L := ⟨h, rfl, .inl rfl⟩

theorem fit_double0 {n V : Nat} {L R : List Int} (h : Fit n V L) (hR : Dig R) (hl : R.length = L.length) (hv : val R + 0 * 10 ^ R.length = val L * 2) : Fit n (V * 2) R := by
  obtain ⟨h1, h2, h3⟩ := h
  refine ⟨hR, by rw [h2] at hv; omega, ?_⟩
  rw [hl]
  rcases h3 with h3 | h3
  · exact .inl h3
  · exact .inr ⟨h3.1, by omega⟩
theorem fit_double1 {n V : Nat} {L R : List Int} (h : Fit n V L) (hR : Dig R) (hl : R.length = L.length) (hv : val R + 1 * 10 ^ R.length = val L * 2) : Fit n (V * 2) (49 :: R) := by
  have hle := h.le
  obtain ⟨h1, h2, _⟩ := h
  refine ⟨hR.cons (by omega) (by omega), ?_, .inr ⟨by simp only [List.length_cons]; omega, ?_⟩⟩
  · rw [h2] at hv
    have : dg 49 = 1 := by decide
    simp only [val, this]; omega
  · rw [h2] at hv
    simp only [List.length_cons, Nat.add_sub_cancel]; omega
end Go.Proofs.Qxb6604181a
