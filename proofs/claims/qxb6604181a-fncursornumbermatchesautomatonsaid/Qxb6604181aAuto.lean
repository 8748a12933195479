/- The automaton of JSON numbers, plain. No Go in sight. -/
namespace Go.Proofs.Qxb6604181a

/-- One move; below 0 where there is none. -/
def step (s : Nat) (b : Int) : Int :=
  match s with
  | 0 => if b = 45 then 1 else if b = 48 then 2 else if 48 ≤ b ∧ b ≤ 57 then 3 else -1
  | 1 => if b = 48 then 2 else if 48 ≤ b ∧ b ≤ 57 then 3 else -1
  | 2 => if b = 46 then 4 else if b = 101 ∨ b = 69 then 6 else -1
  | 3 => if 48 ≤ b ∧ b ≤ 57 then 3 else if b = 46 then 4 else if b = 101 ∨ b = 69 then 6 else -1
  | 4 => if 48 ≤ b ∧ b ≤ 57 then 5 else -1
  | 5 => if 48 ≤ b ∧ b ≤ 57 then 5 else if b = 101 ∨ b = 69 then 6 else -1
  | 6 => if b = 43 ∨ b = 45 then 7 else if 48 ≤ b ∧ b ≤ 57 then 8 else -1
  | 7 => if 48 ≤ b ∧ b ≤ 57 then 8 else -1
  | 8 => if 48 ≤ b ∧ b ≤ 57 then 8 else -1
  | _ => -1
def acc (s : Nat) : Bool := decide (s = 2 ∨ s = 3 ∨ s = 5 ∨ s = 8)

theorem step_le (s : Nat) (b : Int) : step s b ≤ 8 := by
  unfold step
  repeat' split
  all_goals omega
/-- A byte of 0 (the text's end) never moves. -/
theorem step_zero (s : Nat) : step s 0 = -1 := by
  unfold step
  split <;> simp

/-- Where the walk from p in state s stops, and in which state. -/
def fin (zs : List Int) (p s : Nat) : Nat × Nat :=
  if p < zs.length ∧ 0 ≤ step s (zs.getD p 0) then fin zs (p + 1) (step s (zs.getD p 0)).toNat else (p, s)
termination_by zs.length - p
decreasing_by omega

theorem fin_move {zs : List Int} {p s s' : Nat} (h : step s (zs.getD p 0) = (s' : Int)) : fin zs p s = fin zs (p + 1) s' := by
  have hp : p < zs.length := by
    apply Decidable.byContradiction
    intro hn
    have e : zs.getD p 0 = 0 := by simp [List.getD, List.getElem?_eq_none (by omega : zs.length ≤ p)]
    rw [e, step_zero] at h
    omega
  rw [fin, if_pos ⟨hp, by omega⟩, h]
  simp
theorem fin_stop {zs : List Int} {p s : Nat} (h : step s (zs.getD p 0) < 0) : fin zs p s = (p, s) := by
  rw [fin, if_neg (by omega)]
theorem fin_end {zs : List Int} {p s : Nat} (h : zs.length ≤ p) : fin zs p s = (p, s) := by
  rw [fin, if_neg (by omega)]

/-- Behind the digits at p. -/
def skip (zs : List Int) (p : Nat) : Nat :=
  if p < zs.length ∧ 48 ≤ zs.getD p 0 ∧ zs.getD p 0 ≤ 57 then skip zs (p + 1) else p
termination_by zs.length - p
decreasing_by omega
theorem skip_go {zs : List Int} {p : Nat} (h : 48 ≤ zs.getD p 0 ∧ zs.getD p 0 ≤ 57) : skip zs p = skip zs (p + 1) := by
  have hp : p < zs.length := by
    apply Decidable.byContradiction
    intro hn
    have e : zs.getD p 0 = 0 := by simp [List.getD, List.getElem?_eq_none (by omega : zs.length ≤ p)]
    rw [e] at h
    omega
  rw [skip, if_pos ⟨hp, h⟩]
theorem skip_no {zs : List Int} {p : Nat} (h : ¬ (48 ≤ zs.getD p 0 ∧ zs.getD p 0 ≤ 57)) : skip zs p = p := by
  rw [skip, if_neg (fun hh => h hh.2)]
theorem le_skip (zs : List Int) (p : Nat) : p ≤ skip zs p := by
  rw [skip]
  split
  · have := le_skip zs (p + 1)
    omega
  · exact Nat.le_refl _
termination_by zs.length - p
decreasing_by omega
theorem skip_le (zs : List Int) (p : Nat) (h : p ≤ zs.length) : skip zs p ≤ zs.length := by
  rw [skip]
  split
  · exact skip_le zs (p + 1) (by omega)
  · exact h
termination_by zs.length - p
decreasing_by omega
theorem skip_end (zs : List Int) (p : Nat) : ¬ (48 ≤ zs.getD (skip zs p) 0 ∧ zs.getD (skip zs p) 0 ≤ 57) := by
  by_cases h : p < zs.length ∧ 48 ≤ zs.getD p 0 ∧ zs.getD p 0 ≤ 57
  · rw [skip_go h.2]
    exact skip_end zs (p + 1)
  · have e : skip zs p = p := by rw [skip, if_neg h]
    rw [e]
    intro hh
    refine h ⟨?_, hh⟩
    apply Decidable.byContradiction
    intro hn
    have e : zs.getD p 0 = 0 := by simp [List.getD, List.getElem?_eq_none (by omega : zs.length ≤ p)]
    rw [e] at hh
    omega
termination_by zs.length - p
decreasing_by omega
/-- A state that stays on digits runs over them. -/
theorem fin_skip (zs : List Int) (p s : Nat) (h : ∀ b : Int, 48 ≤ b ∧ b ≤ 57 → step s b = (s : Int)) : fin zs p s = fin zs (skip zs p) s := by
  by_cases hd : p < zs.length ∧ 48 ≤ zs.getD p 0 ∧ zs.getD p 0 ≤ 57
  · rw [fin_move (h _ hd.2), skip_go hd.2]
    exact fin_skip zs (p + 1) s h
  · have e : skip zs p = p := by rw [skip, if_neg hd]
    rw [e]
termination_by zs.length - p
decreasing_by omega
/-- One digit or more from state s0 on. -/
theorem fin_digits {zs : List Int} {p s0 s : Nat} (hp : p < skip zs p) (h0 : step s0 (zs.getD p 0) = (s : Int)) (h : ∀ b : Int, 48 ≤ b ∧ b ≤ 57 → step s b = (s : Int)) : fin zs p s0 = fin zs (skip zs p) s := by
  have hd : 48 ≤ zs.getD p 0 ∧ zs.getD p 0 ≤ 57 := by
    apply Decidable.byContradiction
    intro hn
    rw [skip_no hn] at hp
    omega
  rw [fin_move h0, skip_go hd]
  exact fin_skip zs (p + 1) s h
theorem skip_digit {zs : List Int} {p : Nat} (hp : p < skip zs p) : 48 ≤ zs.getD p 0 ∧ zs.getD p 0 ≤ 57 := by
  apply Decidable.byContradiction
  intro hn
  rw [skip_no hn] at hp
  omega
theorem step3 (b : Int) (h : 48 ≤ b ∧ b ≤ 57) : step 3 b = ((3 : Nat) : Int) := by simp [step, h]
theorem step5 (b : Int) (h : 48 ≤ b ∧ b ≤ 57) : step 5 b = ((5 : Nat) : Int) := by simp [step, h]
theorem step8 (b : Int) (h : 48 ≤ b ∧ b ≤ 57) : step 8 b = ((8 : Nat) : Int) := by simp [step, h]

/-! ### What each part of the reader leaves -/
variable {zs : List Int} {F : Nat × Nat}
/-- Behind the sign. -/
def Signed (zs : List Int) (F : Nat × Nat) (p : Nat) : Prop := ∃ s, fin zs p s = F ∧ ((s = 0 ∧ zs.getD p 0 ≠ 45) ∨ s = 1)
/-- Behind the integer part. -/
def Whole (zs : List Int) (F : Nat × Nat) (p : Nat) : Prop := ∃ s, fin zs p s = F ∧ (s = 2 ∨ (s = 3 ∧ ¬ (48 ≤ zs.getD p 0 ∧ zs.getD p 0 ≤ 57)))
/-- Behind the fraction. -/
def Broken (zs : List Int) (F : Nat × Nat) (p : Nat) : Prop := ∃ s, fin zs p s = F ∧ ((s = 2 ∧ zs.getD p 0 ≠ 46) ∨ (s = 3 ∧ zs.getD p 0 ≠ 46 ∧ ¬ (48 ≤ zs.getD p 0 ∧ zs.getD p 0 ≤ 57)) ∨ (s = 5 ∧ ¬ (48 ≤ zs.getD p 0 ∧ zs.getD p 0 ≤ 57)))
/-- Behind the exponent's sign. -/
def Raised (zs : List Int) (F : Nat × Nat) (p : Nat) : Prop := ∃ s, fin zs p s = F ∧ ((s = 6 ∧ zs.getD p 0 ≠ 43 ∧ zs.getD p 0 ≠ 45) ∨ s = 7)
/-- Read to the end, well formed. -/
def Read (F : Nat × Nat) (p : Nat) : Prop := F.1 = p ∧ acc F.2 = true
/-- Refused there. -/
def Refused (F : Nat × Nat) (p : Nat) : Prop := F.1 = p ∧ acc F.2 = false

theorem signed_yes {p : Nat} (h : fin zs p 0 = F) (hz : zs.getD p 0 = 45) : Signed zs F (p + 1) :=
  ⟨1, by rw [← h]; exact (fin_move (s' := 1) (by rw [hz]; decide)).symm, .inr rfl⟩
theorem signed_no {p : Nat} (h : fin zs p 0 = F) (hz : zs.getD p 0 ≠ 45) : Signed zs F p := ⟨0, h, .inl ⟨rfl, hz⟩⟩
theorem whole_zero {p : Nat} (h : Signed zs F p) (hz : zs.getD p 0 = 48) : Whole zs F (p + 1) := by
  obtain ⟨s, h1, h2⟩ := h
  refine ⟨2, ?_, .inl rfl⟩
  rw [← h1]
  rcases h2 with ⟨rfl, _⟩ | rfl
  · exact (fin_move (s' := 2) (by rw [hz]; decide)).symm
  · exact (fin_move (s' := 2) (by rw [hz]; decide)).symm
theorem whole_digits {p : Nat} (h : Signed zs F p) (hz : 49 ≤ zs.getD p 0 ∧ zs.getD p 0 ≤ 57) : Whole zs F (skip zs p) := by
  obtain ⟨s, h1, h2⟩ := h
  have hd : 48 ≤ zs.getD p 0 ∧ zs.getD p 0 ≤ 57 := ⟨by omega, hz.2⟩
  have hlt : p < skip zs p := by
    rw [skip_go hd]
    have := le_skip zs (p + 1)
    omega
  refine ⟨3, ?_, .inr ⟨rfl, skip_end zs p⟩⟩
  rw [← h1]
  have e1 : ¬ zs.getD p 0 = 45 := by omega
  have e2 : ¬ zs.getD p 0 = 48 := by omega
  rcases h2 with ⟨rfl, _⟩ | rfl
  · exact (fin_digits (s := 3) hlt (by simp only [step]; rw [if_neg e1, if_neg e2, if_pos hd]; rfl) step3).symm
  · exact (fin_digits (s := 3) hlt (by simp only [step]; rw [if_neg e2, if_pos hd]; rfl) step3).symm
theorem whole_none {p : Nat} (h : Signed zs F p) (h0 : zs.getD p 0 ≠ 48) (hz : ¬ (49 ≤ zs.getD p 0 ∧ zs.getD p 0 ≤ 57)) : Refused F p := by
  obtain ⟨s, h1, h2⟩ := h
  have e3 : ¬ (48 ≤ zs.getD p 0 ∧ zs.getD p 0 ≤ 57) := by omega
  rcases h2 with ⟨rfl, h3⟩ | rfl
  · rw [fin_stop (by simp only [step]; rw [if_neg h3, if_neg h0, if_neg e3]; omega)] at h1
    subst h1
    exact ⟨rfl, rfl⟩
  · rw [fin_stop (by simp only [step]; rw [if_neg h0, if_neg e3]; omega)] at h1
    subst h1
    exact ⟨rfl, rfl⟩
theorem point {p : Nat} (h : Whole zs F p) (hz : zs.getD p 0 = 46) : fin zs (p + 1) 4 = F := by
  obtain ⟨s, h1, h2⟩ := h
  rw [← h1]
  rcases h2 with rfl | ⟨rfl, _⟩
  · exact (fin_move (s' := 4) (by rw [hz]; decide)).symm
  · exact (fin_move (s' := 4) (by rw [hz]; decide)).symm
theorem broken_no {p : Nat} (h : Whole zs F p) (hz : zs.getD p 0 ≠ 46) : Broken zs F p := by
  obtain ⟨s, h1, h2⟩ := h
  refine ⟨s, h1, ?_⟩
  rcases h2 with rfl | ⟨rfl, h3⟩
  · exact .inl ⟨rfl, hz⟩
  · exact .inr (.inl ⟨rfl, hz, h3⟩)
theorem broken_yes {p : Nat} (h : fin zs p 4 = F) (hp : p < skip zs p) : Broken zs F (skip zs p) := by
  have hd := skip_digit hp
  refine ⟨5, ?_, .inr (.inr ⟨rfl, skip_end zs p⟩)⟩
  rw [← h]
  exact (fin_digits (s := 5) hp (by simp only [step]; rw [if_pos hd]; rfl) step5).symm
theorem skip_same {p : Nat} (hp : ¬ p < skip zs p) : skip zs p = p ∧ ¬ (48 ≤ zs.getD p 0 ∧ zs.getD p 0 ≤ 57) := by
  have e : skip zs p = p := by have := le_skip zs p; omega
  refine ⟨e, ?_⟩
  have := skip_end zs p
  rw [e] at this
  exact this
theorem broken_none {p : Nat} (h : fin zs p 4 = F) (hp : ¬ p < skip zs p) : Refused F (skip zs p) := by
  obtain ⟨e, hd⟩ := skip_same hp
  rw [fin_stop (by simp only [step]; rw [if_neg hd]; omega)] at h
  rw [e]
  subst h
  exact ⟨rfl, rfl⟩
theorem read_plain {p : Nat} (h : Broken zs F p) (h1 : zs.getD p 0 ≠ 101) (h2 : zs.getD p 0 ≠ 69) : Read F p := by
  obtain ⟨s, hf, hs⟩ := h
  have e : ¬ (zs.getD p 0 = 101 ∨ zs.getD p 0 = 69) := fun hh => hh.elim h1 h2
  rcases hs with ⟨rfl, h3⟩ | ⟨rfl, h3, h4⟩ | ⟨rfl, h4⟩
  · rw [fin_stop (by simp only [step]; rw [if_neg h3, if_neg e]; omega)] at hf
    subst hf
    exact ⟨rfl, rfl⟩
  · rw [fin_stop (by simp only [step]; rw [if_neg h4, if_neg h3, if_neg e]; omega)] at hf
    subst hf
    exact ⟨rfl, rfl⟩
  · rw [fin_stop (by simp only [step]; rw [if_neg h4, if_neg e]; omega)] at hf
    subst hf
    exact ⟨rfl, rfl⟩
theorem expo {p : Nat} (h : Broken zs F p) (hz : zs.getD p 0 = 101 ∨ zs.getD p 0 = 69) : fin zs (p + 1) 6 = F := by
  obtain ⟨s, hf, hs⟩ := h
  rw [← hf]
  have e1 : ¬ zs.getD p 0 = 46 := by omega
  have e2 : ¬ (48 ≤ zs.getD p 0 ∧ zs.getD p 0 ≤ 57) := by omega
  rcases hs with ⟨rfl, _⟩ | ⟨rfl, _⟩ | ⟨rfl, _⟩
  · exact (fin_move (s' := 6) (by simp only [step]; rw [if_neg e1, if_pos hz]; rfl)).symm
  · exact (fin_move (s' := 6) (by simp only [step]; rw [if_neg e2, if_neg e1, if_pos hz]; rfl)).symm
  · exact (fin_move (s' := 6) (by simp only [step]; rw [if_neg e2, if_pos hz]; rfl)).symm
theorem raised_yes {p : Nat} (h : fin zs p 6 = F) (hz : zs.getD p 0 = 43 ∨ zs.getD p 0 = 45) : Raised zs F (p + 1) :=
  ⟨7, by rw [← h]; exact (fin_move (s' := 7) (by simp only [step]; rw [if_pos hz]; rfl)).symm, .inr rfl⟩
theorem raised_no {p : Nat} (h : fin zs p 6 = F) (h1 : zs.getD p 0 ≠ 43) (h2 : zs.getD p 0 ≠ 45) : Raised zs F p := ⟨6, h, .inl ⟨rfl, h1, h2⟩⟩
theorem read_raised {p : Nat} (h : Raised zs F p) (hp : p < skip zs p) : Read F (skip zs p) := by
  obtain ⟨s, hf, hs⟩ := h
  have hd := skip_digit hp
  have he := skip_end zs p
  have e1 : ¬ (zs.getD p 0 = 43 ∨ zs.getD p 0 = 45) := by omega
  have key : fin zs p s = fin zs (skip zs p) 8 := by
    rcases hs with ⟨rfl, _⟩ | rfl
    · exact fin_digits (s := 8) hp (by simp only [step]; rw [if_neg e1, if_pos hd]; rfl) step8
    · exact fin_digits (s := 8) hp (by simp only [step]; rw [if_pos hd]; rfl) step8
  rw [hf, fin_stop (by simp only [step]; rw [if_neg he]; omega)] at key
  subst key
  exact ⟨rfl, rfl⟩
theorem raised_none {p : Nat} (h : Raised zs F p) (hp : ¬ p < skip zs p) : Refused F (skip zs p) := by
  obtain ⟨s, hf, hs⟩ := h
  obtain ⟨e, hd⟩ := skip_same hp
  rw [e]
  rcases hs with ⟨rfl, h1, h2⟩ | rfl
  · rw [fin_stop (by simp only [step]; rw [if_neg (fun hh => hh.elim h1 h2), if_neg hd]; omega)] at hf
    subst hf
    exact ⟨rfl, rfl⟩
  · rw [fin_stop (by simp only [step]; rw [if_neg hd]; omega)] at hf
    subst hf
    exact ⟨rfl, rfl⟩
end Go.Proofs.Qxb6604181a
