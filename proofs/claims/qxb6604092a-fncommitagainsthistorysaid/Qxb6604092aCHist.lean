import Derived.Test.Qxb6604092aAgain
import Derived.Test.Qxb6604092aCalls
namespace Go.Proofs.Qxb6604092a
open Go.RowKit

/-! ### Scripts of commits, plain -/
/-- What the calls say of an index: the first entry handed there, the least term. -/
def seen (idx : Int) (o : Option (Ent × Int)) (c : CCall) : Option (Ent × Int) :=
  if c.idx = idx then
    match o with
    | none => some (c.e, c.nt)
    | some (e, l) => some (e, mn2 l c.nt)
  else o
def seenAll (D : List CCall) (idx : Int) : Option (Ent × Int) := D.foldl (seen idx) none
theorem take_snoc {cs : List CCall} {k : Nat} (hk : k < cs.length) : cs.take (k + 1) = cs.take k ++ [cs.getD k call0] := by
  rw [List.take_succ_eq_append_getElem hk]
  simp [hk]
theorem seenAll_snoc (D : List CCall) (c : CCall) (idx : Int) : seenAll (D ++ [c]) idx = seen idx (seenAll D idx) c := by
  simp [seenAll, List.foldl_append]
theorem seen_same {idx : Int} {o : Option (Ent × Int)} {c : CCall} (h : c.idx = idx) : seen idx o c = match o with | none => some (c.e, c.nt) | some (e, l) => some (e, mn2 l c.nt) := by
  unfold seen
  rw [if_pos h]
theorem seen_other {idx : Int} {o : Option (Ent × Int)} {c : CCall} (h : ¬ c.idx = idx) : seen idx o c = o := by
  unfold seen
  rw [if_neg h]
theorem seenAll_none {D : List CCall} {idx : Int} : seenAll D idx = none ↔ ∀ c ∈ D, ¬ c.idx = idx := by
  have gen : ∀ (D : List CCall) (o : Option (Ent × Int)), D.foldl (seen idx) o = none ↔ o = none ∧ ∀ c ∈ D, ¬ c.idx = idx := by
    intro D
    induction D with
    | nil => intro o; simp
    | cons c D ih =>
      intro o
      rw [List.foldl_cons, ih]
      by_cases h : c.idx = idx
      · rw [seen_same h]
        constructor
        · rintro ⟨h1, _⟩
          cases o <;> simp at h1
        · rintro ⟨_, h2⟩
          exact absurd h (h2 c List.mem_cons_self)
      · rw [seen_other h]
        constructor
        · rintro ⟨h1, h2⟩
          refine ⟨h1, fun x hx => ?_⟩
          rcases List.mem_cons.1 hx with rfl | hx
          · exact h
          · exact h2 x hx
        · rintro ⟨h1, h2⟩
          exact ⟨h1, fun x hx => h2 x (List.mem_cons_of_mem _ hx)⟩
  have := gen D none
  simpa [seenAll] using this
theorem mem_take {cs : List CCall} {k : Nat} (hk : k ≤ cs.length) {P : CCall → Prop} : (∀ c ∈ cs.take k, P c) ↔ ∀ j, j < k → P (cs.getD j call0) := by
  constructor
  · intro h j hj
    have hjl : j < cs.length := by omega
    refine h _ ?_
    rw [List.mem_iff_getElem]
    exact ⟨j, by simp; omega, by simp [hjl]⟩
  · intro h c hc
    obtain ⟨j, hj, rfl⟩ := List.mem_iff_getElem.1 hc
    have hj' : j < k ∧ j < cs.length := by simp at hj; omega
    have hjl := hj'.2
    have := h j hj'.1
    simpa [hjl] using this

/-! ### The checker's state behind k calls -/
def cst (S0 : CSt) (D : List CCall) : CSt := D.foldl (fun S c => (commitStep S c).1) S0
theorem cst_snoc (S0 : CSt) (D : List CCall) (c : CCall) : cst S0 (D ++ [c]) = (commitStep (cst S0 D) c).1 := by
  simp [cst, List.foldl_append]
def viewC (A : List CP) (idx : Int) : Option (Ent × Int) := (A.find? (CP.is idx)).map fun p => (p.e, p.term)
theorem viewC_step (S : CSt) (c : CCall) (idx : Int) : viewC (commitStep S c).1.A idx = seen idx (viewC S.A idx) c := by
  unfold commitStep viewC
  by_cases h : c.idx = idx
  · subst h
    rw [seen_same rfl]
    cases hf : S.A.find? (CP.is c.idx) with
    | none => simp [List.find?_append, hf, CP.is]
    | some p => simp [find_lower, hf, CP.low]
  · rw [seen_other h]
    have h' : ¬ idx = c.idx := fun e => h e.symm
    cases hf : S.A.find? (CP.is c.idx) with
    | none => simp [List.find?_append, CP.is, h']
    | some p => simp [find_lower, h']
theorem viewC_cst {S0 : CSt} (h0 : S0.A = []) (idx : Int) (cs : List CCall) : ∀ k, k ≤ cs.length → viewC (cst S0 (cs.take k)).A idx = seenAll (cs.take k) idx
  | 0, _ => by simp [cst, seenAll, viewC, h0]
  | k + 1, hk => by
    rw [take_snoc (by omega), cst_snoc, seenAll_snoc, viewC_step, viewC_cst h0 idx cs k (by omega)]
theorem length_commit (S : CSt) (c : CCall) : (commitStep S c).1.A.length = if (viewC S.A c.idx).isNone then S.A.length + 1 else S.A.length := by
  unfold commitStep viewC
  cases S.A.find? (CP.is c.idx) with
  | none => simp
  | some p => simp [length_lower]
/-- What the call answers, by what was seen at its index. -/
theorem answers (S : CSt) (c : CCall) : (commitStep S c).2 = match viewC S.A c.idx with | none => (true, true) | some (e, l) => (sameE e c.e, decide (c.nt < l)) := by
  unfold commitStep viewC
  cases S.A.find? (CP.is c.idx) <;> rfl

/-- The call is the first at its index. -/
def isFirst (cs : List CCall) (k : Nat) : Prop := ∀ j, j < k → ¬ (cs.getD j call0).idx = (cs.getD k call0).idx
theorem first_none {cs : List CCall} {k : Nat} (hk : k < cs.length) : seenAll (cs.take k) (cs.getD k call0).idx = none ↔ isFirst cs k := by
  rw [seenAll_none, mem_take (by omega)]
  rfl
theorem len_step {S0 : CSt} (h0 : S0.A = []) {cs : List CCall} {k : Nat} (hk : k < cs.length) :
    (isFirst cs k → (cst S0 (cs.take (k + 1))).A.length = (cst S0 (cs.take k)).A.length + 1) ∧ (¬ isFirst cs k → (cst S0 (cs.take (k + 1))).A.length = (cst S0 (cs.take k)).A.length) := by
  rw [take_snoc hk, cst_snoc, length_commit, viewC_cst h0 _ cs k (by omega)]
  constructor
  · intro h
    rw [(first_none hk).2 h]
    rfl
  · intro h
    cases hs : seenAll (cs.take k) (cs.getD k call0).idx with
    | none => exact absurd ((first_none hk).1 hs) h
    | some x => rfl

/-! ### The greatest index -/
def Greatest (cs : List CCall) (k : Nat) (z : Int) : Prop := (∀ j, j < k → (cs.getD j call0).idx ≤ z) ∧ (k = 0 ∧ z = 0 ∨ ∃ j, j < k ∧ (cs.getD j call0).idx = z)
theorem last_step (S : CSt) (c : CCall) : (commitStep S c).1.last = if (viewC S.A c.idx).isNone then mx S.last c.idx else S.last := by
  unfold commitStep viewC
  cases S.A.find? (CP.is c.idx) <;> simp
theorem greatest {S0 : CSt} (h0 : S0.A = []) (hz : S0.last = 0) {cs : List CCall} (hpos : ∀ c ∈ cs, 0 ≤ c.idx) : ∀ k, k ≤ cs.length → Greatest cs k (cst S0 (cs.take k)).last
  | 0, _ => ⟨fun j hj => absurd hj (Nat.not_lt_zero _), .inl ⟨rfl, by simp [cst, hz]⟩⟩
  | k + 1, hk => by
    obtain ⟨g1, g2⟩ := greatest h0 hz hpos k (by omega)
    have hp : 0 ≤ (cs.getD k call0).idx := hpos _ (by simp [show k < cs.length by omega])
    rw [take_snoc (by omega), cst_snoc, last_step, viewC_cst h0 _ cs k (by omega)]
    cases hs : seenAll (cs.take k) (cs.getD k call0).idx with
    | none =>
      have : (none : Option (Ent × Int)).isNone = true := rfl
      rw [if_pos this]
      unfold mx
      split
      · rename_i hlt
        refine ⟨fun j hj => ?_, .inr ⟨k, by omega, rfl⟩⟩
        by_cases e : j = k
        · subst e; exact Int.le_refl _
        · have := g1 j (by omega)
          omega
      · rename_i hlt
        refine ⟨fun j hj => ?_, ?_⟩
        · by_cases e : j = k
          · subst e; omega
          · exact g1 j (by omega)
        · rcases g2 with ⟨rfl, g2⟩ | ⟨j, g2, g3⟩
          · exact .inr ⟨0, by omega, by omega⟩
          · exact .inr ⟨j, by omega, g3⟩
    | some x =>
      have : ¬ (some x : Option (Ent × Int)).isNone = true := by simp
      rw [if_neg this]
      have hnf : ¬ isFirst cs k := fun h => by rw [(first_none (by omega)).2 h] at hs; cases hs
      obtain ⟨j, hj, hje⟩ : ∃ j, j < k ∧ (cs.getD j call0).idx = (cs.getD k call0).idx := by
        rcases Classical.em (∃ j, j < k ∧ (cs.getD j call0).idx = (cs.getD k call0).idx) with h | h
        · exact h
        · exact absurd (fun j hj he => h ⟨j, hj, he⟩) hnf
      refine ⟨fun i hi => ?_, ?_⟩
      · by_cases e : i = k
        · subst e
          have := g1 j hj
          omega
        · exact g1 i (by omega)
      · rcases g2 with ⟨rfl, g2⟩ | ⟨j, g2, g3⟩
        · omega
        · exact .inr ⟨j, by omega, g3⟩

/-! ### The last change of members -/
def Change (cs : List CCall) (k : Nat) : Prop := isFirst cs k ∧ (cs.getD k call0).e.mn = false ∧ 0 < (cs.getD k call0).idx
/-- What the checker knows of members, by the first k calls. -/
def Chg (cs : List CCall) (k : Nat) (mn0 : Bool) (ms0 : List Int) (S : CSt) : Prop :=
  (S.chg = 0 ∧ S.mn = mn0 ∧ S.ms = ms0 ∧ ∀ j, j < k → ¬ Change cs j) ∨
  ∃ j, j < k ∧ Change cs j ∧ S.chg = (cs.getD j call0).idx ∧ S.mn = (cs.getD j call0).e.mn ∧ S.ms = (cs.getD j call0).e.mems ∧ ∀ i, i < k → Change cs i → (cs.getD i call0).idx ≤ (cs.getD j call0).idx
theorem chg_cst {S0 : CSt} (h0 : S0.A = []) (hc : S0.chg = 0) {cs : List CCall} : ∀ k, k ≤ cs.length → Chg cs k S0.mn S0.ms (cst S0 (cs.take k))
  | 0, _ => .inl ⟨by simp [cst, hc], by simp [cst], by simp [cst], fun j hj => absurd hj (Nat.not_lt_zero _)⟩
  | k + 1, hk => by
    have ih := chg_cst h0 hc (cs := cs) k (by omega)
    rw [take_snoc (by omega), cst_snoc]
    generalize hS : cst S0 (cs.take k) = S at ih
    have hv := viewC_cst h0 (cs.getD k call0).idx cs k (by omega)
    rw [hS] at hv
    generalize hcc : cs.getD k call0 = c at hv
    by_cases hf : isFirst cs k
    · have hn : S.A.find? (CP.is c.idx) = none := by
        rw [← hcc, (first_none (by omega)).2 hf] at hv
        rw [← hcc]
        unfold viewC at hv
        exact Option.map_eq_none_iff.1 hv
      have hst : (commitStep S c).1 = { A := S.A ++ [⟨c.idx, c.e, c.nt⟩], last := mx S.last c.idx, chg := if c.e.mn = false ∧ S.chg < c.idx then c.idx else S.chg, mn := if c.e.mn = false ∧ S.chg < c.idx then c.e.mn else S.mn, ms := if c.e.mn = false ∧ S.chg < c.idx then c.e.mems else S.ms } := by
        unfold commitStep
        rw [hn]
      rw [hst]
      by_cases hcond : c.e.mn = false ∧ S.chg < c.idx
      · simp only [hcond, and_self, if_true]
        have h0c : 0 ≤ S.chg := by
          rcases ih with ⟨h1, _⟩ | ⟨j, _, h1, h2, _⟩
          · omega
          · have := h1.2.2; omega
        refine .inr ⟨k, by omega, ⟨hf, by rw [hcc]; exact hcond.1, by rw [hcc]; omega⟩, by rw [hcc], by rw [hcc]; exact hcond.1.symm, by rw [hcc], fun i hi hci => ?_⟩
        by_cases e : i = k
        · subst e; exact Int.le_refl _
        · rw [hcc]
          rcases ih with ⟨_, _, _, h4⟩ | ⟨j, _, _, h2, _, _, h5⟩
          · exact absurd hci (h4 i (by omega))
          · have := h5 i (by omega) hci
            omega
      · simp only [hcond, if_false]
        rcases ih with ⟨h1, h2, h3, h4⟩ | ⟨j, h1, h2, h3, h4, h5, h6⟩
        · refine .inl ⟨h1, h2, h3, fun j hj hcj => ?_⟩
          by_cases e : j = k
          · subst e
            have a1 := hcj.2.1
            have a2 := hcj.2.2
            rw [hcc] at a1 a2
            exact hcond ⟨a1, by omega⟩
          · exact h4 j (by omega) hcj
        · refine .inr ⟨j, by omega, h2, h3, h4, h5, fun i hi hci => ?_⟩
          by_cases e : i = k
          · subst e
            have a1 := hci.2.1
            rw [hcc] at a1
            have : ¬ S.chg < c.idx := fun h => hcond ⟨a1, h⟩
            rw [hcc]
            omega
          · exact h6 i (by omega) hci
    · have hnc : ¬ Change cs k := fun h => hf h.1
      have hst : (commitStep S c).1 = { S with A := lower c.idx c.nt S.A } := by
        unfold commitStep
        cases hn : S.A.find? (CP.is c.idx) with
        | none =>
          exfalso
          rw [viewC, hn] at hv
          rw [← hcc] at hv
          exact hf ((first_none (by omega)).1 hv.symm)
        | some p => rfl
      rw [hst]
      rcases ih with ⟨h1, h2, h3, h4⟩ | ⟨j, h1, h2, h3, h4, h5, h6⟩
      · exact .inl ⟨h1, h2, h3, fun j hj hcj => by
          by_cases e : j = k
          · subst e; exact hnc hcj
          · exact h4 j (by omega) hcj⟩
      · refine .inr ⟨j, by omega, h2, h3, h4, h5, fun i hi hci => ?_⟩
        by_cases e : i = k
        · subst e; exact absurd hci hnc
        · exact h6 i (by omega) hci

/-- The change that no change is above. -/
def Top (cs : List CCall) (k : Nat) : Prop := Change cs k ∧ ∀ j, j < cs.length → Change cs j → ¬ (cs.getD k call0).idx < (cs.getD j call0).idx
theorem top_unique {cs : List CCall} {a b : Nat} (ha : a < cs.length) (hb : b < cs.length) (h : Top cs a) (k : Top cs b) : a = b := by
  have h1 := h.2 b hb k.1
  have h2 := k.2 a ha h.1
  have e : (cs.getD a call0).idx = (cs.getD b call0).idx := by omega
  rcases Nat.lt_trichotomy a b with hl | hl | hl
  · exact absurd e (k.1.1 a hl)
  · exact hl
  · exact absurd e.symm (h.1.1 b hl)
end Go.Proofs.Qxb6604092a
