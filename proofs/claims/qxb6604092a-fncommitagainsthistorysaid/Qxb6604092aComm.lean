import Derived.Test.Qxb6604092aIdxMap
import Derived.Test.Qxb6604092aHeld
namespace Go.Proofs.Qxb6604092a
open Go.RowKit
open Go.ChangeMaps (setBlock)

/-! ### What is committed, in memory -/
def lowerR (i t : Int) : List CR → List CR
  | [] => []
  | r :: M => if CR.is i r then { r with p := r.p.low t } :: M else r :: lowerR i t M
theorem cfind_p (M : List CR) (i : Int) : (M.map CR.p).find? (CP.is i) = (cfind M i).map CR.p := by
  unfold cfind
  rw [List.find?_map]
  rfl
theorem lower_p (i t : Int) : ∀ M : List CR, (lowerR i t M).map CR.p = lower i t (M.map CR.p)
  | [] => rfl
  | r :: M => by
    have e : CR.is i r = CP.is i r.p := rfl
    cases h : CP.is i r.p with
    | true => simp only [lowerR, List.map_cons, lower, e, h, if_true]
    | false => simp only [lowerR, List.map_cons, lower, e, h, Bool.false_eq_true, if_false, lower_p i t M]
theorem lower_me (i t : Int) : ∀ M : List CR, (lowerR i t M).map CR.me = M.map CR.me
  | [] => rfl
  | r :: M => by
    simp only [lowerR]
    split
    · rfl
    · simp only [List.map_cons, lower_me i t M]
theorem lower_pb (i t : Int) : ∀ M : List CR, (lowerR i t M).map CR.pb = M.map CR.pb
  | [] => rfl
  | r :: M => by
    simp only [lowerR]
    split
    · rfl
    · simp only [List.map_cons, lower_pb i t M]
theorem mem_lowerR {i t : Int} : ∀ {M : List CR} {r r' : CR}, cfind M i = some r → (M.map CR.pb).Nodup → r' ∈ lowerR i t M → (r' ∈ M ∧ r'.pb ≠ r.pb) ∨ r' = { r with p := r.p.low t }
  | [], r, r', h, _, _ => by simp [cfind] at h
  | x :: M, r, r', h, hn, hm => by
    simp only [List.map_cons, List.nodup_cons] at hn
    cases hx : CR.is i x with
    | true =>
      simp only [cfind, List.find?_cons, hx] at h
      obtain rfl : x = r := by simpa using h
      simp only [lowerR, hx, if_true, List.mem_cons] at hm
      rcases hm with rfl | hm
      · exact .inr rfl
      · refine .inl ⟨List.mem_cons_of_mem _ hm, fun e => hn.1 ?_⟩
        rw [← e]
        exact List.mem_map_of_mem hm
    | false =>
      simp only [cfind, List.find?_cons, hx] at h
      simp only [lowerR, hx, Bool.false_eq_true, if_false, List.mem_cons] at hm
      rcases hm with rfl | hm
      · refine .inl ⟨List.mem_cons_self .., fun e => hn.1 ?_⟩
        rw [e]
        exact List.mem_map_of_mem (List.mem_of_find?_eq_some h)
      · rcases mem_lowerR h hn.2 hm with ⟨h1, h2⟩ | h1
        · exact .inl ⟨List.mem_cons_of_mem _ h1, h2⟩
        · exact .inr h1

/-- One commitment in memory: a block of five cells. -/
def CRAt (w : World) (L B1 cb : Nat) (r : CR) : Prop :=
  B1 ≤ r.pb ∧ r.pb ≠ cb ∧ ∃ v0 v1 v2 v3, w.heap[r.pb]? = some (.cells #[v0, v1, v2, v3, .int .u64 r.p.term] 104 (0, 0)) ∧ EntV w L B1 v0 v1 v2 v3 r.p.e
/-- The checker's own block: the map of commitments, the greatest index, the members, where they changed. -/
def CkAt (w : World) (L B1 cb mb : Nat) (S : CSt) : Prop :=
  ∃ cur : Array Value, w.heap[cb]? = some (.cells cur 41 (0, 0)) ∧ cur.size = 12 ∧ cur[5]? = some (.map (some mb)) ∧ cur[6]? = some (.int .u64 S.last) ∧
    (∃ ma ml mc, cur[7]? = some (.slice ma ml mc) ∧ RowAt w L B1 .u64 ma ml mc S.ms ∧ ma.isNone = S.mn) ∧ cur[8]? = some (.int .u64 S.chg)
def CommAt (w : World) (L B1 cb mb : Nat) (M : List CR) (S : CSt) : Prop :=
  B1 ≤ cb ∧ B1 ≤ mb ∧ B1 ≤ w.heap.size ∧ CkAt w L B1 cb mb S ∧ (∃ es clk, w.heap[mb]? = some (.map es clk) ∧ es.toList = M.map CR.me) ∧ (∀ r ∈ M, CRAt w L B1 cb r) ∧ (M.map CR.pb).Nodup ∧ S.A = M.map CR.p

section
variable {w w' : World} {L B1 cb mb : Nat} {M : List CR} {S : CSt}
theorem CkAt.lt (h : CkAt w L B1 cb mb S) : cb < w.heap.size := by
  obtain ⟨cur, h1, _⟩ := h
  exact (Array.getElem?_eq_some_iff.1 h1).1
theorem CkAt.c5 (h : CkAt w L B1 cb mb S) : w.cell? ⟨cb, 5, none⟩ = some (.map (some mb)) := by
  obtain ⟨cur, h1, h2, h3, h4, h5, h6⟩ := h
  simpa [World.cell?, h1] using h3
theorem CkAt.c6 (h : CkAt w L B1 cb mb S) : w.cell? ⟨cb, 6, none⟩ = some (.int .u64 S.last) := by
  obtain ⟨cur, h1, h2, h3, h4, h5, h6⟩ := h
  simpa [World.cell?, h1] using h4
theorem CkAt.c7 (h : CkAt w L B1 cb mb S) : ∃ ma ml mc, w.cell? ⟨cb, 7, none⟩ = some (.slice ma ml mc) ∧ RowAt w L B1 .u64 ma ml mc S.ms ∧ ma.isNone = S.mn := by
  obtain ⟨cur, h1, h2, h3, h4, ⟨ma, ml, mc, h5, h5'⟩, h6⟩ := h
  exact ⟨ma, ml, mc, by simpa [World.cell?, h1] using h5, h5'⟩
theorem CkAt.c8 (h : CkAt w L B1 cb mb S) : w.cell? ⟨cb, 8, none⟩ = some (.int .u64 S.chg) := by
  obtain ⟨cur, h1, h2, h3, h4, h5, h6⟩ := h
  simpa [World.cell?, h1] using h6
theorem CkAt.fz (h : CkAt w L B1 cb mb S) (i : Nat) : w.frozen? ⟨cb, i, none⟩ = false := by
  obtain ⟨cur, h1, _⟩ := h
  simp [World.frozen?, h1]
/-- Writes elsewhere leave it. -/
theorem CkAt.keep (h : CkAt w L B1 cb mb S) (hc : w'.heap[cb]? = w.heap[cb]?) (hk : Keeps L B1 w w') : CkAt w' L B1 cb mb S := by
  obtain ⟨cur, h1, h2, h3, h4, ⟨ma, ml, mc, h5, h5', h5''⟩, h6⟩ := h
  exact ⟨cur, hc.trans h1, h2, h3, h4, ⟨ma, ml, mc, h5, h5'.keep hk (Nat.le_refl _) (Nat.le_refl _), h5''⟩, h6⟩
theorem CkAt.set6 (h : CkAt w L B1 cb mb S) (hB : B1 ≤ cb) (x : Int) : CkAt (w.setCell ⟨cb, 6, none⟩ (.int .u64 x)) L B1 cb mb { S with last := x } := by
  obtain ⟨cur, h1, h2, h3, h4, ⟨ma, ml, mc, h5, h5', h5''⟩, h6⟩ := h
  refine ⟨cur.setIfInBounds 6 (.int .u64 x), heap_setCell_same _ _ _ _ _ _ h1, by simpa using h2, ?_, ?_, ⟨ma, ml, mc, ?_, h5'.keep (Keeps.setCell (.inr hB) _) (Nat.le_refl _) (Nat.le_refl _), h5''⟩, ?_⟩
  · rw [Array.getElem?_setIfInBounds_ne (by decide)]; exact h3
  · simp [h2]
  · rw [Array.getElem?_setIfInBounds_ne (by decide)]; exact h5
  · rw [Array.getElem?_setIfInBounds_ne (by decide)]; exact h6
theorem CkAt.set8 (h : CkAt w L B1 cb mb S) (hB : B1 ≤ cb) (x : Int) : CkAt (w.setCell ⟨cb, 8, none⟩ (.int .u64 x)) L B1 cb mb { S with chg := x } := by
  obtain ⟨cur, h1, h2, h3, h4, ⟨ma, ml, mc, h5, h5', h5''⟩, h6⟩ := h
  refine ⟨cur.setIfInBounds 8 (.int .u64 x), heap_setCell_same _ _ _ _ _ _ h1, by simpa using h2, ?_, ?_, ⟨ma, ml, mc, ?_, h5'.keep (Keeps.setCell (.inr hB) _) (Nat.le_refl _) (Nat.le_refl _), h5''⟩, ?_⟩
  · rw [Array.getElem?_setIfInBounds_ne (by decide)]; exact h3
  · rw [Array.getElem?_setIfInBounds_ne (by decide)]; exact h4
  · rw [Array.getElem?_setIfInBounds_ne (by decide)]; exact h5
  · simp [h2]
theorem CkAt.set7 (h : CkAt w L B1 cb mb S) (hB : B1 ≤ cb) {ma : Option Addr} {ml mc : Nat} {ms : List Int} (hr : RowAt w L B1 .u64 ma ml mc ms) : CkAt (w.setCell ⟨cb, 7, none⟩ (.slice ma ml mc)) L B1 cb mb { S with mn := ma.isNone, ms := ms } := by
  obtain ⟨cur, h1, h2, h3, h4, _, h6⟩ := h
  refine ⟨cur.setIfInBounds 7 (.slice ma ml mc), heap_setCell_same _ _ _ _ _ _ h1, by simpa using h2, ?_, ?_, ⟨ma, ml, mc, ?_, hr.keep (Keeps.setCell (.inr hB) _) (Nat.le_refl _) (Nat.le_refl _), rfl⟩, ?_⟩
  · rw [Array.getElem?_setIfInBounds_ne (by decide)]; exact h3
  · rw [Array.getElem?_setIfInBounds_ne (by decide)]; exact h4
  · simp [h2]
  · rw [Array.getElem?_setIfInBounds_ne (by decide)]; exact h6

theorem CommAt.below (h : CommAt w L B1 cb mb M S) (hb' : Below w.heap.size w w') : CommAt w' L B1 cb mb M S := by
  obtain ⟨h1, h2, h3, h4, ⟨es, clk, h5, h5'⟩, h6, h7, h8⟩ := h
  have hcl := h4.lt
  have hhl : mb < w.heap.size := (Array.getElem?_eq_some_iff.1 h5).1
  have hk : Keeps L B1 w w' := (Keeps.of_below hb').mono (Nat.le_refl _) h3
  refine ⟨h1, h2, Nat.le_trans h3 hb'.size, h4.keep (hb'.block cb hcl) hk, ⟨es, clk, (hb'.block mb hhl).trans h5, h5'⟩, fun r hr => ?_, h7, h8⟩
  obtain ⟨q1, q2, v0, v1, v2, v3, q3, q4⟩ := h6 r hr
  have hpl : r.pb < w.heap.size := (Array.getElem?_eq_some_iff.1 q3).1
  exact ⟨q1, q2, v0, v1, v2, v3, (hb'.block r.pb hpl).trans q3, q4.keep hk (Nat.le_refl _) (Nat.le_refl _)⟩
theorem CommAt.drewN (h : CommAt w L B1 cb mb M S) (q : Nat) : CommAt (w.drewN q) L B1 cb mb M S := h

/-- The checker's own block turned, by whatever keeps all else. -/
theorem CommAt.own (h : CommAt w L B1 cb mb M S) {S' : CSt} {o : Nat} {v : Value} (hck : CkAt (w.setCell ⟨cb, o, none⟩ v) L B1 cb mb S') (hA : S'.A = S.A) : CommAt (w.setCell ⟨cb, o, none⟩ v) L B1 cb mb M S' := by
  obtain ⟨h1, h2, h3, h4, ⟨es, clk, h5, h5'⟩, h6, h7, h8⟩ := h
  have hne : mb ≠ cb := fun e => by
    obtain ⟨cur, c1, _⟩ := h4
    rw [e, c1] at h5; cases h5
  have hkp : Keeps L B1 w (w.setCell ⟨cb, o, none⟩ v) := Keeps.setCell (.inr h1) _
  refine ⟨h1, h2, by simpa using h3, hck, ⟨es, clk, (heap_setCell_other _ _ _ _ hne).trans h5, h5'⟩, fun r hr => ?_, h7, hA.trans h8⟩
  obtain ⟨q1, q2, v0, v1, v2, v3, q3, q4⟩ := h6 r hr
  exact ⟨q1, q2, v0, v1, v2, v3, (heap_setCell_other _ _ _ _ q2).trans q3, q4.keep hkp (Nat.le_refl _) (Nat.le_refl _)⟩

theorem CommAt.lower (h : CommAt w L B1 cb mb M S) {i t : Int} {r : CR} (hr : cfind M i = some r) :
    CommAt (w.setCell ⟨r.pb, 4, none⟩ (.int .u64 (mn2 r.p.term t))) L B1 cb mb (lowerR i t M) { S with A := lower i t S.A } := by
  obtain ⟨h1, h2, h3, h4, ⟨es, clk, h5, h5'⟩, h6, h7, h8⟩ := h
  obtain ⟨q1, q2, v0, v1, v2, v3, q3, q4⟩ := h6 r (List.mem_of_find?_eq_some hr)
  have hne : mb ≠ r.pb := fun e => by rw [e, q3] at h5; cases h5
  have hkp : Keeps L B1 w (w.setCell ⟨r.pb, 4, none⟩ (.int .u64 (mn2 r.p.term t))) := Keeps.setCell (.inr q1) _
  refine ⟨h1, h2, by simpa using h3, ?_, ⟨es, clk, (heap_setCell_other _ _ _ _ hne).trans h5, by rw [lower_me]; exact h5'⟩, fun r' hr' => ?_, by rw [lower_pb]; exact h7, by rw [lower_p, h8]⟩
  · have := h4.keep (w' := w.setCell ⟨r.pb, 4, none⟩ (.int .u64 (mn2 r.p.term t))) (heap_setCell_other _ _ _ _ (fun e => q2 e.symm)) hkp
    exact this
  · rcases mem_lowerR hr h7 hr' with ⟨m1, m2⟩ | rfl
    · obtain ⟨p1, p2, u0, u1, u2, u3, p3, p4⟩ := h6 r' m1
      exact ⟨p1, p2, u0, u1, u2, u3, (heap_setCell_other _ _ _ _ m2).trans p3, p4.keep hkp (Nat.le_refl _) (Nat.le_refl _)⟩
    · refine ⟨q1, q2, v0, v1, v2, v3, ?_, q4.keep hkp (Nat.le_refl _) (Nat.le_refl _)⟩
      rw [heap_setCell_same _ _ _ _ _ _ q3]
      rfl

/-- A new commitment: its block laid, its entry put into the map. -/
theorem CommAt.alloc_push {es : Array MapEntry} {clk : Nat} (h : CommAt w L B1 cb mb M S) (h5 : w.heap[mb]? = some (.map es clk)) (h5' : es.toList = M.map CR.me)
    {s : Nat} (hs : w.heap.size = s) (i t : Int) {v0 v1 v2 v3 : Value} {e : Ent} (hE : EntV w L B1 v0 v1 v2 v3 e) :
    CommAt (setBlock (w.alloc (.cells #[v0, v1, v2, v3, .int .u64 t] 104)) mb (.map (es.push ⟨.int .u64 i, .pointer (some ⟨s, 0, none⟩), clk⟩) (clk + 1))) L B1 cb mb (M ++ [⟨⟨i, e, t⟩, s, clk⟩]) { S with A := S.A ++ [⟨i, e, t⟩] } := by
  have hb0 : Below w.heap.size w (w.alloc (.cells #[v0, v1, v2, v3, .int .u64 t] 104)) := (Below.refl _ _).alloc (Nat.le_refl _) _
  obtain ⟨h1, h2, h3, h4, _, h6, h7, h8⟩ := h.below hb0
  have hB1 := h.2.2.1
  have hcl := h.2.2.2.1.lt
  have hml : mb < w.heap.size := (Array.getElem?_eq_some_iff.1 h5).1
  obtain ⟨W, hW⟩ : ∃ W, W = w.alloc (.cells #[v0, v1, v2, v3, .int .u64 t] 104) := ⟨_, rfl⟩
  have h5W : W.heap[mb]? = some (.map es clk) := by rw [hW]; exact (hb0.block mb hml).trans h5
  have hpn : W.heap[s]? = some (.cells #[v0, v1, v2, v3, .int .u64 t] 104 (0, 0)) := by rw [hW, ← hs]; exact heap_alloc_new _ _
  have hEW : EntV W L B1 v0 v1 v2 v3 e := by rw [hW]; exact hE.keep ((Keeps.of_below hb0).mono (Nat.le_refl _) hB1) (Nat.le_refl _) (Nat.le_refl _)
  rw [← hW] at h3 h4 h6 ⊢
  have hhl : mb < W.heap.size := (Array.getElem?_eq_some_iff.1 h5W).1
  have other : ∀ k o, k ≠ mb → (setBlock W mb o).heap[k]? = W.heap[k]? := fun k o hk => by
    simp only [setBlock]; rw [Array.getElem?_setIfInBounds_ne (Ne.symm hk)]
  have hkp : ∀ o, Keeps L B1 W (setBlock W mb o) := fun o k _ hk => other k o (by omega)
  have hnp : s ≠ mb := fun e => by rw [e, h5W] at hpn; cases hpn
  have hnc : cb ≠ mb := fun e => by
    obtain ⟨cur, c1, _⟩ := h4
    rw [e, h5W] at c1; cases c1
  refine ⟨h1, h2, by simpa [setBlock] using h3, ?_, ⟨es.push ⟨.int .u64 i, .pointer (some ⟨s, 0, none⟩), clk⟩, clk + 1, by simp [setBlock, hhl], ?_⟩, fun r hr => ?_, ?_, ?_⟩
  · have := h4.keep (w' := setBlock W mb (.map (es.push ⟨.int .u64 i, .pointer (some ⟨s, 0, none⟩), clk⟩) (clk + 1))) (other cb _ hnc) (hkp _)
    exact this
  · simp [h5', CR.me]
  · rcases List.mem_append.1 hr with hr | hr
    · obtain ⟨p1, p2, u0, u1, u2, u3, p3, p4⟩ := h6 r hr
      have : r.pb ≠ mb := fun e => by rw [e, h5W] at p3; cases p3
      exact ⟨p1, p2, u0, u1, u2, u3, (other _ _ this).trans p3, p4.keep (hkp _) (Nat.le_refl _) (Nat.le_refl _)⟩
    · obtain rfl := List.mem_singleton.1 hr
      exact ⟨by show B1 ≤ s; omega, by show s ≠ cb; omega, v0, v1, v2, v3, (other _ _ hnp).trans hpn, hEW.keep (hkp _) (Nat.le_refl _) (Nat.le_refl _)⟩
  · rw [List.map_append, List.nodup_append]
    refine ⟨h7, by simp, fun a ha b hb' => ?_⟩
    obtain ⟨r, hr, rfl⟩ := List.mem_map.1 ha
    obtain rfl : b = s := by simpa using hb'
    obtain ⟨_, _, _, _, _, _, q3, _⟩ := h.2.2.2.2.2.1 r hr
    have := (Array.getElem?_eq_some_iff.1 q3).1
    omega
  · simp [h8]
end
end Go.Proofs.Qxb6604092a
