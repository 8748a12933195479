import Derived.Test.Qxb6604092aPosMap
import Derived.Test.Qxb6604092aSame
import Derived.IntWalk
namespace Go.Proofs.Qxb6604092a
open Go.RowKit
open Go.ChangeMaps (setBlock)

/-! ### What hold does, as plain functions -/
/-- What the checker holds at a position. -/
structure HP where
  idx : Int
  term : Int
  e : Ent
  prev : Int
  cnt : Int
def HP.is (i t : Int) (p : HP) : Bool := decide (i = p.idx ∧ t = p.term)
def HP.more (p : HP) : HP := { p with cnt := wrap64 (p.cnt + 1) }
/-- The first record at the position counts one holder more. -/
def bump (i t : Int) : List HP → List HP
  | [] => []
  | p :: A => if HP.is i t p then p.more :: A else p :: bump i t A
/-- The term of the entry before index i. -/
def prevT (es : List Ent) (i : Nat) : Int := if 1 < i then (es.getD (i - 2) ent0).term else 0
def holdStep (A : List HP) (i : Int) (e : Ent) (prev : Int) : List HP × Bool :=
  match A.find? (HP.is i e.term) with
  | none => (A ++ [⟨i, e.term, e, prev, 1⟩], true)
  | some p => (bump i e.term A, decide (p.prev = prev) && sameE p.e e)
/-- m rounds from index i on. -/
def holdGo (es : List Ent) : Nat → Nat → List HP → Bool → List HP × Bool
  | 0, _, A, ok => (A, ok)
  | m + 1, i, A, ok => holdGo es m (i + 1) (holdStep A i (es.getD (i - 1) ent0) (prevT es i)).1 (ok && (holdStep A i (es.getD (i - 1) ent0) (prevT es i)).2)

/-! ### What is held, in memory -/
structure HR where
  p : HP
  pb : Nat
  born : Nat
def HR.toRec (r : HR) : HRec := ⟨r.p.idx, r.p.term, r.pb, r.born⟩
def rfind (M : List HR) (i t : Int) : Option HR := M.find? (fun r => HP.is i t r.p)
def bumpR (i t : Int) : List HR → List HR
  | [] => []
  | r :: M => if HP.is i t r.p then { r with p := r.p.more } :: M else r :: bumpR i t M

theorem hfind_rec (M : List HR) (i t : Int) : hfind (M.map HR.toRec) i t = (rfind M i t).map HR.toRec := by
  unfold hfind rfind
  rw [List.find?_map]
  rfl
theorem ptr_rec (M : List HR) (i t : Int) : ptrOf (hfind (M.map HR.toRec) i t) = .pointer ((rfind M i t).map fun r => ⟨r.pb, 0, none⟩) := by
  rw [hfind_rec]
  unfold ptrOf
  rw [Option.map_map]
  rfl
theorem find_p (M : List HR) (i t : Int) : (M.map HR.p).find? (HP.is i t) = (rfind M i t).map HR.p := by
  unfold rfind
  rw [List.find?_map]
  rfl
theorem bump_p (i t : Int) : ∀ M : List HR, (bumpR i t M).map HR.p = bump i t (M.map HR.p)
  | [] => rfl
  | r :: M => by
    simp only [bumpR, List.map_cons, bump]
    split
    · rfl
    · simp only [List.map_cons, bump_p i t M]
theorem bump_rec (i t : Int) : ∀ M : List HR, (bumpR i t M).map HR.toRec = M.map HR.toRec
  | [] => rfl
  | r :: M => by
    simp only [bumpR]
    split
    · rfl
    · simp only [List.map_cons, bump_rec i t M]
theorem bump_pb (i t : Int) : ∀ M : List HR, (bumpR i t M).map HR.pb = M.map HR.pb
  | [] => rfl
  | r :: M => by
    simp only [bumpR]
    split
    · rfl
    · simp only [List.map_cons, bump_pb i t M]
/-- Who is in the list behind a bump: who was there and is not the found one; or the found one, with one more. -/
theorem mem_bumpR {i t : Int} : ∀ {M : List HR} {r r' : HR}, rfind M i t = some r → (M.map HR.pb).Nodup → r' ∈ bumpR i t M → (r' ∈ M ∧ r'.pb ≠ r.pb) ∨ r' = { r with p := r.p.more }
  | [], r, r', h, _, _ => by simp [rfind] at h
  | x :: M, r, r', h, hn, hm => by
    simp only [List.map_cons, List.nodup_cons] at hn
    cases hx : HP.is i t x.p with
    | true =>
      simp only [rfind, List.find?_cons, hx] at h
      obtain rfl : x = r := by simpa using h
      simp only [bumpR, hx, if_true, List.mem_cons] at hm
      rcases hm with rfl | hm
      · exact .inr rfl
      · refine .inl ⟨List.mem_cons_of_mem _ hm, fun e => hn.1 ?_⟩
        rw [← e]
        exact List.mem_map_of_mem hm
    | false =>
      simp only [rfind, List.find?_cons, hx] at h
      simp only [bumpR, hx, Bool.false_eq_true, if_false, List.mem_cons] at hm
      rcases hm with rfl | hm
      · refine .inl ⟨List.mem_cons_self .., fun e => hn.1 ?_⟩
        rw [e]
        exact List.mem_map_of_mem (List.mem_of_find?_eq_some h)
      · rcases mem_bumpR h hn.2 hm with ⟨h1, h2⟩ | h1
        · exact .inl ⟨List.mem_cons_of_mem _ h1, h2⟩
        · exact .inr h1

/-- One record in memory: a block of six cells. -/
def HRAt (w : World) (L B1 cb : Nat) (r : HR) : Prop :=
  B1 ≤ r.pb ∧ r.pb ≠ cb ∧ ∃ v0 v1 v2 v3, w.heap[r.pb]? = some (.cells #[v0, v1, v2, v3, .int .u64 r.p.prev, .int .i64 r.p.cnt] 96 (0, 0)) ∧ EntV w L B1 v0 v1 v2 v3 r.p.e
/-- The checker's map of what is held. -/
def HeldAt (w : World) (L B1 cb hb : Nat) (M : List HR) : Prop :=
  B1 ≤ cb ∧ B1 ≤ hb ∧ B1 ≤ w.heap.size ∧ w.cell? ⟨cb, 4, none⟩ = some (.map (some hb)) ∧ (∃ es clk, w.heap[hb]? = some (.map es clk) ∧ es.toList = (M.map HR.toRec).map HRec.me) ∧ (∀ r ∈ M, HRAt w L B1 cb r) ∧ (M.map HR.pb).Nodup

theorem HeldAt.below {w w' : World} {L B1 cb hb : Nat} {M : List HR} (h : HeldAt w L B1 cb hb M) (hb' : Below w.heap.size w w') : HeldAt w' L B1 cb hb M := by
  obtain ⟨h1, h2, h3, h4, ⟨es, clk, h5, h5'⟩, h6, h7⟩ := h
  have hcl : cb < w.heap.size := block_lt_of_cell h4
  have hhl : hb < w.heap.size := (Array.getElem?_eq_some_iff.1 h5).1
  refine ⟨h1, h2, Nat.le_trans h3 hb'.size, (hb'.cell (p := ⟨cb, 4, none⟩) hcl).trans h4, ⟨es, clk, (hb'.block hb hhl).trans h5, h5'⟩, fun r hr => ?_, h7⟩
  obtain ⟨q1, q2, v0, v1, v2, v3, q3, q4⟩ := h6 r hr
  have hpl : r.pb < w.heap.size := (Array.getElem?_eq_some_iff.1 q3).1
  exact ⟨q1, q2, v0, v1, v2, v3, (hb'.block r.pb hpl).trans q3, q4.keep ((Keeps.of_below hb').mono (Nat.le_refl _) h3) (Nat.le_refl _) (Nat.le_refl _)⟩

theorem HeldAt.drewN {w : World} {L B1 cb hb : Nat} {M : List HR} (h : HeldAt w L B1 cb hb M) (q : Nat) : HeldAt (w.drewN q) L B1 cb hb M := h

theorem HeldAt.bump {w : World} {L B1 cb hb : Nat} {M : List HR} (h : HeldAt w L B1 cb hb M) {i t : Int} {r : HR} (hr : rfind M i t = some r) :
    HeldAt (w.setCell ⟨r.pb, 5, none⟩ (.int .i64 (wrap64 (r.p.cnt + 1)))) L B1 cb hb (bumpR i t M) := by
  obtain ⟨h1, h2, h3, h4, ⟨es, clk, h5, h5'⟩, h6, h7⟩ := h
  obtain ⟨q1, q2, v0, v1, v2, v3, q3, q4⟩ := h6 r (List.mem_of_find?_eq_some hr)
  have hne : hb ≠ r.pb := fun e => by rw [e, q3] at h5; cases h5
  have hkp : Keeps L B1 w (w.setCell ⟨r.pb, 5, none⟩ (.int .i64 (wrap64 (r.p.cnt + 1)))) := Keeps.setCell (.inr q1) _
  refine ⟨h1, h2, by simpa using h3, ?_, ⟨es, clk, (heap_setCell_other _ _ _ _ hne).trans h5, by rw [bump_rec]; exact h5'⟩, fun r' hr' => ?_, by rw [bump_pb]; exact h7⟩
  · rw [World.cell?_of_block (w := w) (heap_setCell_other _ _ _ _ (fun e => q2 e.symm))]
    exact h4
  · rcases mem_bumpR hr h7 hr' with ⟨m1, m2⟩ | rfl
    · obtain ⟨p1, p2, u0, u1, u2, u3, p3, p4⟩ := h6 r' m1
      exact ⟨p1, p2, u0, u1, u2, u3, (heap_setCell_other _ _ _ _ m2).trans p3, p4.keep hkp (Nat.le_refl _) (Nat.le_refl _)⟩
    · refine ⟨q1, q2, v0, v1, v2, v3, ?_, q4.keep hkp (Nat.le_refl _) (Nat.le_refl _)⟩
      rw [heap_setCell_same _ _ _ _ _ _ q3]
      rfl

theorem HeldAt.push {w : World} {L B1 cb hb : Nat} {M : List HR} {es : Array MapEntry} {clk : Nat} (h : HeldAt w L B1 cb hb M) (h5 : w.heap[hb]? = some (.map es clk)) (h5' : es.toList = (M.map HR.toRec).map HRec.me)
    {pn : Nat} {v0 v1 v2 v3 : Value} {e : Ent} {i prev : Int} (hp : w.heap[pn]? = some (.cells #[v0, v1, v2, v3, .int .u64 prev, .int .i64 1] 96 (0, 0))) (hE : EntV w L B1 v0 v1 v2 v3 e) (hB : B1 ≤ pn) (hcb : pn ≠ cb) (hnew : ∀ r ∈ M, r.pb ≠ pn) :
    HeldAt (setBlock w hb (.map (es.push ⟨posKey i e.term, .pointer (some ⟨pn, 0, none⟩), clk⟩) (clk + 1))) L B1 cb hb (M ++ [⟨⟨i, e.term, e, prev, 1⟩, pn, clk⟩]) := by
  obtain ⟨h1, h2, h3, h4, _, h6, h7⟩ := h
  have hhl : hb < w.heap.size := (Array.getElem?_eq_some_iff.1 h5).1
  have other : ∀ k o, k ≠ hb → (setBlock w hb o).heap[k]? = w.heap[k]? := fun k o hk => by
    simp only [setBlock]; rw [Array.getElem?_setIfInBounds_ne (Ne.symm hk)]
  have hkp : ∀ o, Keeps L B1 w (setBlock w hb o) := fun o k _ hk => other k o (by omega)
  have hnp : pn ≠ hb := fun e => by rw [e, h5] at hp; cases hp
  have hnc : cb ≠ hb := fun e => by subst e; simp [World.cell?, h5] at h4
  refine ⟨h1, h2, by simpa [setBlock] using h3, ?_, ⟨es.push ⟨posKey i e.term, .pointer (some ⟨pn, 0, none⟩), clk⟩, clk + 1, by simp [setBlock, hhl], ?_⟩, fun r hr => ?_, ?_⟩
  · rw [World.cell?_of_block (w := w) (other cb _ hnc)]; exact h4
  · simp [h5', HR.toRec, HRec.me]
  · rcases List.mem_append.1 hr with hr | hr
    · obtain ⟨p1, p2, u0, u1, u2, u3, p3, p4⟩ := h6 r hr
      have : r.pb ≠ hb := fun e => by rw [e, h5] at p3; cases p3
      exact ⟨p1, p2, u0, u1, u2, u3, (other _ _ this).trans p3, p4.keep (hkp _) (Nat.le_refl _) (Nat.le_refl _)⟩
    · obtain rfl := List.mem_singleton.1 hr
      exact ⟨hB, hcb, v0, v1, v2, v3, (other _ _ hnp).trans hp, hE.keep (hkp _) (Nat.le_refl _) (Nat.le_refl _)⟩
  · rw [List.map_append, List.nodup_append]
    refine ⟨h7, by simp, fun a ha b hb' => ?_⟩
    obtain ⟨r, hr, rfl⟩ := List.mem_map.1 ha
    obtain rfl : b = pn := by simpa using hb'
    exact hnew r hr

/-- A new record: its block laid, its entry put into the map. -/
theorem HeldAt.alloc_push {w : World} {L B1 cb hb s : Nat} {M : List HR} {es : Array MapEntry} {clk : Nat} (h : HeldAt w L B1 cb hb M) (h5 : w.heap[hb]? = some (.map es clk)) (h5' : es.toList = (M.map HR.toRec).map HRec.me)
    (hs : w.heap.size = s + 2) (i prev : Int) {v0 v1 v2 v3 : Value} {e : Ent} (hE : EntV w L B1 v0 v1 v2 v3 e) (hcb : cb < s) :
    HeldAt (setBlock (w.alloc (.cells #[v0, v1, v2, v3, .int .u64 prev, .int .i64 1] 96)) hb (.map (es.push ⟨posKey i e.term, .pointer (some ⟨s + 2, 0, none⟩), clk⟩) (clk + 1))) L B1 cb hb (M ++ [⟨⟨i, e.term, e, prev, 1⟩, s + 2, clk⟩]) := by
  have hb0 : Below w.heap.size w (w.alloc (.cells #[v0, v1, v2, v3, .int .u64 prev, .int .i64 1] 96)) := (Below.refl _ _).alloc (Nat.le_refl _) _
  have hB1 := h.2.2.1
  refine (h.below hb0).push ((hb0.block hb (Array.getElem?_eq_some_iff.1 h5).1).trans h5) h5' (pn := s + 2) ?_ (hE.keep ((Keeps.of_below hb0).mono (Nat.le_refl _) hB1) (Nat.le_refl _) (Nat.le_refl _)) (by omega) (by omega) (fun r hr => ?_)
  · rw [← hs]; exact heap_alloc_new _ _
  · obtain ⟨_, _, _, _, _, _, q3, _⟩ := h.2.2.2.2.2.1 r hr
    have := (Array.getElem?_eq_some_iff.1 q3).1
    omega

end Go.Proofs.Qxb6604092a
