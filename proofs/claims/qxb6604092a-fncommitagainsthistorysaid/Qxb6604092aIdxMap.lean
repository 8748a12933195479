import Derived.Test.Qxb6604092aPosMap
import Derived.Test.Qxb6604092aSame
import Derived.MapKept
namespace Go.Proofs.Qxb6604092a
open Go.RowKit
open Go.ChangeMaps (setBlock)

/-! ### What commit does, as plain functions -/
/-- One call of commit: the entry's index, the entry, the node's term. -/
structure CCall where
  idx : Int
  e : Ent
  nt : Int
/-- A commitment: the entry handed at an index, and the least term. -/
structure CP where
  idx : Int
  e : Ent
  term : Int
def CP.is (i : Int) (p : CP) : Bool := decide (i = p.idx)
def mx (a b : Int) : Int := if a < b then b else a
def mn2 (a b : Int) : Int := if b < a then b else a
def CP.low (t : Int) (p : CP) : CP := { p with term := mn2 p.term t }
/-- The first commitment at the index learns of a term. -/
def lower (i t : Int) : List CP → List CP
  | [] => []
  | p :: A => if CP.is i p then p.low t :: A else p :: lower i t A
/-- What the checker knows of commitments and members. -/
structure CSt where
  A : List CP
  last : Int
  chg : Int
  mn : Bool
  ms : List Int
def commitStep (S : CSt) (c : CCall) : CSt × Bool × Bool :=
  match S.A.find? (CP.is c.idx) with
  | none =>
    ({ A := S.A ++ [⟨c.idx, c.e, c.nt⟩], last := mx S.last c.idx,
       chg := if c.e.mn = false ∧ S.chg < c.idx then c.idx else S.chg,
       mn := if c.e.mn = false ∧ S.chg < c.idx then c.e.mn else S.mn,
       ms := if c.e.mn = false ∧ S.chg < c.idx then c.e.mems else S.ms }, true, true)
  | some p => ({ S with A := lower c.idx c.nt S.A }, sameE p.e c.e, decide (c.nt < p.term))

/-! ### The map of commitments: keys are indexes, elements pointers -/
structure CR where
  p : CP
  pb : Nat
  born : Nat
def CR.me (r : CR) : MapEntry := ⟨.int .u64 r.p.idx, .pointer (some ⟨r.pb, 0, none⟩), r.born⟩
def CR.is (i : Int) (r : CR) : Bool := CP.is i r.p
def cfind (M : List CR) (i : Int) : Option CR := M.find? (CR.is i)
def cptr (o : Option CR) : Value := .pointer (o.map fun r => ⟨r.pb, 0, none⟩)

theorem run_idxNow (i : Int) : ∀ (M : List CR) (k : Nat), Instr.findNow (.int .u64) (.int .u64 i) (M.map CR.me) k = some ((M.findIdx? (CR.is i)).map (fun j => (k + j, cptr (cfind M i))))
  | [], k => by simp [Instr.findNow]
  | r :: M, k => by
    have ih := run_idxNow i M (k + 1)
    simp only [List.map_cons, Instr.findNow, CR.me, Instr.sameNow, cfind, List.find?_cons, List.findIdx?_cons]
    by_cases h : i = r.p.idx
    · have hd : CR.is i r = true := decide_eq_true h
      simp only [hd, if_true]
      rw [show (i == r.p.idx) = true by simpa using h]
      rfl
    · have hd : CR.is i r = false := decide_eq_false h
      simp only [hd, if_true]
      rw [show (i == r.p.idx) = false by simpa using h]
      simp only []
      refine ih.trans ?_
      simp only [Bool.false_eq_true, if_false, Option.map_map]
      congr 2
      funext j
      simp [Nat.add_assoc, Nat.add_comm 1 j, cfind]

theorem cfindIdx_none {M : List CR} {i : Int} (h : cfind M i = none) : M.findIdx? (CR.is i) = none := by
  rw [List.findIdx?_eq_none_iff]
  simpa [cfind] using h
theorem cfindIdx_some {M : List CR} {i : Int} {r : CR} (h : cfind M i = some r) : ∃ j, M.findIdx? (CR.is i) = some j := by
  cases hj : M.findIdx? (CR.is i) with
  | some j => exact ⟨j, rfl⟩
  | none =>
    rw [List.findIdx?_eq_none_iff] at hj
    have : M.find? (CR.is i) = none := List.find?_eq_none.2 (fun x hx => by simp [hj x hx])
    rw [cfind, this] at h
    cases h

theorem run_idxCheck (w : World) (em : Bool) (i : Int) : (Instr.checkKey em 10000 26 (.int .u64 i)).run Try.prog w = .ok () w := by
  show (Instr.checkKey em (9999 + 1) 26 (.int .u64 i)).run Try.prog w = .ok () w
  generalize 9999 = n
  simp [Instr.checkKey, run_underlying Try.underlying26]

theorem run_lookup_idx (w : World) {mb : Nat} {es : Array MapEntry} {clk : Nat} {M : List CR} (hm : w.heap[mb]? = some (.map es clk)) (he : es.toList = M.map CR.me) (i : Int) :
    (Instr.lookup 38 (.map (some mb)) (.int .u64 i) false).run Try.prog w = .ok (cptr (cfind M i)) w := by
  have hz : (zeroValue 102).run Try.prog w = .ok (.pointer none) w := by kernel_rfl
  have h1 : (Instr.findKey 26 (.int .u64 i) es.toList).run Try.prog w = .ok ((M.findIdx? (CR.is i)).map (fun j => (0 + j, cptr (cfind M i)))) w := by
    rw [he]
    exact MapKept.run_findKey Try.underlying26 (run_idxNow i M 0)
  cases h : cfind M i with
  | none =>
    rw [cfindIdx_none h] at h1
    simp [Instr.lookup, run_underlying Try.underlying38, MapKept.run_getObj_map hm, run_idxCheck, h1, hz, Result.andThen, cptr]
  | some r =>
    obtain ⟨j, hj⟩ := cfindIdx_some h
    rw [hj, h] at h1
    simp [Instr.lookup, run_underlying Try.underlying38, MapKept.run_getObj_map hm, run_idxCheck, h1, Result.andThen, cptr]

theorem run_update_idx (w : World) {mb : Nat} {es : Array MapEntry} {clk : Nat} {M : List CR} (hm : w.heap[mb]? = some (.map es clk)) (he : es.toList = M.map CR.me) (i : Int) (h : cfind M i = none) (v : Value) :
    (Instr.mapUpdate 38 (.map (some mb)) (.int .u64 i) v).run Try.prog w = .ok () (setBlock w mb (.map (es.push ⟨.int .u64 i, v, clk⟩) (clk + 1))) := by
  have h1 : (Instr.findKey 26 (.int .u64 i) es.toList).run Try.prog w = .ok none w := by
    rw [he]
    have := MapKept.run_findKey (w := w) Try.underlying26 (run_idxNow i M 0)
    rw [cfindIdx_none h] at this
    exact this
  simp [Instr.mapUpdate, run_underlying Try.underlying38, MapKept.run_getObj_map hm, run_idxCheck, h1, MapKept.run_setObj_map _ hm, Result.andThen, setBlock]
end Go.Proofs.Qxb6604092a
