import Derived.Test.Qxb6604092aZZNew
import Derived.WideKeyRuns
import Derived.ChangeMaps4
import Derived.Laws.StructEq
namespace Go.Proofs.Qxb6604092a
open Go.RowKit
open Go.ChangeMaps (setBlock)

/-! ### The map of what is held: keys are positions (index, term), elements pointers -/
def posKey (i t : Int) : Value := .agg #[.int .u64 i, .int .u64 t]
structure HRec where
  idx : Int
  term : Int
  pb : Nat
  born : Nat
def HRec.me (r : HRec) : MapEntry := ⟨posKey r.idx r.term, .pointer (some ⟨r.pb, 0, none⟩), r.born⟩
def HRec.is (i t : Int) (r : HRec) : Bool := decide (i = r.idx ∧ t = r.term)
def hfind (M : List HRec) (i t : Int) : Option HRec := M.find? (HRec.is i t)

theorem run_posEq (w : World) (a b c d : Int) : (Op.equal 94 (posKey a b) (posKey c d)).run Try.prog w = .ok (decide (a = c ∧ b = d)) w := by
  have h := run_equalIn_struct (P := Try.prog) w 9999 94 #[.int .u64 a, .int .u64 b] #[.int .u64 c, .int .u64 d] (by kernel_rfl) (by kernel_rfl)
  have h2 : (Op.eqFields 9999 #[.int .u64 a, .int .u64 b] #[.int .u64 c, .int .u64 d] (Try.prog.fieldsOf 94).toList).run Try.prog w = .ok (decide (a = c ∧ b = d)) w := by
    simp only [Program.fieldsOf, Try.underlying94]
    simp [go_sem, Op.eqFields, Try.underlying26]
    split <;> (try split) <;> simp_all
  exact h.trans h2

theorem run_posCheck (w : World) (em : Bool) (i t : Int) : (Instr.checkKey em 10000 94 (posKey i t)).run Try.prog w = .ok () w := by
  show (Instr.checkKey em (9998 + 1 + 1) 94 (posKey i t)).run Try.prog w = .ok () w
  generalize 9998 = n
  simp only [Instr.checkKey, posKey, Sem.run_bind, run_underlying Try.underlying94, Result.andThen_ok]
  simp [go_sem]

theorem run_posAsk (w : World) (i t : Int) : ∀ (M : List HRec) (k : Nat), (Instr.findAsking 94 (posKey i t) (M.map HRec.me) k).run Try.prog w =
    .ok ((M.findIdx? (HRec.is i t)).map (fun j => (k + j, (.pointer (((hfind M i t).map fun r => (⟨r.pb, 0, none⟩ : Addr))) : Value)))) w
  | [], k => by simp [Instr.findAsking]
  | r :: M, k => by
    have ih := run_posAsk w i t M (k + 1)
    simp only [List.map_cons, Instr.findAsking, HRec.me, Sem.run_bind, run_posEq, Result.andThen_ok, hfind, List.find?_cons, List.findIdx?_cons]
    by_cases h : i = r.idx ∧ t = r.term
    · have hd : HRec.is i t r = true := decide_eq_true h
      simp only [decide_eq_true h, hd, if_true, Sem.run_pure]
      rfl
    · have hd : HRec.is i t r = false := decide_eq_false h
      simp only [decide_eq_false h, hd, Bool.false_eq_true, if_false]
      refine ih.trans ?_
      congr 1
      simp only [hfind, Option.map_map]
      congr 1
      funext j
      simp [Nat.add_assoc, Nat.add_comm 1 j]

theorem findIdx_none {M : List HRec} {i t : Int} (h : hfind M i t = none) : M.findIdx? (HRec.is i t) = none := by
  rw [List.findIdx?_eq_none_iff]
  simpa [hfind] using h
theorem findIdx_some {M : List HRec} {i t : Int} {r : HRec} (h : hfind M i t = some r) : ∃ j, M.findIdx? (HRec.is i t) = some j := by
  cases hj : M.findIdx? (HRec.is i t) with
  | some j => exact ⟨j, rfl⟩
  | none =>
    rw [List.findIdx?_eq_none_iff] at hj
    have : M.find? (HRec.is i t) = none := List.find?_eq_none.2 (fun x hx => by simp [hj x hx])
    rw [hfind, this] at h
    cases h

/-- What a look-up gives: a pointer, nil where there is none. -/
def ptrOf (o : Option HRec) : Value := .pointer (o.map fun r => ⟨r.pb, 0, none⟩)

theorem run_lookup_pos (w : World) {hb : Nat} {es : Array MapEntry} {clk : Nat} {M : List HRec} (hm : w.heap[hb]? = some (.map es clk)) (he : es.toList = M.map HRec.me) (i t : Int) :
    (Instr.lookup 37 (.map (some hb)) (posKey i t) false).run Try.prog w = .ok (ptrOf (hfind M i t)) w := by
  have hz : (zeroValue 92).run Try.prog w = .ok (.pointer none) w := by kernel_rfl
  have h1 : (Instr.findKey 94 (posKey i t) es.toList).run Try.prog w = .ok ((M.findIdx? (HRec.is i t)).map (fun j => (0 + j, (.pointer (((hfind M i t).map fun r => (⟨r.pb, 0, none⟩ : Addr))) : Value)))) w := by
    rw [run_findKey_eq (P := Try.prog) w (k := 94) (by rw [Try.underlying94]), he]
    exact run_posAsk w i t M 0
  cases h : hfind M i t with
  | none =>
    rw [findIdx_none h] at h1
    simp [Instr.lookup, run_underlying Try.underlying37, MapKept.run_getObj_map hm, run_posCheck, h1, hz, Result.andThen, ptrOf]
  | some r =>
    obtain ⟨j, hj⟩ := findIdx_some h
    rw [hj, h] at h1
    simp [Instr.lookup, run_underlying Try.underlying37, MapKept.run_getObj_map hm, run_posCheck, h1, Result.andThen, ptrOf]

theorem run_update_pos (w : World) {hb : Nat} {es : Array MapEntry} {clk : Nat} {M : List HRec} (hm : w.heap[hb]? = some (.map es clk)) (he : es.toList = M.map HRec.me) (i t : Int) (h : hfind M i t = none) (v : Value) :
    (Instr.mapUpdate 37 (.map (some hb)) (posKey i t) v).run Try.prog w = .ok () (setBlock w hb (.map (es.push ⟨posKey i t, v, clk⟩) (clk + 1))) := by
  have h1 : (Instr.findKey 94 (posKey i t) es.toList).run Try.prog w = .ok none w := by
    rw [run_findKey_eq (P := Try.prog) w (k := 94) (by rw [Try.underlying94]), he, run_posAsk w i t M 0, findIdx_none h]
    rfl
  simp [Instr.mapUpdate, run_underlying Try.underlying37, MapKept.run_getObj_map hm, run_posCheck, h1, MapKept.run_setObj_map _ hm, Result.andThen, setBlock]
end Go.Proofs.Qxb6604092a
