import Derived.Test.Qxb6604092aSizes
import Derived.Orders
import Derived.Laws.Tables
import Derived.Laws.CopyOwn
namespace Go.Proofs.Qxb6604092a
open Go.RowKit

/-! ### A region that draws its order, by an invariant -/
section
variable {P : Program} {ops : Array Oper} {Q : Exit → Act → World → Prop}
theorem count_set {listed : Array Bool} {i : Nat} (h : listed.getD i true = false) : (listed.setIfInBounds i true).toList.count false + 1 = listed.toList.count false := by
  have hlt : i < listed.size := by
    rcases Nat.lt_or_ge i listed.size with h' | h'
    · exact h'
    · simp [Array.getElem?_eq_none h'] at h
  have hv : listed[i] = false := by simpa [hlt] using h
  rw [Array.toList_setIfInBounds, List.count_set (by simpa using hlt)]
  have hpos : 0 < listed.toList.count false := List.count_pos_iff.2 (by rw [← hv]; simp)
  simp [hv]
  have : 0 < Array.count false listed := by simpa using hpos
  omega
theorem wpAny_inv (I : Array Bool → Act → World → Prop)
    (hstep : ∀ listed a w i, I listed a w → i ∈ Region.ready .any ops listed → wpOp P ops Q i (I (listed.setIfInBounds i true)) a w)
    (hend : ∀ listed a w, I listed a w → Region.ready .any ops listed = [] → Q .normal a w) :
    ∀ (fuel : Nat) (listed : Array Bool) (a : Act) (w : World), listed.toList.count false ≤ fuel → I listed a w → wpAny P .any ops Q fuel listed a w := by
  intro fuel
  induction fuel with
  | zero =>
    intro listed a w hc hI
    have hr : Region.ready .any ops listed = [] := by
      rw [List.eq_nil_iff_forall_not_mem]
      intro i hi
      have h0 := (mem_ready.1 hi).1
      have := count_set h0
      omega
    exact ⟨hr, hend _ _ _ hI hr⟩
  | succ fuel ih =>
    intro listed a w hc hI
    refine ⟨fun hr => hend _ _ _ hI hr, fun i hi => ?_⟩
    have h0 := (mem_ready.1 hi).1
    have := count_set h0
    exact wpOp_mono (fun a' w' h => ih _ a' w' (by omega) h) (hstep _ _ _ i hI hi)
theorem wp_region_inv {id : Nat} {a : Act} {w : World} (hm : P.follows .mixedOrders = true) (I : Array Bool → Act → World → Prop)
    (h0 : I (Array.replicate ops.size false) a w.drew)
    (hstep : ∀ listed a w i, I listed a w → i ∈ Region.ready .any ops listed → wpOp P ops Q i (I (listed.setIfInBounds i true)) a w)
    (hend : ∀ listed a w, I listed a w → Region.ready .any ops listed = [] → Q .normal a w) : (Code.region id ops true).wp P Q a w :=
  wp_region_any hm (wpAny_inv I hstep hend ops.size _ a _ (by simp) h0)
end


/-- A map that the call has made, empty. -/
def IsMap (B : Nat) (w : World) (x : Value) : Prop := ∃ r, x = .map (some r) ∧ B < r ∧ w.heap[r]? = some (.map #[] 0)
def IsSlice (x : Value) : Prop := ∃ a n c, x = .slice a n c
def zeroCk : Array Value := #[.map none, .map none, .map none, .slice none 0 0, .map none, .map none, .int .u64 0, .slice none 0 0, .int .u64 0, .slice none 0 0, .slice none 0 0, .slice none 0 0]
def ckOf (v x5 x6 x7 x8 x9 x12 x14 x16 : Value) : Array Value := #[x5, x6, x7, .slice none 0 0, x8, x9, .int .u64 0, v, .int .u64 0, x12, x14, x16]

def CkInv (v : Value) (w : World) (l : Array Bool) (a : Act) (w' : World) : Prop :=
  ∃ x5 x6 x7 x8 x9 x10 x11 x12 x13 x14 x15 x16 x17 cs,
    a = ⟨#[.int .i64 0, v, undef, undef, .pointer (some ⟨w.heap.size, 0, none⟩), x5, x6, x7, x8, x9, x10, x11, x12, x13, x14, x15, x16, x17], []⟩ ∧
    Below w.heap.size w w' ∧ w'.heap[w.heap.size]? = some (.cells cs 41 (0, 0)) ∧
    (l.getD 0 false = true → IsMap w.heap.size w' x5) ∧ (l.getD 1 false = true → IsMap w.heap.size w' x6) ∧ (l.getD 2 false = true → IsMap w.heap.size w' x7) ∧
    (l.getD 3 false = true → IsMap w.heap.size w' x8) ∧ (l.getD 4 false = true → IsMap w.heap.size w' x9) ∧ (l.getD 3 false = true → l.getD 4 false = true → x8 ≠ x9) ∧
    (l.getD 5 false = true → x10 = v) ∧ (l.getD 6 false = true → x11 = .int .i64 0) ∧ (l.getD 7 false = true → IsSlice x12) ∧
    (l.getD 8 false = true → x13 = .int .i64 0) ∧ (l.getD 9 false = true → IsSlice x14) ∧ (l.getD 10 false = true → x15 = .int .i64 0) ∧ (l.getD 11 false = true → IsSlice x16) ∧
    (l.getD 12 false = true → x17 = .agg (ckOf v x5 x6 x7 x8 x9 x12 x14 x16)) ∧
    (l.getD 13 false = false → cs = zeroCk) ∧ (l.getD 13 false = true → cs = ckOf v x5 x6 x7 x8 x9 x12 x14 x16) ∧
    l.size = 14 ∧ (l.getD 12 false = true → ∀ j, j < 12 → j ≠ 6 → j ≠ 8 → j ≠ 10 → l.getD j false = true) ∧ (l.getD 13 false = true → ∀ j, j < 13 → l.getD j false = true)


section
variable {P : Program} {ops : Array Oper} {Q : Exit → Act → World → Prop} {K : Act → World → Prop} {a : Act} {w : World} {i : Nat} {o : Oper}
theorem wpOp_value (ho : ops[i]? = some o) (hg : o.guard = none) {v : Value} {w' : World} (hr : (execOp a.eval o).run P w = .ok (.value v) w') (h : K (a.put o.dst v) w') : wpOp P ops Q i K a w := by
  simp only [wpOp, ho, Region.wanted, hg, if_true, Oper.wp, hr, Oper.upon]
  exact .inl h
theorem wpOp_unit (ho : ops[i]? = some o) (hg : o.guard = none) {w' : World} (hr : (execOp a.eval o).run P w = .ok .skip w') (h : K (a.put o.dst undef) w') : wpOp P ops Q i K a w := by
  simp only [wpOp, ho, Region.wanted, hg, if_true, Oper.wp, hr, Oper.upon]
  exact .inl h
theorem wpOp_wp (ho : ops[i]? = some o) (hg : o.guard = none) (h : o.wp P a w K Q) : wpOp P ops Q i K a w := by
  simp only [wpOp, ho, Region.wanted, hg, if_true]
  exact .inl h
theorem wp_build_to (t : TypeId) (parts : Array (Nat × Operand)) (hop : o.op = .build t parts) {ps : List (Nat × Value)} (hp : (parts.map fun (i, x) => (i, a.eval x)).toList = ps) {cells : Array Value} (hb : P.built t ps = some cells) (h : K (a.put o.dst (.agg cells)) w) : o.wp P a w K Q := by
  refine wp_build t parts hop (by rw [hp, hb]; rfl) ?_
  rw [hp, hb]
  exact h
theorem wpOp_move (x : Operand) (ho : ops[i]? = some o) (hg : o.guard = none) (hop : o.op = .move x) (h : K (a.put o.dst (a.eval x)) w) : wpOp P ops Q i K a w :=
  wpOp_value ho hg (by simp [execOp, hop, Sem.run_pure]) h
theorem wpOp_makeMap (t : TypeId) (ho : ops[i]? = some o) (hg : o.guard = none) (hop : o.op = .makeMap t none) (h : K (a.put o.dst (.map (some w.heap.size))) (w.alloc (.map #[] 0))) : wpOp P ops Q i K a w :=
  wpOp_value ho hg (by simp [execOp, hop, run_makeMap, Result.andThen]) h
end
theorem run_make0 (w : World) : (Instr.makeSlice 36 (.int .i64 0) (.int .i64 0)).run Try.prog w = .ok (.slice (some ⟨w.heap.size, 0, none⟩) 0 0) (w.alloc (.cells #[] 26)) := by kernel_rfl
theorem wpOp_make0 {ops : Array Oper} {Q : Exit → Act → World → Prop} {K : Act → World → Prop} {a : Act} {w : World} {i : Nat} {o : Oper} (l : Operand) (ho : ops[i]? = some o) (hg : o.guard = none) (hop : o.op = .makeSlice 36 l l) (hl : a.eval l = .int .i64 0)
    (h : K (a.put o.dst (.slice (some ⟨w.heap.size, 0, none⟩) 0 0)) (w.alloc (.cells #[] 26))) : wpOp Try.prog ops Q i K a w :=
  wpOp_value ho hg (by simp [execOp, hop, hl, run_make0, Result.andThen]) h

theorem IsMap.alloc {B : Nat} {w : World} {x : Value} (h : IsMap B w x) (o : Obj) : IsMap B (w.alloc o) x := by
  obtain ⟨r, rfl, h1, h2⟩ := h
  exact ⟨r, rfl, h1, by rw [Below.heap_alloc _ _ _ (Array.getElem?_eq_some_iff.1 h2).1]; exact h2⟩
theorem IsMap.new {B : Nat} {w : World} (h : B < w.heap.size) : IsMap B (w.alloc (.map #[] 0)) (.map (some w.heap.size)) :=
  ⟨_, rfl, h, by show (w.heap.push _)[w.heap.size]? = _; simp⟩
theorem IsMap.ne {B : Nat} {w : World} {x : Value} (h : IsMap B w x) : x ≠ .map (some w.heap.size) := by
  obtain ⟨r, rfl, h1, h2⟩ := h
  have := (Array.getElem?_eq_some_iff.1 h2).1
  intro e
  simp at e
  omega
theorem IsMap.setBlock {B : Nat} {w w' : World} {x : Value} (h : IsMap B w x) (hk : ∀ k, B < k → w'.heap[k]? = w.heap[k]?) : IsMap B w' x := by
  obtain ⟨r, rfl, h1, h2⟩ := h
  exact ⟨r, rfl, h1, (hk r h1).trans h2⟩
theorem set_ne {l : Array Bool} {i j : Nat} (h : i ≠ j) : (l.setIfInBounds i true).getD j false = l.getD j false := getD_set_ne false h
theorem dep {l : Array Bool} {o : Oper} (h : ∀ e ∈ o.after, Region.binds .any e = true → l.getD e.on false = true) (j : Nat) (g : Ground) (hg : Region.binds .any ⟨j, g⟩ = true) (hm : (⟨j, g⟩ : Edge) ∈ o.after) : l.getD j false = true := h _ hm hg
/-- What a new checker is: its fields' cells; its maps are new, empty; the two that matter are two. -/
def MadeCk (B : Nat) (v : Value) (r : Ending) (w' : World) : Prop :=
  ∃ x5 x6 x7 x8 x9 x12 x14 x16, r = .returned (.agg (ckOf v x5 x6 x7 x8 x9 x12 x14 x16)) ∧ IsMap B w' x5 ∧ IsMap B w' x6 ∧ IsMap B w' x7 ∧ IsMap B w' x8 ∧ IsMap B w' x9 ∧ x8 ≠ x9 ∧ IsSlice x12 ∧ IsSlice x14 ∧ IsSlice x16

theorem all_listed {ops : Array Oper} {l : Array Bool} (hr : Region.ready .any ops l = []) (hs : l.size = ops.size) (hlex : (List.range ops.size).all (fun j => ((ops[j]?).map fun o => o.after.all fun e => decide (e.on < j)).getD true) = true) : ∀ j, j < ops.size → l.getD j false = true := by
  intro j
  induction j using Nat.strongRecOn with
  | _ j ih =>
    intro hj
    have hjl : j < l.size := by omega
    cases hb : l.getD j false with
    | true => rfl
    | false =>
      exfalso
      have hmem : j ∈ Region.ready .any ops l := by
        rw [mem_ready]
        refine ⟨by simpa [hjl] using hb, ops[j], by simp [hj], fun e he _ => ?_⟩
        have h1 := List.all_eq_true.1 hlex j (List.mem_range.2 hj)
        simp only [Array.getElem?_eq_getElem hj, Option.map_some, Option.getD_some] at h1
        have h2 := Array.all_eq_true_iff_forall_mem.1 h1 e he
        exact ih e.on (by simpa using h2) (by have : e.on < j := by simpa using h2
                                              omega)
      rw [hr] at hmem
      cases hmem
theorem set_at {l : Array Bool} {i : Nat} (h : l.getD i true = false) : (l.setIfInBounds i true).getD i false = true := by
  have hlt : i < l.size := by
    rcases Nat.lt_or_ge i l.size with h' | h'
    · exact h'
    · simp [Array.getElem?_eq_none h'] at h
  simp [hlt]
theorem not_listed {l : Array Bool} {i : Nat} (h : l.getD i true = false) : ¬ l.getD i false = true := by
  simp only [Array.getD_eq_getD_getElem?] at h ⊢
  cases hl : l[i]? with
  | none => simp [hl] at h
  | some b => simp [hl] at h; simp [h]

set_option maxRecDepth 20000 in
set_option maxHeartbeats 4000000 in
theorem newChecker (ao : Option Addr) (mn mc : Nat) (w : World) :
    Calls Try.prog 45 #[.int .i64 0, .slice ao mn mc] w fun r w' => MadeCk w.heap.size (.slice ao mn mc) r w' ∧ Below w.heap.size w w' := by
  go_enter Try.func45, Try.ntmps45
  go_wp2
  refine wp_region_inv (by kernel_rfl) (CkInv (.slice ao mn mc) w) ?_ ?_ ?_
  · refine ⟨undef, undef, undef, undef, undef, undef, undef, undef, undef, undef, undef, undef, undef, zeroCk, rfl, ((Below.refl _ _).alloc (Nat.le_refl _) _).drew, ?_, ?_⟩
    · show (w.heap.push _)[w.heap.size]? = _
      simp [zeroCk]
    · simp [Array.getElem?_replicate]
  · intro l a w' i hI hi
    rw [mem_ready] at hi
    obtain ⟨hun, o, ho, hdep⟩ := hi
    obtain ⟨x5, x6, x7, x8, x9, x10, x11, x12, x13, x14, x15, x16, x17, cs, rfl, hb, hcs, h0, h1, h2, h3, h4, h34, h5, h6, h7, h8, h9, h10, h11, h12, h13, h13', dsz, d12, d13⟩ := hI
    have hlt : w.heap.size < w'.heap.size := (Array.getElem?_eq_some_iff.1 hcs).1
    match i, ho, hun with
    | 0, ho, hun =>
      have hno := not_listed hun
      obtain rfl := Option.some.inj (show some _ = some o from ho)
      refine wpOp_makeMap 33 ho rfl rfl ?_
      exact ⟨(.map (some w'.heap.size)), x6, x7, x8, x9, x10, x11, x12, x13, x14, x15, x16, x17, cs, rfl, hb.alloc hb.size _, (by rw [Below.heap_alloc _ _ _ hlt]; exact hcs), (fun _ => IsMap.new hlt), (fun q => by rw [set_ne (by decide)] at q; exact (h1 q).alloc _), (fun q => by rw [set_ne (by decide)] at q; exact (h2 q).alloc _), (fun q => by rw [set_ne (by decide)] at q; exact (h3 q).alloc _), (fun q => by rw [set_ne (by decide)] at q; exact (h4 q).alloc _), (by rw [set_ne (by decide), set_ne (by decide)]; exact h34), (by rw [set_ne (by decide)]; exact h5), (by rw [set_ne (by decide)]; exact h6), (by rw [set_ne (by decide)]; exact h7), (by rw [set_ne (by decide)]; exact h8), (by rw [set_ne (by decide)]; exact h9), (by rw [set_ne (by decide)]; exact h10), (by rw [set_ne (by decide)]; exact h11), (fun q => absurd (d12 (by rw [set_ne (by decide)] at q; exact q) 0 (by decide) (by decide) (by decide) (by decide)) hno), (by rw [set_ne (by decide)]; exact h13), (fun q => absurd (d13 (by rw [set_ne (by decide)] at q; exact q) 0 (by decide)) hno), (by simpa using dsz), (fun q j a1 a2 a3 a4 => getD_set_true (d12 (by rw [set_ne (by decide)] at q; exact q) j a1 a2 a3 a4)), (fun q j a1 => getD_set_true (d13 (by rw [set_ne (by decide)] at q; exact q) j a1))⟩
    | 1, ho, hun =>
      have hno := not_listed hun
      obtain rfl := Option.some.inj (show some _ = some o from ho)
      refine wpOp_makeMap 34 ho rfl rfl ?_
      exact ⟨x5, (.map (some w'.heap.size)), x7, x8, x9, x10, x11, x12, x13, x14, x15, x16, x17, cs, rfl, hb.alloc hb.size _, (by rw [Below.heap_alloc _ _ _ hlt]; exact hcs), (fun q => by rw [set_ne (by decide)] at q; exact (h0 q).alloc _), (fun _ => IsMap.new hlt), (fun q => by rw [set_ne (by decide)] at q; exact (h2 q).alloc _), (fun q => by rw [set_ne (by decide)] at q; exact (h3 q).alloc _), (fun q => by rw [set_ne (by decide)] at q; exact (h4 q).alloc _), (by rw [set_ne (by decide), set_ne (by decide)]; exact h34), (by rw [set_ne (by decide)]; exact h5), (by rw [set_ne (by decide)]; exact h6), (by rw [set_ne (by decide)]; exact h7), (by rw [set_ne (by decide)]; exact h8), (by rw [set_ne (by decide)]; exact h9), (by rw [set_ne (by decide)]; exact h10), (by rw [set_ne (by decide)]; exact h11), (fun q => absurd (d12 (by rw [set_ne (by decide)] at q; exact q) 1 (by decide) (by decide) (by decide) (by decide)) hno), (by rw [set_ne (by decide)]; exact h13), (fun q => absurd (d13 (by rw [set_ne (by decide)] at q; exact q) 1 (by decide)) hno), (by simpa using dsz), (fun q j a1 a2 a3 a4 => getD_set_true (d12 (by rw [set_ne (by decide)] at q; exact q) j a1 a2 a3 a4)), (fun q j a1 => getD_set_true (d13 (by rw [set_ne (by decide)] at q; exact q) j a1))⟩
    | 2, ho, hun =>
      have hno := not_listed hun
      obtain rfl := Option.some.inj (show some _ = some o from ho)
      refine wpOp_makeMap 35 ho rfl rfl ?_
      exact ⟨x5, x6, (.map (some w'.heap.size)), x8, x9, x10, x11, x12, x13, x14, x15, x16, x17, cs, rfl, hb.alloc hb.size _, (by rw [Below.heap_alloc _ _ _ hlt]; exact hcs), (fun q => by rw [set_ne (by decide)] at q; exact (h0 q).alloc _), (fun q => by rw [set_ne (by decide)] at q; exact (h1 q).alloc _), (fun _ => IsMap.new hlt), (fun q => by rw [set_ne (by decide)] at q; exact (h3 q).alloc _), (fun q => by rw [set_ne (by decide)] at q; exact (h4 q).alloc _), (by rw [set_ne (by decide), set_ne (by decide)]; exact h34), (by rw [set_ne (by decide)]; exact h5), (by rw [set_ne (by decide)]; exact h6), (by rw [set_ne (by decide)]; exact h7), (by rw [set_ne (by decide)]; exact h8), (by rw [set_ne (by decide)]; exact h9), (by rw [set_ne (by decide)]; exact h10), (by rw [set_ne (by decide)]; exact h11), (fun q => absurd (d12 (by rw [set_ne (by decide)] at q; exact q) 2 (by decide) (by decide) (by decide) (by decide)) hno), (by rw [set_ne (by decide)]; exact h13), (fun q => absurd (d13 (by rw [set_ne (by decide)] at q; exact q) 2 (by decide)) hno), (by simpa using dsz), (fun q j a1 a2 a3 a4 => getD_set_true (d12 (by rw [set_ne (by decide)] at q; exact q) j a1 a2 a3 a4)), (fun q j a1 => getD_set_true (d13 (by rw [set_ne (by decide)] at q; exact q) j a1))⟩
    | 3, ho, hun =>
      have hno := not_listed hun
      obtain rfl := Option.some.inj (show some _ = some o from ho)
      refine wpOp_makeMap 37 ho rfl rfl ?_
      exact ⟨x5, x6, x7, (.map (some w'.heap.size)), x9, x10, x11, x12, x13, x14, x15, x16, x17, cs, rfl, hb.alloc hb.size _, (by rw [Below.heap_alloc _ _ _ hlt]; exact hcs), (fun q => by rw [set_ne (by decide)] at q; exact (h0 q).alloc _), (fun q => by rw [set_ne (by decide)] at q; exact (h1 q).alloc _), (fun q => by rw [set_ne (by decide)] at q; exact (h2 q).alloc _), (fun _ => IsMap.new hlt), (fun q => by rw [set_ne (by decide)] at q; exact (h4 q).alloc _), (fun _ q => by rw [set_ne (by decide)] at q; exact (h4 q).ne.symm), (by rw [set_ne (by decide)]; exact h5), (by rw [set_ne (by decide)]; exact h6), (by rw [set_ne (by decide)]; exact h7), (by rw [set_ne (by decide)]; exact h8), (by rw [set_ne (by decide)]; exact h9), (by rw [set_ne (by decide)]; exact h10), (by rw [set_ne (by decide)]; exact h11), (fun q => absurd (d12 (by rw [set_ne (by decide)] at q; exact q) 3 (by decide) (by decide) (by decide) (by decide)) hno), (by rw [set_ne (by decide)]; exact h13), (fun q => absurd (d13 (by rw [set_ne (by decide)] at q; exact q) 3 (by decide)) hno), (by simpa using dsz), (fun q j a1 a2 a3 a4 => getD_set_true (d12 (by rw [set_ne (by decide)] at q; exact q) j a1 a2 a3 a4)), (fun q j a1 => getD_set_true (d13 (by rw [set_ne (by decide)] at q; exact q) j a1))⟩
    | 4, ho, hun =>
      have hno := not_listed hun
      obtain rfl := Option.some.inj (show some _ = some o from ho)
      refine wpOp_makeMap 38 ho rfl rfl ?_
      exact ⟨x5, x6, x7, x8, (.map (some w'.heap.size)), x10, x11, x12, x13, x14, x15, x16, x17, cs, rfl, hb.alloc hb.size _, (by rw [Below.heap_alloc _ _ _ hlt]; exact hcs), (fun q => by rw [set_ne (by decide)] at q; exact (h0 q).alloc _), (fun q => by rw [set_ne (by decide)] at q; exact (h1 q).alloc _), (fun q => by rw [set_ne (by decide)] at q; exact (h2 q).alloc _), (fun q => by rw [set_ne (by decide)] at q; exact (h3 q).alloc _), (fun _ => IsMap.new hlt), (fun q _ => by rw [set_ne (by decide)] at q; exact (h3 q).ne), (by rw [set_ne (by decide)]; exact h5), (by rw [set_ne (by decide)]; exact h6), (by rw [set_ne (by decide)]; exact h7), (by rw [set_ne (by decide)]; exact h8), (by rw [set_ne (by decide)]; exact h9), (by rw [set_ne (by decide)]; exact h10), (by rw [set_ne (by decide)]; exact h11), (fun q => absurd (d12 (by rw [set_ne (by decide)] at q; exact q) 4 (by decide) (by decide) (by decide) (by decide)) hno), (by rw [set_ne (by decide)]; exact h13), (fun q => absurd (d13 (by rw [set_ne (by decide)] at q; exact q) 4 (by decide)) hno), (by simpa using dsz), (fun q j a1 a2 a3 a4 => getD_set_true (d12 (by rw [set_ne (by decide)] at q; exact q) j a1 a2 a3 a4)), (fun q j a1 => getD_set_true (d13 (by rw [set_ne (by decide)] at q; exact q) j a1))⟩
    | 5, ho, hun =>
      have hno := not_listed hun
      obtain rfl := Option.some.inj (show some _ = some o from ho)
      refine wpOp_move (.tmp 1) ho rfl rfl ?_
      exact ⟨x5, x6, x7, x8, x9, (.slice ao mn mc), x11, x12, x13, x14, x15, x16, x17, cs, rfl, hb, hcs, (by rw [set_ne (by decide)]; exact h0), (by rw [set_ne (by decide)]; exact h1), (by rw [set_ne (by decide)]; exact h2), (by rw [set_ne (by decide)]; exact h3), (by rw [set_ne (by decide)]; exact h4), (by rw [set_ne (by decide), set_ne (by decide)]; exact h34), (fun _ => rfl), (by rw [set_ne (by decide)]; exact h6), (by rw [set_ne (by decide)]; exact h7), (by rw [set_ne (by decide)]; exact h8), (by rw [set_ne (by decide)]; exact h9), (by rw [set_ne (by decide)]; exact h10), (by rw [set_ne (by decide)]; exact h11), (by rw [set_ne (by decide)]; exact h12), (by rw [set_ne (by decide)]; exact h13), (by rw [set_ne (by decide)]; exact h13'), (by simpa using dsz), (fun q j a1 a2 a3 a4 => getD_set_true (d12 (by rw [set_ne (by decide)] at q; exact q) j a1 a2 a3 a4)), (fun q j a1 => getD_set_true (d13 (by rw [set_ne (by decide)] at q; exact q) j a1))⟩
    | 6, ho, hun =>
      have hno := not_listed hun
      obtain rfl := Option.some.inj (show some _ = some o from ho)
      refine wpOp_move (.tmp 0) ho rfl rfl ?_
      exact ⟨x5, x6, x7, x8, x9, x10, (.int .i64 0), x12, x13, x14, x15, x16, x17, cs, rfl, hb, hcs, (by rw [set_ne (by decide)]; exact h0), (by rw [set_ne (by decide)]; exact h1), (by rw [set_ne (by decide)]; exact h2), (by rw [set_ne (by decide)]; exact h3), (by rw [set_ne (by decide)]; exact h4), (by rw [set_ne (by decide), set_ne (by decide)]; exact h34), (by rw [set_ne (by decide)]; exact h5), (fun _ => rfl), (by rw [set_ne (by decide)]; exact h7), (by rw [set_ne (by decide)]; exact h8), (by rw [set_ne (by decide)]; exact h9), (by rw [set_ne (by decide)]; exact h10), (by rw [set_ne (by decide)]; exact h11), (by rw [set_ne (by decide)]; exact h12), (by rw [set_ne (by decide)]; exact h13), (by rw [set_ne (by decide)]; exact h13'), (by simpa using dsz), (fun q j a1 a2 a3 a4 => getD_set_true (d12 (by rw [set_ne (by decide)] at q; exact q) j a1 a2 a3 a4)), (fun q j a1 => getD_set_true (d13 (by rw [set_ne (by decide)] at q; exact q) j a1))⟩
    | 7, ho, hun =>
      have hno := not_listed hun
      obtain rfl := Option.some.inj (show some _ = some o from ho)
      have e0 := h6 (hdep ⟨6, .data⟩ (by simp) rfl)
      subst e0
      refine wpOp_make0 (.tmp 11) ho rfl rfl rfl ?_
      exact ⟨x5, x6, x7, x8, x9, x10, (.int .i64 0), (.slice (some ⟨w'.heap.size, 0, none⟩) 0 0), x13, x14, x15, x16, x17, cs, rfl, hb.alloc hb.size _, (by rw [Below.heap_alloc _ _ _ hlt]; exact hcs), (fun q => by rw [set_ne (by decide)] at q; exact (h0 q).alloc _), (fun q => by rw [set_ne (by decide)] at q; exact (h1 q).alloc _), (fun q => by rw [set_ne (by decide)] at q; exact (h2 q).alloc _), (fun q => by rw [set_ne (by decide)] at q; exact (h3 q).alloc _), (fun q => by rw [set_ne (by decide)] at q; exact (h4 q).alloc _), (by rw [set_ne (by decide), set_ne (by decide)]; exact h34), (by rw [set_ne (by decide)]; exact h5), (fun _ => rfl), (fun _ => ⟨_, _, _, rfl⟩), (by rw [set_ne (by decide)]; exact h8), (by rw [set_ne (by decide)]; exact h9), (by rw [set_ne (by decide)]; exact h10), (by rw [set_ne (by decide)]; exact h11), (fun q => absurd (d12 (by rw [set_ne (by decide)] at q; exact q) 7 (by decide) (by decide) (by decide) (by decide)) hno), (by rw [set_ne (by decide)]; exact h13), (fun q => absurd (d13 (by rw [set_ne (by decide)] at q; exact q) 7 (by decide)) hno), (by simpa using dsz), (fun q j a1 a2 a3 a4 => getD_set_true (d12 (by rw [set_ne (by decide)] at q; exact q) j a1 a2 a3 a4)), (fun q j a1 => getD_set_true (d13 (by rw [set_ne (by decide)] at q; exact q) j a1))⟩
    | 8, ho, hun =>
      have hno := not_listed hun
      obtain rfl := Option.some.inj (show some _ = some o from ho)
      refine wpOp_move (.tmp 0) ho rfl rfl ?_
      exact ⟨x5, x6, x7, x8, x9, x10, x11, x12, (.int .i64 0), x14, x15, x16, x17, cs, rfl, hb, hcs, (by rw [set_ne (by decide)]; exact h0), (by rw [set_ne (by decide)]; exact h1), (by rw [set_ne (by decide)]; exact h2), (by rw [set_ne (by decide)]; exact h3), (by rw [set_ne (by decide)]; exact h4), (by rw [set_ne (by decide), set_ne (by decide)]; exact h34), (by rw [set_ne (by decide)]; exact h5), (by rw [set_ne (by decide)]; exact h6), (by rw [set_ne (by decide)]; exact h7), (fun _ => rfl), (by rw [set_ne (by decide)]; exact h9), (by rw [set_ne (by decide)]; exact h10), (by rw [set_ne (by decide)]; exact h11), (by rw [set_ne (by decide)]; exact h12), (by rw [set_ne (by decide)]; exact h13), (by rw [set_ne (by decide)]; exact h13'), (by simpa using dsz), (fun q j a1 a2 a3 a4 => getD_set_true (d12 (by rw [set_ne (by decide)] at q; exact q) j a1 a2 a3 a4)), (fun q j a1 => getD_set_true (d13 (by rw [set_ne (by decide)] at q; exact q) j a1))⟩
    | 9, ho, hun =>
      have hno := not_listed hun
      obtain rfl := Option.some.inj (show some _ = some o from ho)
      have e0 := h8 (hdep ⟨8, .data⟩ (by simp) rfl)
      subst e0
      refine wpOp_make0 (.tmp 13) ho rfl rfl rfl ?_
      exact ⟨x5, x6, x7, x8, x9, x10, x11, x12, (.int .i64 0), (.slice (some ⟨w'.heap.size, 0, none⟩) 0 0), x15, x16, x17, cs, rfl, hb.alloc hb.size _, (by rw [Below.heap_alloc _ _ _ hlt]; exact hcs), (fun q => by rw [set_ne (by decide)] at q; exact (h0 q).alloc _), (fun q => by rw [set_ne (by decide)] at q; exact (h1 q).alloc _), (fun q => by rw [set_ne (by decide)] at q; exact (h2 q).alloc _), (fun q => by rw [set_ne (by decide)] at q; exact (h3 q).alloc _), (fun q => by rw [set_ne (by decide)] at q; exact (h4 q).alloc _), (by rw [set_ne (by decide), set_ne (by decide)]; exact h34), (by rw [set_ne (by decide)]; exact h5), (by rw [set_ne (by decide)]; exact h6), (by rw [set_ne (by decide)]; exact h7), (fun _ => rfl), (fun _ => ⟨_, _, _, rfl⟩), (by rw [set_ne (by decide)]; exact h10), (by rw [set_ne (by decide)]; exact h11), (fun q => absurd (d12 (by rw [set_ne (by decide)] at q; exact q) 9 (by decide) (by decide) (by decide) (by decide)) hno), (by rw [set_ne (by decide)]; exact h13), (fun q => absurd (d13 (by rw [set_ne (by decide)] at q; exact q) 9 (by decide)) hno), (by simpa using dsz), (fun q j a1 a2 a3 a4 => getD_set_true (d12 (by rw [set_ne (by decide)] at q; exact q) j a1 a2 a3 a4)), (fun q j a1 => getD_set_true (d13 (by rw [set_ne (by decide)] at q; exact q) j a1))⟩
    | 10, ho, hun =>
      have hno := not_listed hun
      obtain rfl := Option.some.inj (show some _ = some o from ho)
      refine wpOp_move (.tmp 0) ho rfl rfl ?_
      exact ⟨x5, x6, x7, x8, x9, x10, x11, x12, x13, x14, (.int .i64 0), x16, x17, cs, rfl, hb, hcs, (by rw [set_ne (by decide)]; exact h0), (by rw [set_ne (by decide)]; exact h1), (by rw [set_ne (by decide)]; exact h2), (by rw [set_ne (by decide)]; exact h3), (by rw [set_ne (by decide)]; exact h4), (by rw [set_ne (by decide), set_ne (by decide)]; exact h34), (by rw [set_ne (by decide)]; exact h5), (by rw [set_ne (by decide)]; exact h6), (by rw [set_ne (by decide)]; exact h7), (by rw [set_ne (by decide)]; exact h8), (by rw [set_ne (by decide)]; exact h9), (fun _ => rfl), (by rw [set_ne (by decide)]; exact h11), (by rw [set_ne (by decide)]; exact h12), (by rw [set_ne (by decide)]; exact h13), (by rw [set_ne (by decide)]; exact h13'), (by simpa using dsz), (fun q j a1 a2 a3 a4 => getD_set_true (d12 (by rw [set_ne (by decide)] at q; exact q) j a1 a2 a3 a4)), (fun q j a1 => getD_set_true (d13 (by rw [set_ne (by decide)] at q; exact q) j a1))⟩
    | 11, ho, hun =>
      have hno := not_listed hun
      obtain rfl := Option.some.inj (show some _ = some o from ho)
      have e0 := h10 (hdep ⟨10, .data⟩ (by simp) rfl)
      subst e0
      refine wpOp_make0 (.tmp 15) ho rfl rfl rfl ?_
      exact ⟨x5, x6, x7, x8, x9, x10, x11, x12, x13, x14, (.int .i64 0), (.slice (some ⟨w'.heap.size, 0, none⟩) 0 0), x17, cs, rfl, hb.alloc hb.size _, (by rw [Below.heap_alloc _ _ _ hlt]; exact hcs), (fun q => by rw [set_ne (by decide)] at q; exact (h0 q).alloc _), (fun q => by rw [set_ne (by decide)] at q; exact (h1 q).alloc _), (fun q => by rw [set_ne (by decide)] at q; exact (h2 q).alloc _), (fun q => by rw [set_ne (by decide)] at q; exact (h3 q).alloc _), (fun q => by rw [set_ne (by decide)] at q; exact (h4 q).alloc _), (by rw [set_ne (by decide), set_ne (by decide)]; exact h34), (by rw [set_ne (by decide)]; exact h5), (by rw [set_ne (by decide)]; exact h6), (by rw [set_ne (by decide)]; exact h7), (by rw [set_ne (by decide)]; exact h8), (by rw [set_ne (by decide)]; exact h9), (fun _ => rfl), (fun _ => ⟨_, _, _, rfl⟩), (fun q => absurd (d12 (by rw [set_ne (by decide)] at q; exact q) 11 (by decide) (by decide) (by decide) (by decide)) hno), (by rw [set_ne (by decide)]; exact h13), (fun q => absurd (d13 (by rw [set_ne (by decide)] at q; exact q) 11 (by decide)) hno), (by simpa using dsz), (fun q j a1 a2 a3 a4 => getD_set_true (d12 (by rw [set_ne (by decide)] at q; exact q) j a1 a2 a3 a4)), (fun q j a1 => getD_set_true (d13 (by rw [set_ne (by decide)] at q; exact q) j a1))⟩
    | 12, ho, hun =>
      have hno := not_listed hun
      obtain rfl := Option.some.inj (show some _ = some o from ho)
      have D : ∀ j, j < 12 → j ≠ 6 → j ≠ 8 → j ≠ 10 → l.getD j false = true := by
        intro j a1 a2 a3 a4
        exact hdep ⟨j, .data⟩ (by match j, a1, a2, a3, a4 with
          | 0, _, _, _, _ | 1, _, _, _, _ | 2, _, _, _, _ | 3, _, _, _, _ | 4, _, _, _, _ | 5, _, _, _, _ | 7, _, _, _, _ | 9, _, _, _, _ | 11, _, _, _, _ => simp
          | 6, _, h, _, _ => exact absurd rfl h
          | 8, _, _, h, _ => exact absurd rfl h
          | 10, _, _, _, h => exact absurd rfl h
          | j + 12, h, _, _, _ => omega) rfl
      have m0 := h0 (D 0 (by decide) (by decide) (by decide) (by decide))
      have m1 := h1 (D 1 (by decide) (by decide) (by decide) (by decide))
      have m2 := h2 (D 2 (by decide) (by decide) (by decide) (by decide))
      have m3 := h3 (D 3 (by decide) (by decide) (by decide) (by decide))
      have m4 := h4 (D 4 (by decide) (by decide) (by decide) (by decide))
      have m34 := h34 (D 3 (by decide) (by decide) (by decide) (by decide)) (D 4 (by decide) (by decide) (by decide) (by decide))
      have e10 := h5 (D 5 (by decide) (by decide) (by decide) (by decide))
      have s7 := h7 (D 7 (by decide) (by decide) (by decide) (by decide))
      have s9 := h9 (D 9 (by decide) (by decide) (by decide) (by decide))
      have s11 := h11 (D 11 (by decide) (by decide) (by decide) (by decide))
      have n13 : ¬ l.getD 13 false = true := fun q => hno (d13 q 12 (by decide))
      subst e10
      have hbuilt : Try.prog.built 41 [(0, x5), (1, x6), (2, x7), (4, x8), (5, x9), (7, .slice ao mn mc), (9, x12), (10, x14), (11, x16)] = some (ckOf (.slice ao mn mc) x5 x6 x7 x8 x9 x12 x14 x16) := by
        obtain ⟨r0, rfl, _⟩ := m0
        obtain ⟨r1, rfl, _⟩ := m1
        obtain ⟨r2, rfl, _⟩ := m2
        obtain ⟨r3, rfl, _⟩ := m3
        obtain ⟨r4, rfl, _⟩ := m4
        obtain ⟨b0, b1, b2, rfl⟩ := s7
        obtain ⟨b3, b4, b5, rfl⟩ := s9
        obtain ⟨b6, b7, b8, rfl⟩ := s11
        kernel_rfl
      refine wpOp_wp ho rfl (wp_build_to 41 _ rfl (by simp [Act.eval]) hbuilt ?_)
      · exact ⟨x5, x6, x7, x8, x9, _, x11, x12, x13, x14, x15, x16, .agg (ckOf (.slice ao mn mc) x5 x6 x7 x8 x9 x12 x14 x16), cs, rfl, hb, hcs, (by rw [set_ne (by decide)]; exact h0), (by rw [set_ne (by decide)]; exact h1), (by rw [set_ne (by decide)]; exact h2), (by rw [set_ne (by decide)]; exact h3), (by rw [set_ne (by decide)]; exact h4), (by rw [set_ne (by decide), set_ne (by decide)]; exact h34), (fun _ => rfl), (by rw [set_ne (by decide)]; exact h6), (by rw [set_ne (by decide)]; exact h7), (by rw [set_ne (by decide)]; exact h8), (by rw [set_ne (by decide)]; exact h9), (by rw [set_ne (by decide)]; exact h10), (by rw [set_ne (by decide)]; exact h11), (fun _ => rfl), (by rw [set_ne (by decide)]; exact h13), (by rw [set_ne (by decide)]; exact h13'), (by simpa using dsz), (fun _ j a1 a2 a3 a4 => getD_set_true (D j a1 a2 a3 a4)), (fun q j a1 => getD_set_true (d13 (by rw [set_ne (by decide)] at q; exact q) j a1))⟩
    | 13, ho, hun =>
      have hno := not_listed hun
      obtain rfl := Option.some.inj (show some _ = some o from ho)
      have D : ∀ j, j < 13 → l.getD j false = true := by
        intro j a1
        exact hdep ⟨j, .phase⟩ (by match j, a1 with
          | 0, _ | 1, _ | 2, _ | 3, _ | 4, _ | 5, _ | 6, _ | 7, _ | 8, _ | 9, _ | 10, _ | 11, _ | 12, _ => simp
          | j + 13, h => omega) rfl
      have m0 := h0 (D 0 (by decide))
      have m1 := h1 (D 1 (by decide))
      have m2 := h2 (D 2 (by decide))
      have m3 := h3 (D 3 (by decide))
      have m4 := h4 (D 4 (by decide))
      have s7 := h7 (D 7 (by decide))
      have s9 := h9 (D 9 (by decide))
      have s11 := h11 (D 11 (by decide))
      have e17 := h12 (D 12 (by decide))
      subst e17
      have ecs : cs = zeroCk := h13 (by simpa using hno)
      subst ecs
      have h1c : (ckOf (.slice ao mn mc) x5 x6 x7 x8 x9 x12 x14 x16).all (·.oneCell') = true := by
        obtain ⟨r0, rfl, _⟩ := m0
        obtain ⟨r1, rfl, _⟩ := m1
        obtain ⟨r2, rfl, _⟩ := m2
        obtain ⟨r3, rfl, _⟩ := m3
        obtain ⟨r4, rfl, _⟩ := m4
        obtain ⟨b0, b1, b2, rfl⟩ := s7
        obtain ⟨b3, b4, b5, rfl⟩ := s9
        obtain ⟨b6, b7, b8, rfl⟩ := s11
        simp [ckOf, Value.oneCell']
      refine wpOp_wp ho rfl (wp_store_row 41 _ _ rfl w.heap.size (ckOf (.slice ao mn mc) x5 x6 x7 x8 x9 x12 x14 x16) rfl rfl 41 zeroCk hcs (by kernel_rfl) rfl h1c ?_)
      have hk : ∀ k, w.heap.size < k → (w'.setRow w.heap.size (ckOf (.slice ao mn mc) x5 x6 x7 x8 x9 x12 x14 x16)).heap[k]? = w'.heap[k]? := fun k hk => setRow_other _ _ _ _ (by omega)
      exact ⟨x5, x6, x7, x8, x9, x10, x11, x12, x13, x14, x15, x16, _, _, rfl, below_setRow hb (Nat.le_refl _) _, setRow_heap _ _ _ _ _ _ hcs, (fun _ => m0.setBlock hk), (fun _ => m1.setBlock hk), (fun _ => m2.setBlock hk), (fun _ => m3.setBlock hk), (fun _ => m4.setBlock hk), (by rw [set_ne (by decide), set_ne (by decide)]; exact h34), (by rw [set_ne (by decide)]; exact h5), (by rw [set_ne (by decide)]; exact h6), (fun _ => s7), (by rw [set_ne (by decide)]; exact h8), (fun _ => s9), (by rw [set_ne (by decide)]; exact h10), (fun _ => s11), (fun _ => rfl), (fun q => by rw [set_at hun] at q; cases q), (fun _ => rfl), (by simpa using dsz), (fun q j a1 a2 a3 a4 => getD_set_true (d12 (by rw [set_ne (by decide)] at q; exact q) j a1 a2 a3 a4)), (fun _ j a1 => getD_set_true (D j a1))⟩
    | i + 14, ho, hun => simp at ho
  · intro l a w' hI hr
    obtain ⟨x5, x6, x7, x8, x9, x10, x11, x12, x13, x14, x15, x16, x17, cs, rfl, hb, hcs, h0, h1, h2, h3, h4, h34, h5, h6, h7, h8, h9, h10, h11, h12, h13, h13', dsz, d12, d13⟩ := hI
    have all := all_listed hr (by rw [dsz]; rfl) (by kernel_rfl)
    have m0 := h0 (all 0 (by decide))
    have m1 := h1 (all 1 (by decide))
    have m2 := h2 (all 2 (by decide))
    have m3 := h3 (all 3 (by decide))
    have m4 := h4 (all 4 (by decide))
    have m34 := h34 (all 3 (by decide)) (all 4 (by decide))
    have s7 := h7 (all 7 (by decide))
    have s9 := h9 (all 9 (by decide))
    have s11 := h11 (all 11 (by decide))
    have ecs := h13' (all 13 (by decide))
    subst ecs
    clear h0 h1 h2 h3 h4 h34 h5 h6 h7 h8 h9 h10 h11 h12 h13 h13' dsz d12 d13 all hr
    go_wp2
    exact bodyPost_ret (v := .agg (ckOf (.slice ao mn mc) x5 x6 x7 x8 x9 x12 x14 x16)) (results_cell_row Try.results45 _ _ w.heap.size 41 _ (0, 0) _ rfl hcs Try.underlying41 rfl (by kernel_rfl)) rfl ⟨⟨x5, x6, x7, x8, x9, x12, x14, x16, rfl, m0, m1, m2, m3, m4, m34, s7, s9, s11⟩, hb⟩
end Go.Proofs.Qxb6604092a
