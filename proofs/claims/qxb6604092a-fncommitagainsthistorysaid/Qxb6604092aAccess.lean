import Derived.Test.Qxb6604092aCommit
namespace Go.Proofs.Qxb6604092a
open Go.RowKit
open Go.ChangeMaps (setBlock)

set_option maxHeartbeats 400000 in
theorem zzLast (cb mb : Nat) (S : CSt) (w : World) (L B1 : Nat) (hC : Comm w L B1 cb mb S) :
    Calls Try.prog 34 #[.pointer (some ⟨cb, 0, none⟩)] w fun r w' => r = .returned (.int .u64 S.last) ∧ w = w' := by
  obtain ⟨M, hC⟩ := hC
  have c6 := hC.2.2.2.1.c6
  clear hC
  go_enter Try.func34, Try.ntmps34
  go_wp2
  go_ret
  exact ⟨rfl, rfl⟩
set_option maxHeartbeats 400000 in
theorem zzChanged (cb mb : Nat) (S : CSt) (w : World) (L B1 : Nat) (hC : Comm w L B1 cb mb S) :
    Calls Try.prog 36 #[.pointer (some ⟨cb, 0, none⟩)] w fun r w' => r = .returned (.int .u64 S.chg) ∧ w = w' := by
  obtain ⟨M, hC⟩ := hC
  have c8 := hC.2.2.2.1.c8
  clear hC
  go_enter Try.func36, Try.ntmps36
  go_wp2
  go_ret
  exact ⟨rfl, rfl⟩
set_option maxHeartbeats 400000 in
theorem zzMembers (cb mb : Nat) (S : CSt) (w : World) (L B1 : Nat) (hC : Comm w L B1 cb mb S) :
    Calls Try.prog 37 #[.pointer (some ⟨cb, 0, none⟩)] w fun r w' => (∃ ma ml mc, r = .returned (.slice ma ml mc) ∧ RowAt w L B1 .u64 ma ml mc S.ms ∧ ma.isNone = S.mn) ∧ w = w' := by
  obtain ⟨M, hC⟩ := hC
  obtain ⟨ma, ml, mc, c7, h1, h2⟩ := hC.2.2.2.1.c7
  have H2 : Hid (ma.isNone = S.mn) := h2
  clear hC h2
  go_enter Try.func37, Try.ntmps37
  go_wp2
  go_ret
  exact ⟨⟨ma, ml, mc, rfl, h1, H2.out⟩, rfl⟩
theorem run_len_map (w : World) {mb : Nat} {es : Array MapEntry} {clk : Nat} (hm : w.heap[mb]? = some (.map es clk)) (t : TypeId) : (Builtin.len_ #[38] t #[.map (some mb)]).run Try.prog w = .ok (.int .i64 es.size) w := by
  simp [Builtin.len_, run_underlying Try.underlying38, MapKept.run_getObj_map hm, goInt]
set_option maxHeartbeats 400000 in
theorem zzLen (cb mb : Nat) (S : CSt) (w : World) (L B1 : Nat) (hC : Comm w L B1 cb mb S) :
    Calls Try.prog 32 #[.pointer (some ⟨cb, 0, none⟩)] w fun r w' => r = .returned (.int .i64 S.A.length) ∧ w = w' := by
  obtain ⟨M, hC⟩ := hC
  have c5 := hC.2.2.2.1.c5
  obtain ⟨es, clk, hm, he⟩ := hC.2.2.2.2.1
  have hA := hC.2.2.2.2.2.2.2
  have hl : es.size = S.A.length := by rw [hA, ← Array.length_toList, he]; simp
  clear hC hA he
  have hlen : ∀ t, (Builtin.len_ #[38] t #[.map (some mb)]).run Try.prog w = .ok (.int .i64 (S.A.length : Nat)) w := fun t => by rw [run_len_map w hm t, hl]
  clear hl hm
  go_enter Try.func32, Try.ntmps32
  go_wp2
  go_ret
  exact ⟨rfl, rfl⟩

set_option maxRecDepth 20000 in
set_option maxHeartbeats 1000000 in
theorem zzCommitted (cb mb : Nat) (S : CSt) (w : World) (L B1 : Nat) (idx : Int) (p : CP) (hC : Comm w L B1 cb mb S) (hfd : S.A.find? (CP.is idx) = some p) :
    Calls Try.prog 29 #[.pointer (some ⟨cb, 0, none⟩), .int .u64 idx] w fun res w' => (∃ v0 v1 v2 v3, res = .returned (.tuple #[.agg #[v0, v1, v2, v3], .int .u64 p.term, .bool true]) ∧ EntV w L B1 v0 v1 v2 v3 p.e) ∧ Below w.heap.size w w' := by
  obtain ⟨M, hC⟩ := hC
  have hB1 := hC.2.2.1
  have hA := hC.2.2.2.2.2.2.2
  rw [hA, cfind_p] at hfd
  obtain ⟨r, hfr, rfl⟩ := Option.map_eq_some_iff.1 hfd
  obtain ⟨W1, hW1⟩ : ∃ W1, W1 = w.alloc (Obj.cells #[.int .u64 0, .slice none 0 0, .slice none 0 0, .string ⟨#[]⟩] 51) := ⟨_, rfl⟩
  have b1 : Below w.heap.size w W1 := by rw [hW1]; exact (Below.refl _ _).alloc (Nat.le_refl _) _
  have e0 : W1.heap[w.heap.size]? = some (Obj.cells #[.int .u64 0, .slice none 0 0, .slice none 0 0, .string ⟨#[]⟩] 51) := by rw [hW1]; exact heap_alloc_new _ _
  have hC1 := hC.below b1
  have c5 := hC1.2.2.2.1.c5
  obtain ⟨esM, clk, hmap, hes⟩ := hC1.2.2.2.2.1
  have hlook : (Instr.lookup 38 (.map (some mb)) (.int .u64 idx) false).run Try.prog W1 = .ok (.pointer (some ⟨r.pb, 0, none⟩)) W1 := by
    have := run_lookup_idx W1 (M := M) hmap hes idx
    rw [hfr] at this
    exact this
  obtain ⟨hr1, hr2, u0, u1, u2, u3, hrb, hrE⟩ := hC1.2.2.2.2.2.1 r (List.mem_of_find?_eq_some hfr)
  obtain ⟨_, _, u0', u1', u2', u3', hrb', hrE'⟩ := hC.2.2.2.2.2.1 r (List.mem_of_find?_eq_some hfr)
  have hpl : r.pb < w.heap.size := (Array.getElem?_eq_some_iff.1 hrb').1
  have hEE : EntV w L B1 u0 u1 u2 u3 r.p.e := by
    have h1 := b1.block r.pb hpl
    rw [hrb, hrb'] at h1
    cases h1
    exact hrE'
  have p0 : W1.cell? ⟨r.pb, 0, none⟩ = some u0 := by simp [World.cell?, hrb]
  have p1 : W1.cell? ⟨r.pb, 1, none⟩ = some u1 := by simp [World.cell?, hrb]
  have p2 : W1.cell? ⟨r.pb, 2, none⟩ = some u2 := by simp [World.cell?, hrb]
  have p3 : W1.cell? ⟨r.pb, 3, none⟩ = some u3 := by simp [World.cell?, hrb]
  have p4 : W1.cell? ⟨r.pb, 4, none⟩ = some (.int .u64 r.p.term) := by simp [World.cell?, hrb]
  have p4w : w.cell? ⟨r.pb, 4, none⟩ = some (.int .u64 r.p.term) := by simp [World.cell?, hrb']
  have k0 : W1.cell? ⟨w.heap.size, 0, none⟩ = some (.int .u64 0) := by simp [World.cell?, e0]
  have k1 : W1.cell? ⟨w.heap.size, 1, none⟩ = some (.slice none 0 0) := by simp [World.cell?, e0]
  have k2 : W1.cell? ⟨w.heap.size, 2, none⟩ = some (.slice none 0 0) := by simp [World.cell?, e0]
  have k3 : W1.cell? ⟨w.heap.size, 3, none⟩ = some (.string ⟨#[]⟩) := by simp [World.cell?, e0]
  have f0 : W1.frozen? ⟨w.heap.size, 0, none⟩ = false := by simp [World.frozen?, e0]
  have f1 : W1.frozen? ⟨w.heap.size, 1, none⟩ = false := by simp [World.frozen?, e0]
  have f2 : W1.frozen? ⟨w.heap.size, 2, none⟩ = false := by simp [World.frozen?, e0]
  have f3 : W1.frozen? ⟨w.heap.size, 3, none⟩ = false := by simp [World.frozen?, e0]
  have HEE : Hid (EntV w L B1 u0 u1 u2 u3 r.p.e) := hEE
  obtain ⟨da, dl, dc, ma, ml, mc, rfl, rfl, rfl, rfl, _⟩ := hEE
  have hne : r.pb ≠ w.heap.size := by omega
  clear hC hC1 hA hfd hmap hes hrb hrb' hrE hrE' hfr
  subst hW1
  go_enter Try.func29, Try.ntmps29
  go_wp2
  go_region
  clear p0 p1 p2 p3 p4 k0 k1 k2 k3 f0 f1 f2 f3 hlook c5 e0 b1
  go_wp2
  exact bodyPost_ret (v := .tuple #[.agg #[.int .u64 r.p.e.term, .slice da dl dc, .slice ma ml mc, .string r.p.e.addr], .int .u64 r.p.term, .bool true]) (by simp [results, Try.results29, go_sem]) rfl ⟨⟨_, _, _, _, rfl, HEE.out⟩, ((Below.refl _ _).alloc (Nat.le_refl _) _).drew⟩
end Go.Proofs.Qxb6604092a
