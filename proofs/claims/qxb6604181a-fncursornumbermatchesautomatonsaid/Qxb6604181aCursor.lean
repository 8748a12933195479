import Derived.Test.Qxb6604181aHexes
import Derived.Test.Qxb6604181aAuto
namespace Go.Proofs.Qxb6604181a
open Go.RowKit

/-- A cursor in memory: its data, its offset. -/
def Cur (w : World) (cb : Nat) (a : Option Addr) (n c p : Nat) : Prop :=
  ∃ x2 x3 x4, w.heap[cb]? = some (.cells #[.slice a n c, .int .i64 p, x2, x3, x4] 41 (0, 0))
section
variable {w : World} {cb : Nat} {a : Option Addr} {n c p : Nat}
theorem Cur.c0 (h : Cur w cb a n c p) : w.cell? ⟨cb, 0, none⟩ = some (.slice a n c) := by
  obtain ⟨x2, x3, x4, h⟩ := h
  simp [World.cell?, h]
theorem Cur.c1 (h : Cur w cb a n c p) : w.cell? ⟨cb, 1, none⟩ = some (.int .i64 p) := by
  obtain ⟨x2, x3, x4, h⟩ := h
  simp [World.cell?, h]
theorem Cur.frozen (h : Cur w cb a n c p) (i : Nat) : w.frozen? ⟨cb, i, none⟩ = false := by
  obtain ⟨x2, x3, x4, h⟩ := h
  simp [World.frozen?, h]
theorem Cur.set (h : Cur w cb a n c p) {z : Int} {q : Nat} (hz : z = (q : Int)) : Cur (w.setCell ⟨cb, 1, none⟩ (.int .i64 z)) cb a n c q := by
  subst hz
  obtain ⟨x2, x3, x4, h⟩ := h
  exact ⟨x2, x3, x4, by simp [World.setCell, Array.getElem?_modify, h]⟩
theorem Cur.drewN (h : Cur w cb a n c p) (q : Nat) : Cur (w.drewN q) cb a n c p := h
end

set_option maxHeartbeats 400000 in
theorem next (cb : Nat) (a : Option Addr) (n c p : Nat) (zs : List Int) (w : World) (B : Nat) (hC : Cur w cb a n c p) (hR : RowAt w 0 B .u8 a n c zs) (hp : p ≤ 9223372036854775807) :
    Calls Try.prog 23 #[.pointer (some ⟨cb, 0, none⟩)] w fun e w' => e = .returned (.int .u8 (zs.getD p 0)) ∧ ∃ q, w' = w.drewN q := by
  have c0 := hC.c0
  have c1 := hC.c1
  have hl := hR.1
  have hnc := hR.2.1
  have hcm : c ≤ maxLen := hR.2.2.1
  unfold maxLen at hcm
  by_cases hlt : p < n
  · obtain ⟨b, off, rfl, hb, hc⟩ := hR.at hlt
    have cp := hc p hlt
    generalize zs.getD p 0 = z at cp ⊢
    clear hC hR hc
    have gp : (p : Int) < (n : Int) := by omega
    have gp0 : (0 : Int) ≤ (p : Int) := by omega
    go_enter Try.func23, Try.ntmps23
    go_wp2
    go_quiet (fail)
    go_wp2
    go_quiet (fail)
    go_wp2
    go_ret
    exact ⟨rfl, _, World.drewN_drewN _ _ _⟩
  · have e : zs.getD p 0 = 0 := by simp [List.getD, List.getElem?_eq_none (by omega : zs.length ≤ p)]
    rw [e]
    clear hC hR
    have gp : ¬ (p : Int) < (n : Int) := by omega
    go_enter Try.func23, Try.ntmps23
    go_wp2
    go_quiet (fail)
    go_wp2
    go_ret
    exact ⟨rfl, _, rfl⟩

theorem ret_bool {a b : Bool} (h : a = b) : Ending.returned (.bool a) = Ending.returned (.bool b) := by rw [h]
theorem at_digit {zs : List Int} {q : Nat} (h : 48 ≤ zs.getD q 0) : q < zs.length := by
  apply Decidable.byContradiction
  intro hn
  have e : zs.getD q 0 = 0 := by simp [List.getD, List.getElem?_eq_none (by omega : zs.length ≤ q)]
  omega

set_option maxHeartbeats 1000000 in
theorem digits (cb : Nat) (a : Option Addr) (n c p : Nat) (zs : List Int) (w : World) (B : Nat) (hC : Cur w cb a n c p) (hR : RowAt w 0 B .u8 a n c zs) (hB : B ≤ cb) (hn : n ≤ 1048576) (hp : p ≤ 9223372036854775807) :
    Calls Try.prog 24 #[.pointer (some ⟨cb, 0, none⟩)] w fun e w' => e = .returned (.bool (decide (p < skip zs p))) ∧ Cur w' cb a n c (skip zs p) ∧ Below B w w' := by
  have c1 := hC.c1
  have hl := hR.1
  have N1 := next cb a n c p zs w B hC hR hp
  go_enter Try.func24, Try.ntmps24
  go_wp2_with fail
  refine N1.mono ?_
  rintro _ w1 ⟨rfl, q1, hq1⟩
  have hC1 : Cur w1 cb a n c p := by rw [hq1]; exact hC
  have hb1 : Below B w w1 := by rw [hq1]; exact below_drewN (Below.refl _ _) _
  clear hq1 N1 c1 hC
  go_wp2
  go_loopw [4] (fun zv wr => ∃ q : Nat, zv = .int .u8 (zs.getD q 0) ∧ p ≤ q ∧ q ≤ 9223372036854775807 ∧ skip zs q = skip zs p ∧ Cur wr cb a n c q ∧ Below B w wr) (fun _ wr => n - (match wr.cell? ⟨cb, 1, none⟩ with | some (.int _ z) => z.toNat | _ => 0))
  case atStart => exact ⟨p, rfl, Nat.le_refl _, hp, rfl, hC1, hb1⟩
  case round =>
    obtain ⟨q, rfl, hpq, hq, hsk, hCr, hbr⟩ := hrel
    clear hC1 hb1
    have c1 := hCr.c1
    have f1 := hCr.frozen 1
    by_cases hd : 48 ≤ zs.getD q 0 ∧ zs.getD q 0 ≤ 57
    · have hqn : q < n := by rw [← hl]; exact at_digit hd.1
      have hs1 : skip zs (q + 1) = skip zs p := (skip_go hd).symm.trans hsk
      have hC2 : Cur (wr.setCell ⟨cb, 1, none⟩ (.int .i64 ((q : Int) + 1))) cb a n c (q + 1) := hCr.set (by omega)
      have hb2 : Below B w (wr.setCell ⟨cb, 1, none⟩ (.int .i64 ((q : Int) + 1))) := hbr.setCell hB _
      have N2 := next cb a n c (q + 1) zs _ B hC2 (hR.keep (.of_below hb2) (Nat.le_refl _) (Nat.le_refl _)) (by omega)
      have HS : Hid (skip zs (q + 1) = skip zs p) := hs1
      have HC2 : Hid (Cur (wr.setCell ⟨cb, 1, none⟩ (.int .i64 ((q : Int) + 1))) cb a n c (q + 1)) := hC2
      have HB2 : Hid (Below B w (wr.setCell ⟨cb, 1, none⟩ (.int .i64 ((q : Int) + 1)))) := hb2
      have HZ : Hid (zs.getD q 0 = zs.getD q 0) := rfl
      generalize hz : zs.getD q 0 = z at hd ⊢
      clear hz HZ hs1 hsk hC2 hb2 hCr hbr
      go_wp2_with fail
      refine N2.mono ?_
      rintro _ w3 ⟨rfl, q3, hq3⟩
      have hC3 : Cur w3 cb a n c (q + 1) := by rw [hq3]; exact HC2.out
      have hb3 : Below B w w3 := by rw [hq3]; exact below_drewN HB2.out _
      have c3 := hC3.c1
      clear N2 hq3 HC2 HB2
      go_wp2
      go_roundw
      case rel => exact ⟨q + 1, rfl, by omega, by omega, HS.out, hC3, hb3⟩
      case measure =>
        rw [c3, c1]
        simp only [Int.toNat_natCast]
        omega
    · have hs1 : skip zs p = q := hsk.symm.trans (skip_no hd)
      have HS : Hid (decide (p < q) = decide (p < skip zs p)) := by rw [hs1]; rfl
      have HC : Hid (Cur wr cb a n c (skip zs p)) := by rw [hs1]; exact hCr
      generalize zs.getD q 0 = z at hd ⊢
      clear hsk hs1 hCr
      by_cases h48 : 48 ≤ z
      · have h57 : 57 < z := by omega
        go_wp2
        go_ret
        exact ⟨ret_bool HS.out, HC.out, hbr⟩
      · have h48' : z < 48 := by omega
        go_wp2
        go_ret
        exact ⟨ret_bool HS.out, HC.out, hbr⟩
end Go.Proofs.Qxb6604181a
