import Derived.Test.Qxb6604181aCursor
import Derived.Deep.DeepCutAuto
import Derived.Deep.CutBlock
namespace Go.Proofs.Qxb6604181a
open Go.RowKit

/-- The reader's state between two of its parts: the cursor stands at p, of which R is known. -/
def Mid (w0 : World) (B cb : Nat) (a : Option Addr) (n c : Nat) (R : Nat → Prop) (w : World) : Prop :=
  ∃ p, R p ∧ p ≤ 9223372036854775807 ∧ Cur w cb a n c p ∧ Below B w0 w

theorem at_byte {zs : List Int} {q : Nat} (h : zs.getD q 0 ≠ 0) : q < zs.length := by
  apply Decidable.byContradiction
  intro hn
  exact h (by simp [List.getD, List.getElem?_eq_none (by omega : zs.length ≤ q)])

set_option maxRecDepth 20000 in
set_option maxHeartbeats 2000000 in
theorem number (cb : Nat) (a : Option Addr) (n c p : Nat) (zs : List Int) (F : Nat × Nat) (w : World) (B : Nat) (hF : fin zs p 0 = F) (hC : Cur w cb a n c p) (hR : RowAt w 0 B .u8 a n c zs) (hB : B ≤ cb) (hn : n ≤ 1048576) (hp : p ≤ 9223372036854775807) :
    Calls Try.prog 20 #[.pointer (some ⟨cb, 0, none⟩)] w fun e w' => e = .returned (.bool (acc F.2)) ∧ Cur w' cb a n c F.1 ∧ Below B w w' := by
  have hl := hR.1
  have N1 := next cb a n c p zs w B hC hR hp
  have H45 : Hid (zs.getD p 0 = 45 → Signed zs F (p + 1) ∧ p + 1 ≤ n) := fun e => ⟨signed_yes hF e, by have := at_byte (zs := zs) (q := p) (by rw [e]; decide); omega⟩
  have HN45 : Hid (zs.getD p 0 ≠ 45 → Signed zs F p) := fun e => signed_no hF e
  generalize zs.getD p 0 = z at N1 H45 HN45
  clear hF
  go_enter Try.func20, Try.ntmps20
  go_upto_if 8 with (first | (go_at_call 23; refine N1.mono ?_; rintro _ w1 ⟨rfl, q1, hq1⟩; have hC1 : Cur w1 cb a n c p := (by rw [hq1]; exact hC); have hb1 : Below B w w1 := (by rw [hq1]; exact below_drewN (Below.refl _ _) _); clear hq1 N1 hC))
  go_cut [0] (fun s0 wx => s0 = .pointer (some ⟨cb, 0, none⟩) ∧ Mid w B cb a n c (Signed zs F) wx)
  case first =>
    have c1 := hC1.c1
    have f1 := hC1.frozen 1
    by_cases hz : z = 45
    · subst hz
      obtain ⟨hS, hpn⟩ := H45.out rfl
      go_wp2
      go_meet
      case rel => exact ⟨rfl, p + 1, hS, by omega, hC1.set (by omega), hb1.setCell hB _⟩
    · have hz' : (z == 45) = false := by simp [hz]
      go_wp2
      go_meet
      case rel => exact ⟨rfl, p, HN45.out hz, hp, hC1, hb1⟩
  case rest =>
    obtain ⟨rfl, p1, hS, hp1, hC1', hb1'⟩ := hcut
    clear H45 HN45 hC1 hb1 hp
    have hR1 := hR.keep (.of_below hb1') (Nat.le_refl _) (Nat.le_refl _)
    have N2 := next cb a n c p1 zs wc B hC1' hR1 hp1
    have H48 : Hid (zs.getD p1 0 = 48 → Whole zs F (p1 + 1) ∧ p1 + 1 ≤ n) := fun e => ⟨whole_zero hS e, by have := at_byte (zs := zs) (q := p1) (by rw [e]; decide); omega⟩
    have H49 : Hid (49 ≤ zs.getD p1 0 ∧ zs.getD p1 0 ≤ 57 → Whole zs F (skip zs p1) ∧ skip zs p1 ≤ n) := fun e => ⟨whole_digits hS e, by have := at_byte (zs := zs) (q := p1) (by omega); have := skip_le zs p1 (by omega); omega⟩
    have H0 : Hid (zs.getD p1 0 ≠ 48 → ¬ (49 ≤ zs.getD p1 0 ∧ zs.getD p1 0 ≤ 57) → Refused F p1) := fun e1 e2 => whole_none hS e1 e2
    generalize zs.getD p1 0 = z at N2 H48 H49 H0
    clear hS
    go_upto_block 0 with (first | (go_at_call 23; refine N2.mono ?_; rintro _ w2 ⟨rfl, q2, hq2⟩; have hC2 : Cur w2 cb a n c p1 := (by rw [hq2]; exact hC1'); have hb2 : Below B w w2 := (by rw [hq2]; exact below_drewN hb1' _); clear hq2 N2 hC1' hb1'))
    have hR2 := hR.keep (.of_below hb2) (Nat.le_refl _) (Nat.le_refl _)
    go_cut [0] (fun s0 wx => s0 = .pointer (some ⟨cb, 0, none⟩) ∧ Mid w B cb a n c (Whole zs F) wx)
    case first =>
      have c1 := hC2.c1
      have f1 := hC2.frozen 1
      by_cases hz : z = 48
      · subst hz
        obtain ⟨hS, hpn⟩ := H48.out rfl
        go_wp2
        go_meet
        case rel => exact ⟨rfl, p1 + 1, hS, by omega, hC2.set (by omega), hb2.setCell hB _⟩
      · have hz' : (z == 48) = false := by simp [hz]
        by_cases hd : 49 ≤ z ∧ z ≤ 57
        · obtain ⟨hS, hpn⟩ := H49.out hd
          obtain ⟨hd1, hd2⟩ := hd
          have DD := digits cb a n c p1 zs w2 B hC2 hR2 hB hn hp1
          go_wp2_with (first | (go_at_call 24; refine DD.mono ?_; rintro _ w3 ⟨rfl, hC3, hb3⟩))
          go_meet
          case rel => exact ⟨rfl, skip zs p1, hS, by omega, hC3, hb2.trans hb3⟩
        · have hX := H0.out hz hd
          have HX : Hid (Refused F p1) := hX
          clear hX
          by_cases h49 : 49 ≤ z
          · have h57 : 57 < z := by omega
            go_wp2
            go_ret
            exact ⟨ret_bool HX.out.2.symm, by rw [HX.out.1]; exact hC2, hb2⟩
          · have h57 : z < 49 := by omega
            go_wp2
            go_ret
            exact ⟨ret_bool HX.out.2.symm, by rw [HX.out.1]; exact hC2, hb2⟩
    case rest =>
      obtain ⟨rfl, p2, hS, hp2, hC2', hb2'⟩ := hcut
      clear H48 H49 H0 hC2 hb2 hR1 hR2 hp1
      have hR3 := hR.keep (.of_below hb2') (Nat.le_refl _) (Nat.le_refl _)
      have N3 := next cb a n c p2 zs wc B hC2' hR3 hp2
      have H46 : Hid (zs.getD p2 0 = 46 → fin zs (p2 + 1) 4 = F ∧ p2 + 1 ≤ n) := fun e => ⟨point hS e, by have := at_byte (zs := zs) (q := p2) (by rw [e]; decide); omega⟩
      have HN46 : Hid (zs.getD p2 0 ≠ 46 → Broken zs F p2) := fun e => broken_no hS e
      generalize zs.getD p2 0 = z3 at N3 H46 HN46
      clear hS
      go_upto_if 39 with (first | (go_at_call 23; refine N3.mono ?_; rintro _ w3 ⟨rfl, q3, hq3⟩; have hC3 : Cur w3 cb a n c p2 := (by rw [hq3]; exact hC2'); have hb3 : Below B w w3 := (by rw [hq3]; exact below_drewN hb2' _); clear hq3 N3 hC2' hb2'))
      go_cut [0] (fun s0 wx => s0 = .pointer (some ⟨cb, 0, none⟩) ∧ Mid w B cb a n c (Broken zs F) wx)
      case first =>
        have c1 := hC3.c1
        have f1 := hC3.frozen 1
        by_cases hz : z3 = 46
        · subst hz
          obtain ⟨hS, hpn⟩ := H46.out rfl
          have HS : Hid (fin zs (p2 + 1) 4 = F) := hS
          have hC4 : Cur (w3.setCell ⟨cb, 1, none⟩ (.int .i64 ((p2 : Int) + 1))) cb a n c (p2 + 1) := hC3.set (by omega)
          have hb4 : Below B w (w3.setCell ⟨cb, 1, none⟩ (.int .i64 ((p2 : Int) + 1))) := hb3.setCell hB _
          have DD := digits cb a n c (p2 + 1) zs _ B hC4 (hR.keep (.of_below hb4) (Nat.le_refl _) (Nat.le_refl _)) hB hn (by omega)
          have hsl := skip_le zs (p2 + 1) (by omega)
          clear hS hC3 hb3
          by_cases hlt : p2 + 1 < skip zs (p2 + 1)
          · have HX : Hid (Broken zs F (skip zs (p2 + 1))) := broken_yes HS.out hlt
            rw [decide_eq_true hlt] at DD
            generalize skip zs (p2 + 1) = p3 at DD HX hsl
            clear hlt
            go_wp2_with (first | (go_at_call 24; refine DD.mono ?_; rintro _ w5 ⟨rfl, hC5, hb5⟩))
            go_meet
            case rel => exact ⟨rfl, p3, HX.out, by omega, hC5, hb4.trans hb5⟩
          · have HX : Hid (Refused F (skip zs (p2 + 1))) := broken_none HS.out hlt
            rw [decide_eq_false hlt] at DD
            generalize skip zs (p2 + 1) = p3 at DD HX hsl
            clear hlt
            go_wp2_with (first | (go_at_call 24; refine DD.mono ?_; rintro _ w5 ⟨rfl, hC5, hb5⟩))
            go_ret
            exact ⟨ret_bool HX.out.2.symm, by rw [HX.out.1]; exact hC5, hb4.trans hb5⟩
        · have hz' : (z3 == 46) = false := by simp [hz]
          go_wp2
          go_meet
          case rel => exact ⟨rfl, p2, HN46.out hz, hp2, hC3, hb3⟩
      case rest =>
        obtain ⟨rfl, p3, hS, hp3, hC3', hb3'⟩ := hcut
        clear H46 HN46 hC3 hb3 hR3 hp2
        have hR4 := hR.keep (.of_below hb3') (Nat.le_refl _) (Nat.le_refl _)
        have N4 := next cb a n c p3 zs wc B hC3' hR4 hp3
        have HE : Hid (zs.getD p3 0 = 101 ∨ zs.getD p3 0 = 69 → fin zs (p3 + 1) 6 = F ∧ p3 + 1 ≤ n) := fun e => ⟨expo hS e, by have := at_byte (zs := zs) (q := p3) (by omega); omega⟩
        have HNE : Hid (zs.getD p3 0 ≠ 101 → zs.getD p3 0 ≠ 69 → Read F p3) := fun e1 e2 => read_plain hS e1 e2
        generalize zs.getD p3 0 = z4 at N4 HE HNE
        clear hS
        by_cases he : z4 = 101 ∨ z4 = 69
        · obtain ⟨hS, hpn⟩ := HE.out he
          have HS : Hid (fin zs (p3 + 1) 6 = F) := hS
          clear hS HE HNE
          rcases he with rfl | rfl
          all_goals
            go_wp2_with fail
            refine N4.mono ?_
            rintro _ w4 ⟨rfl, q4, hq4⟩
            have hC4 : Cur w4 cb a n c p3 := by rw [hq4]; exact hC3'
            have hb4 : Below B w w4 := by rw [hq4]; exact below_drewN hb3' _
            clear hq4 N4 hC3' hb3' hR4
            have c1 := hC4.c1
            have f1 := hC4.frozen 1
            have hC5 : Cur (w4.setCell ⟨cb, 1, none⟩ (.int .i64 ((p3 : Int) + 1))) cb a n c (p3 + 1) := hC4.set (by omega)
            have hb5 : Below B w (w4.setCell ⟨cb, 1, none⟩ (.int .i64 ((p3 : Int) + 1))) := hb4.setCell hB _
            have N5 := next cb a n c (p3 + 1) zs _ B hC5 (hR.keep (.of_below hb5) (Nat.le_refl _) (Nat.le_refl _)) (by omega)
            have HSg : Hid (zs.getD (p3 + 1) 0 = 43 ∨ zs.getD (p3 + 1) 0 = 45 → Raised zs F (p3 + 1 + 1) ∧ p3 + 1 + 1 ≤ n) := fun e => ⟨raised_yes HS.out e, by have := at_byte (zs := zs) (q := p3 + 1) (by omega); omega⟩
            have HNSg : Hid (zs.getD (p3 + 1) 0 ≠ 43 → zs.getD (p3 + 1) 0 ≠ 45 → Raised zs F (p3 + 1)) := fun e1 e2 => raised_no HS.out e1 e2
            generalize zs.getD (p3 + 1) 0 = z5 at N5 HSg HNSg
            clear hC4 hb4
            go_wp2_with fail
            refine N5.mono ?_
            rintro _ w6 ⟨rfl, q6, hq6⟩
            have hC6 : Cur w6 cb a n c (p3 + 1) := by rw [hq6]; exact hC5
            have hb6 : Below B w w6 := by rw [hq6]; exact below_drewN hb5 _
            clear hq6 N5 hC5 hb5 c1 f1
            have c6 : w6.cell? ⟨cb, 1, none⟩ = some (.int .i64 ((p3 : Int) + 1)) := hC6.c1
            have f6 := hC6.frozen 1
            by_cases hz5 : z5 = 43 ∨ z5 = 45
            · obtain ⟨hR7, hpn7⟩ := HSg.out hz5
              have HR7 : Hid (Raised zs F (p3 + 1 + 1)) := hR7
              have hC7 : Cur (w6.setCell ⟨cb, 1, none⟩ (.int .i64 ((p3 : Int) + 1 + 1))) cb a n c (p3 + 1 + 1) := hC6.set (by omega)
              have hb7 : Below B w (w6.setCell ⟨cb, 1, none⟩ (.int .i64 ((p3 : Int) + 1 + 1))) := hb6.setCell hB _
              have DD := digits cb a n c (p3 + 1 + 1) zs _ B hC7 (hR.keep (.of_below hb7) (Nat.le_refl _) (Nat.le_refl _)) hB hn (by omega)
              clear hR7 HSg HNSg hC7 hC6 hb6
              by_cases hlt : p3 + 1 + 1 < skip zs (p3 + 1 + 1)
              · have HX : Hid (Read F (skip zs (p3 + 1 + 1))) := read_raised HR7.out hlt
                rw [decide_eq_true hlt] at DD
                generalize skip zs (p3 + 1 + 1) = p6 at DD HX
                clear hlt
                rcases hz5 with rfl | rfl
                all_goals
                  go_wp2_with (first | (go_at_call 24; refine DD.mono ?_; rintro _ w8 ⟨rfl, hC8, hb8⟩))
                  go_ret
                  exact ⟨ret_bool HX.out.2.symm, by rw [HX.out.1]; exact hC8, hb7.trans hb8⟩
              · have HX : Hid (Refused F (skip zs (p3 + 1 + 1))) := raised_none HR7.out hlt
                rw [decide_eq_false hlt] at DD
                generalize skip zs (p3 + 1 + 1) = p6 at DD HX
                clear hlt
                rcases hz5 with rfl | rfl
                all_goals
                  go_wp2_with (first | (go_at_call 24; refine DD.mono ?_; rintro _ w8 ⟨rfl, hC8, hb8⟩))
                  go_ret
                  exact ⟨ret_bool HX.out.2.symm, by rw [HX.out.1]; exact hC8, hb7.trans hb8⟩
            · have hR7 := HNSg.out (fun e => hz5 (.inl e)) (fun e => hz5 (.inr e))
              have HR7 : Hid (Raised zs F (p3 + 1)) := hR7
              have hz43 : (z5 == 43) = false := by simp; omega
              have hz45 : (z5 == 45) = false := by simp; omega
              have DD := digits cb a n c (p3 + 1) zs w6 B hC6 (hR.keep (.of_below hb6) (Nat.le_refl _) (Nat.le_refl _)) hB hn (by omega)
              clear hR7 HSg HNSg hC6 hz5
              by_cases hlt : p3 + 1 < skip zs (p3 + 1)
              · have HX : Hid (Read F (skip zs (p3 + 1))) := read_raised HR7.out hlt
                rw [decide_eq_true hlt] at DD
                generalize skip zs (p3 + 1) = p6 at DD HX
                clear hlt
                all_goals
                  go_wp2_with (first | (go_at_call 24; refine DD.mono ?_; rintro _ w8 ⟨rfl, hC8, hb8⟩))
                  go_ret
                  exact ⟨ret_bool HX.out.2.symm, by rw [HX.out.1]; exact hC8, hb6.trans hb8⟩
              · have HX : Hid (Refused F (skip zs (p3 + 1))) := raised_none HR7.out hlt
                rw [decide_eq_false hlt] at DD
                generalize skip zs (p3 + 1) = p6 at DD HX
                clear hlt
                all_goals
                  go_wp2_with (first | (go_at_call 24; refine DD.mono ?_; rintro _ w8 ⟨rfl, hC8, hb8⟩))
                  go_ret
                  exact ⟨ret_bool HX.out.2.symm, by rw [HX.out.1]; exact hC8, hb6.trans hb8⟩
        · have hX := HNE.out (fun e => he (.inl e)) (fun e => he (.inr e))
          have HX : Hid (Read F p3) := hX
          have h101 : (z4 == 101) = false := by simp; omega
          have h69 : (z4 == 69) = false := by simp; omega
          clear hX HE HNE he
          go_wp2_with fail
          refine N4.mono ?_
          rintro _ w4 ⟨rfl, q4, hq4⟩
          have hC4 : Cur w4 cb a n c p3 := by rw [hq4]; exact hC3'
          have hb4 : Below B w w4 := by rw [hq4]; exact below_drewN hb3' _
          clear hq4 N4 hC3' hb3' hR4
          go_wp2
          go_ret
          exact ⟨ret_bool HX.out.2.symm, by rw [HX.out.1]; exact hC4, hb4⟩
end Go.Proofs.Qxb6604181a
