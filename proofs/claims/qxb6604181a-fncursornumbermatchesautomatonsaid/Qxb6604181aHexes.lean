import Derived.Test.Qxb6604181aBufs
import Derived.Laws.BitsLemmas
namespace Go.Proofs.Qxb6604181a
open Go.RowKit

/-- The bound on the sizes of RoundTrip's arguments. -/
theorem sizes5 (a b : Option Addr) (n c m d : Nat) (u v : Int) (w : World) (hn : n ≤ maxLen) (hm : m ≤ maxLen) :
    Calls Try.prog 15 #[.slice a n c, .slice b m d, .int .u16 u, .int .u8 v] w fun e w' => (∃ r : Bool, e = .returned (.bool r) ∧ (r = true → n + m ≤ 1048576)) ∧ w = w' := by
  unfold maxLen at hn hm
  go_enter Try.func15, Try.ntmps15
  go_wp2
  all_goals
    go_ret
    first
      | exact ⟨⟨false, rfl, fun h => by cases h⟩, rfl⟩
      | exact ⟨⟨true, rfl, fun _ => by omega⟩, rfl⟩

/-- The value of a byte as a hexadecimal digit. -/
def hexv (z : Int) : Int := if 48 ≤ z ∧ z ≤ 57 then z - 48 else if 97 ≤ z ∧ z ≤ 102 then z - 87 else if 65 ≤ z ∧ z ≤ 70 then z - 55 else -1

theorem fits_u8 {z : Int} (h : Fits .u8 z) : 0 ≤ z ∧ z ≤ 255 := by
  have hw : IntKind.u8.min ≤ z ∧ z ≤ IntKind.u8.max := by simpa [Fits, Lit.wf] using h
  have hmin : IntKind.u8.min = 0 := by decide
  have hmax : IntKind.u8.max = 255 := by decide
  rw [hmin, hmax] at hw
  exact hw
theorem hexv_le (z : Int) : -1 ≤ hexv z ∧ hexv z ≤ 15 := by
  unfold hexv
  repeat' split
  all_goals omega

theorem hexValue (z : Int) (w : World) (hz : Fits .u8 z) : Calls Try.prog 25 #[.int .u8 z] w fun e w' => e = .returned (.int .i32 (hexv z)) ∧ w = w' := by
  have hb := fits_u8 hz
  go_enter Try.func25, Try.ntmps25
  go_wp2
  all_goals
    go_ret
    refine ⟨congrArg (fun x => Ending.returned (.int .i32 x)) (?_ : _ = hexv z), rfl⟩
    unfold hexv
    repeat' split
    all_goals omega

theorem ret32 {a b : Int} (h : a = b) : Ending.returned (.int .i32 a) = Ending.returned (.int .i32 b) := by rw [h]

/-- Hexadecimal digits read behind what was read. -/
def hexGo : List Int → Int → Int
  | [], r => r
  | z :: zs, r => if hexv z < 0 then -1 else hexGo zs (r * 16 + hexv z)
/-- What escapedUnit answers. -/
def unitOf (zs : List Int) (i : Nat) : Int :=
  if i + 6 ≤ zs.length ∧ zs.getD i 0 = 92 ∧ zs.getD (i + 1) 0 = 117 then hexGo ((zs.drop (i + 2)).take 4) 0 else -1

theorem drop_get {zs : List Int} {k : Nat} (h : k < zs.length) : zs.drop k = zs.getD k 0 :: zs.drop (k + 1) := by
  rw [List.drop_eq_getElem_cons h]
  simp [h]

set_option maxHeartbeats 1000000 in
theorem escapedUnit (a : Option Addr) (n c : Nat) (zs : List Int) (i : Nat) (w : World) (L B : Nat) (h : RowAt w L B .u8 a n c zs) (hi : i ≤ 1073741824) :
    Calls Try.prog 21 #[.slice a n c, .int .i64 i] w fun e w' => e = .returned (.int .i32 (unitOf zs i)) ∧ ∃ q, w' = w.drewN q := by
  have hm : n ≤ maxLen := Nat.le_trans h.2.1 h.2.2.1
  have hcm : c ≤ maxLen := h.2.2.1
  have hnc := h.2.1
  unfold maxLen at hm hcm
  have hl := h.1
  by_cases h6 : i + 6 ≤ n
  · obtain ⟨b, off, rfl, hb, hc⟩ := h.at (i := 0) (by omega)
    have c0 := hc i (by omega)
    have c1 := hc (i + 1) (by omega)
    have HC : Hid (∀ j, j < 4 → w.cell? ⟨b, off + (i + 2) + j, none⟩ = some (.int .u8 (((zs.drop (i + 2)).take 4).getD j 0))) := by
      intro j hj
      have := hc (i + 2 + j) (by omega)
      rw [← Nat.add_assoc, ← Nat.add_assoc] at this
      rw [← Nat.add_assoc, this]
      simp [hj]
    have HF : Hid (∀ j, j < 4 → Fits .u8 (((zs.drop (i + 2)).take 4).getD j 0)) := by
      intro j hj
      refine h.2.2.2.1 _ ?_
      simp [hj]
      rw [List.getElem?_eq_getElem (by omega)]
      simp
    have HL : Hid (((zs.drop (i + 2)).take 4).length = 4) := show _ = _ by simp; omega
    have HU : Hid (zs.getD i 0 = 92 → zs.getD (i + 1) 0 = 117 → unitOf zs i = hexGo ((zs.drop (i + 2)).take 4) 0) := fun h1 h2 => by
      simp only [unitOf]
      rw [if_pos ⟨by omega, h1, h2⟩]
    have HN : Hid (¬ (zs.getD i 0 = 92 ∧ zs.getD (i + 1) 0 = 117) → unitOf zs i = -1) := fun h1 => by
      simp only [unitOf]
      rw [if_neg (fun hh => h1 hh.2)]
    generalize (zs.drop (i + 2)).take 4 = ds at HC HF HL HU
    generalize hx : zs.getD i 0 = x at c0 HU HN
    generalize hy : zs.getD (i + 1) 0 = y at c1 HU HN
    generalize unitOf zs i = U at HU HN
    clear h hc hx hy hl
    have gi : (i : Int) + 6 ≤ (n : Int) := by omega
    by_cases hx : x = 92
    · by_cases hy : y = 117
      · have hU := HU.out hx hy
        subst hx
        subst hy
        clear HU HN
        subst hU
        go_enter Try.func21, Try.ntmps21
        go_wp2
        have e4 : i + 6 - (i + 2) = 4 := by omega
        rw [e4]
        clear e4
        go_loop [5, 36] (fun rv kv => ∃ (k : Nat) (r : Int), k ≤ 4 ∧ kv = .int .i64 k ∧ rv = .int .i32 r ∧ 0 ≤ r ∧ r < 16 ^ k ∧ hexGo (ds.drop k) r = hexGo ds 0) (fun _ kv => 4 - (intOf kv).toNat)
        case atStart => exact ⟨0, 0, by omega, rfl, rfl, by omega, by omega, rfl⟩
        case round =>
          obtain ⟨k, r, hk, rfl, rfl, hr0, hr1, hg⟩ := hrel
          by_cases hk4 : k < 4
          · have ck := HC.out k hk4
            have fk := HF.out k hk4
            have eg : hexGo (ds.drop k) r = if hexv (ds.getD k 0) < 0 then -1 else hexGo (ds.drop (k + 1)) (r * 16 + hexv (ds.getD k 0)) := by
              rw [drop_get (by rw [HL.out]; exact hk4)]
              rfl
            rw [hg] at eg
            have HG : Hid (hexGo ds 0 = if hexv (ds.getD k 0) < 0 then -1 else hexGo (ds.drop (k + 1)) (r * 16 + hexv (ds.getD k 0))) := eg
            have hr2 : r < 4096 := by
              have : (16 : Int) ^ k ≤ 16 ^ 3 := by exact_mod_cast Nat.pow_le_pow_right (n := 16) (by omega) (show k ≤ 3 by omega)
              omega
            have HR : Hid (r < 16 ^ k) := hr1
            generalize ds.getD k 0 = z at ck fk HG
            have HX := hexValue z w fk
            have hxl := hexv_le z
            generalize hexv z = d at HX HG hxl
            clear hg eg hr1 HF HC fk
            by_cases hd : d < 0
            · have e : hexGo ds 0 = -1 := by rw [HG.out, if_pos hd]
              have HE : Hid (hexGo ds 0 = -1) := e
              clear e HG
              go_wp2_with fail
              refine HX.mono ?_
              rintro _ _ ⟨rfl, hw⟩
              subst hw
              go_wp2
              go_ret
              exact ⟨ret32 HE.out.symm, 0, rfl⟩
            · have e : hexGo (ds.drop (k + 1)) (r * 16 + d) = hexGo ds 0 := by rw [HG.out, if_neg hd]
              have HE : Hid (hexGo (ds.drop (k + 1)) (r * 16 + d) = hexGo ds 0) := e
              have hor : bits .or .i32 (r * 16) d = r * 16 + d := bits_join .i32 31 (by decide) wraps_i32 4 (r * 16) d (by omega) (by omega) (by omega) (by omega) (by omega) (by omega)
              have HP : Hid (r * 16 + d < 16 ^ (k + 1)) := by
                have := HR.out
                show _ < _
                rw [Int.pow_succ]
                omega
              clear e HG
              go_wp2_with fail
              refine HX.mono ?_
              rintro _ _ ⟨rfl, hw⟩
              subst hw
              go_wp2
              go_round
              case rel => exact ⟨k + 1, r * 16 + d, by omega, by go_num, rfl, by omega, HP.out, HE.out⟩
              case measure => simp [intOf]; omega
          · go_wp2
            go_ret
            have h4 : ds.drop k = [] := List.drop_eq_nil_of_le (by rw [HL.out]; omega)
            rw [h4] at hg
            exact ⟨ret32 hg, 0, rfl⟩
      · have e := HN.out (fun hh => hy hh.2)
        subst hx
        have hy' : (y != 117) = true := by simp [hy]
        subst e
        clear HU HN
        go_enter Try.func21, Try.ntmps21
        go_wp2
        go_ret
        exact ⟨rfl, 0, rfl⟩
    · have e := HN.out (fun hh => hx hh.1)
      have hx' : (x != 92) = true := by simp [hx]
      subst e
      clear HU HN
      go_enter Try.func21, Try.ntmps21
      go_wp2
      go_ret
      exact ⟨rfl, 0, rfl⟩
  · have e : unitOf zs i = -1 := by
      unfold unitOf
      rw [if_neg (fun hh => h6 (by omega))]
    rw [e]
    have gi : (n : Int) < (i : Int) + 6 := by omega
    go_enter Try.func21, Try.ntmps21
    go_wp2
    go_ret
    exact ⟨rfl, 0, rfl⟩

theorem zzEscapedUnit (a : Option Addr) (n c : Nat) (zs : List Int) (i : Nat) (w : World) (L B : Nat) (h : RowAt w L B .u8 a n c zs) (hi : i ≤ 1073741824) :
    Calls Try.prog 13 #[.slice a n c, .int .i64 i] w fun e w' => e = .returned (.int .i32 (unitOf zs i)) ∧ ∃ q, w' = w.drewN q := by
  have E := escapedUnit a n c zs i w L B h hi
  go_enter Try.func13, Try.ntmps13
  go_wp2_with fail
  refine E.mono ?_
  rintro _ w1 ⟨rfl, q, hq⟩
  go_wp2
  go_ret
  exact ⟨rfl, q, rfl⟩
end Go.Proofs.Qxb6604181a
