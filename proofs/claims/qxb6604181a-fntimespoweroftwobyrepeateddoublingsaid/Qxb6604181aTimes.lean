import Derived.Test.Qxb6604181aDoubles
namespace Go.Proofs.Qxb6604181a
open Go.RowKit

/-- The bound on the sizes of the doubling law's arguments. -/
theorem sizes6 (s t : ByteArray) (k : Int) (w : World) (hs : s.size ≤ maxLen) (ht : t.size ≤ maxLen) :
    Calls Try.prog 16 #[.string s, .string t, .int .u64 k] w fun e w' => (∃ r : Bool, e = .returned (.bool r) ∧ (r = true → s.size + t.size ≤ 1048576)) ∧ w = w' := by
  unfold maxLen at hs ht
  go_enter Try.func16, Try.ntmps16
  go_wp2
  all_goals
    go_ret
    first
      | exact ⟨⟨false, rfl, fun h => by cases h⟩, rfl⟩
      | exact ⟨⟨true, rfl, fun _ => by omega⟩, rfl⟩

theorem nums_get {s : ByteArray} {j : Nat} (h : j < s.size) : (nums s).getD j 0 = ((s[j]'h).toNat : Int) := by
  have h' : j < s.data.toList.length := by simpa using h
  simp only [nums, List.getD, List.getElem?_map, List.getElem?_eq_getElem h', Option.map_some, Option.getD_some]
  rfl

/-- A bool that is true only over digits. -/
def SaysDig (s : ByteArray) (e : Ending) : Prop := ∃ r : Bool, e = .returned (.bool r) ∧ (r = true → Dig (nums s))

theorem allDigits (s : ByteArray) (w : World) (hs : s.size ≤ maxLen) :
    Calls Try.prog 17 #[.string s] w fun e w' => SaysDig s e ∧ w = w' := by
  unfold maxLen at hs
  go_enter Try.func17, Try.ntmps17
  go_wp2
  go_loop [3] (fun jv => ∃ j : Nat, j ≤ s.size ∧ jv = .int .i64 j ∧ ∀ i, i < j → 48 ≤ (nums s).getD i 0 ∧ (nums s).getD i 0 ≤ 57) (fun jv => s.size - (intOf jv).toNat)
  case atStart => exact ⟨0, Nat.zero_le _, rfl, fun i hi => absurd hi (Nat.not_lt_zero _)⟩
  case round =>
    obtain ⟨j, hj, rfl, hd⟩ := hrel
    have HD : Hid (∀ i, i < j → 48 ≤ (nums s).getD i 0 ∧ (nums s).getD i 0 ≤ 57) := hd
    clear hd
    by_cases hlt : j < s.size
    · have HG : Hid ((nums s).getD j 0 = ((s[j]'hlt).toNat : Int)) := nums_get hlt
      go_wp2
      · go_ret
        exact ⟨⟨false, rfl, fun h => by cases h⟩, rfl⟩
      · go_round
        case rel => exact ⟨j + 1, by omega, by go_num, fun i hi => by
          by_cases e : i = j
          · subst e
            rw [HG.out]
            omega
          · exact HD.out i (by omega)⟩
        case measure => simp [intOf]; omega
      · go_ret
        exact ⟨⟨false, rfl, fun h => by cases h⟩, rfl⟩
    · go_wp2
      go_ret
      refine ⟨⟨true, rfl, fun _ z hz => ?_⟩, rfl⟩
      obtain ⟨i, hi, rfl⟩ := List.mem_iff_getElem.1 hz
      have := HD.out i (by rw [length_nums] at hi; omega)
      simpa [hi] using this

theorem extract_nums (P : List Int) (a b : Nat) : (strOfNums P).extract a b = strOfNums ((P.drop a).take (b - a)) := by
  apply ByteArray.ext
  rw [ByteArray.data_extract]
  simp [strOfNums, List.extract_toArray, List.map_drop, List.map_take]

/-- The two texts that the product is cut into. -/
def Cuts (N V f : Nat) (e : Ending) : Prop := ∃ P : List Int, Fit N V P ∧ e = .returned (.tuple #[.string (strOfNums (P.take (P.length - f))), .string (strOfNums (P.drop (P.length - f)))])

theorem nums_append (s t : ByteArray) : nums (s ++ t) = nums s ++ nums t := by
  simp [nums]

set_option maxRecDepth 20000 in
set_option maxHeartbeats 2000000 in
theorem timesPower (s t : ByteArray) (k : Nat) (w : World) (hs : s.size ≤ 524288) (ht : t.size ≤ 524288) (hk : k ≤ 60) (hd : Dig (nums s ++ nums t)) :
    Calls Try.prog 22 #[.string s, .string t, .int .u64 k] w fun e w' => Cuts (s.size + t.size) (val (nums s ++ nums t) * 2 ^ k) t.size e ∧ Below w.heap.size w w' := by
  obtain ⟨i0, hi, hz0, hz1, hz2⟩ := info_parts Try.info5
  have HB : i0.bytes * (s.size + t.size + 19) ≤ 281474976710656 := by rw [hz2]; omega
  have hml : s.size + t.size + 19 ≤ maxLen := by unfold maxLen; omega
  obtain ⟨m, hm⟩ : ∃ m : Nat, m = 2 ^ k := ⟨_, rfl⟩
  have hm1 : 0 < m := by rw [hm]; exact Nat.two_pow_pos k
  have hm2 : m ≤ 1152921504606846976 := by
    have h1 : 2 ^ k ≤ 2 ^ 60 := Nat.pow_le_pow_right (by omega) hk
    rw [hm]
    exact Nat.le_trans h1 (by decide)
  have hpow : IntKind.u64.wrap ((2 : Int) ^ k) = (m : Int) := by
    have e : ((2 : Int) ^ k) = (m : Int) := by rw [hm]; simp
    rw [e, IntKind.wrap_u64]
    omega
  have HM : Hid (m = 2 ^ k) := hm
  clear hm
  go_enter Try.func22, Try.ntmps22
  go_wp2_with (first
    | (at_make; refine wpList_make_full _ rfl _ _ 22 rfl w.heap.size 5 i0 (.int .u8 0) 1 Try.underlying22 hi hz0 hz1 _ _ _ _ (s.size + t.size + 19) rfl rfl (by omega) (by omega) HB hml (Nat.le_refl _) ?_; intro w3 hown hgrow; have hB3 : Buf w3 w.heap.size (List.replicate (s.size + t.size + 19) 0) := Buf.start hown; have hb3 : Below w.heap.size w w3 := (Below.refl _ _).grown hgrow (Nat.le_refl _) (by simp); clear hown hgrow))
  obtain ⟨D, hD⟩ : ∃ D, D = s ++ t := ⟨_, rfl⟩
  rw [← hD]
  have HE : Hid (nums s ++ nums t = nums D) := by rw [hD, nums_append]; rfl
  have hDs : D.size = s.size + t.size := by rw [hD]; simp
  have hDD : Dig (nums D) := by rw [← HE.out]; exact hd
  have hDl : (nums D).length = s.size + t.size := by rw [length_nums, hDs]
  clear hD hd hpow hi hz0 hz1 hz2 HB
  go_loopw [11, 12, 13] (fun iv cv jv wr => ∃ (r : Nat) (z y : Int) (c : Nat) (L : List Int), r ≤ s.size + t.size ∧ z + 1 = r ∧ y = (r : Int) + 19 ∧ jv = .int .i64 z ∧ iv = .int .i64 y ∧ cv = .int .u64 c ∧ Buf wr w.heap.size L ∧ L.length = s.size + t.size + 19 ∧ Part (nums D) m 19 r c L ∧ Below w.heap.size w wr) (fun _ _ jv _ => (intOf jv + 1).toNat)
  case atStart => exact ⟨s.size + t.size, _, _, 0, _, Nat.le_refl _, by omega, by omega, rfl, rfl, rfl, hB3, by simp, by rw [← hDl]; exact Part.start hm1 (by simp [hDl]), hb3⟩
  case round =>
    obtain ⟨r, z, y, c, L, hr, hz, hy, rfl, rfl, rfl, hB, hL, hP, hbr⟩ := hrel
    clear hB3 hb3
    have hcm := hP.2.2.2
    cases r with
    | zero =>
      obtain rfl : z = -1 := by omega
      obtain rfl : y = 19 := by omega
      clear hz hy
      obtain ⟨V, hV⟩ : ∃ V, V = val (nums D) * m := ⟨_, rfl⟩
      have HV : Hid (V = val (nums D) * m) := hV
      have hG : Going (s.size + t.size) V c (L.drop 19) := by
        obtain ⟨p1, p2, p3, p4⟩ := hP
        rw [Nat.zero_add] at p1 p2 p3
        rw [List.drop_zero, ← hV] at p3
        exact ⟨p2, p3, .inl (by omega)⟩
      have hc19 : c < 10 ^ 19 := by
        have : (1152921504606846976 : Nat) < 10 ^ 19 := by decide
        omega
      clear hP hV
      go_wp2
      go_loopw [11, 12] (fun iv cv wr => ∃ (i : Nat) (z : Int) (c : Nat) (L : List Int), i ≤ 19 ∧ z = (i : Int) ∧ iv = .int .i64 z ∧ cv = .int .u64 c ∧ Buf wr w.heap.size L ∧ L.length = s.size + t.size + 19 ∧ Going (s.size + t.size) V c (L.drop i) ∧ c < 10 ^ i ∧ c < m ∧ Below w.heap.size w wr) (fun iv _ _ => (intOf iv).toNat)
      case atStart => exact ⟨19, 19, c, L, Nat.le_refl _, rfl, rfl, rfl, hB, hL, hG, hc19, hcm, hbr⟩
      case round =>
        clear hB hL hG hc19 hcm hbr
        obtain ⟨i, z, c, L, hi, hz, rfl, rfl, hB, hL, hG, hci, hcm, hbr⟩ := hrel
        by_cases hc0 : 0 < c
        · cases i with
          | zero => simp at hci; omega
          | succ i =>
            obtain rfl : z = (i : Int) + 1 := by omega
            have q := hB.cell (i := i) (by omega)
            have f := hB.frozen i
            have HG : Hid (∀ z, z = 48 + ((c % 10 : Nat) : Int) → Going (s.size + t.size) V (c / 10) ((L.set i z).drop i)) := fun z hz => by
              rw [drop_set_same (by omega), hz]
              exact hG.step hc0
            have HC : Hid (c / 10 < 10 ^ i) := by
              show _ < _
              rw [Nat.pow_succ] at hci
              omega
            clear hz hG hci
            go_wp2
            go_roundw
            case rel => exact ⟨i, _, c / 10, _, by omega, by omega, rfl, congrArg (Value.int .u64) (by omega), hB.set _ _, by simpa using hL, HG.out _ (by omega), HC.out, by omega, hbr.setCell (Nat.le_refl _) _⟩
            case measure => simp [intOf]
        · obtain rfl : c = 0 := by omega
          subst hz
          have hF := hG.done
          obtain ⟨P, hP⟩ : ∃ P, P = L.drop i := ⟨_, rfl⟩
          have hPl : P.length = s.size + t.size + 19 - i := by rw [hP, List.length_drop, hL]
          have hcv : (convert 22 9 (.slice (some ⟨w.heap.size, i, none⟩) (s.size + t.size + 19 - i) (s.size + t.size + 19 - i))).run Try.prog wr = .ok (.string (strOfNums P)) wr := by
            refine run_convert_bytes_arg wr 22 5 Try.underlying22 Try.underlying5 _ _ _ _ P hPl (fun j hj => ?_) 9 Try.underlying9
            rw [hB.cell (i := i + j) (by omega), hP]
            simp
          have hcv0 : i = s.size + t.size + 19 → (convert 22 9 (.slice (some ⟨w.heap.size, 0, none⟩) 0 0)).run Try.prog wr = .ok (.string (strOfNums P)) wr := by
            intro e
            refine run_convert_bytes_arg wr 22 5 Try.underlying22 Try.underlying5 _ _ _ _ P (by omega) (fun j hj => by omega) 9 Try.underlying9
          rw [← hP] at hF
          have HF : Hid (Fit (s.size + t.size) V P) := hF
          have hle : s.size + t.size ≤ P.length := hF.le
          have hQs : (strOfNums P).size = s.size + t.size + 19 - i := (strOfNums_size P).trans hPl
          obtain ⟨Q, hQ⟩ : ∃ Q, Q = strOfNums P := ⟨_, rfl⟩
          rw [← hQ] at hQs hcv hcv0
          have HQ : Hid (Q = strOfNums P) := hQ
          have HL : Hid (P.length = s.size + t.size + 19 - i) := hPl
          obtain ⟨pt, hpt⟩ : ∃ pt : Nat, ((s.size + t.size + 19 - i : Nat) : Int) - (t.size : Int) = (pt : Int) := ⟨s.size + t.size + 19 - i - t.size, by omega⟩
          have hpq : (pt : Int) ≤ ((s.size + t.size + 19 - i : Nat) : Int) := by omega
          have HT : Hid (pt = P.length - t.size) := show _ = _ by omega
          clear hF hG hci hcm hc0 hP hL hle hPl hQ
          by_cases he : i = s.size + t.size + 19
          · have hcv1 := hcv0 he
            clear hcv0 hcv
            go_wp2
            go_quiet (fail)
            go_wp2
            have hP0 : P = [] := List.eq_nil_of_length_eq_zero (by rw [HL.out]; omega)
            subst hP0
            refine bodyPost_ret (v := .tuple #[.string ByteArray.empty, .string ByteArray.empty]) (by simp [results, Try.results22, go_sem]) rfl ⟨⟨[], ?_, by rw [List.take_nil, List.drop_nil]; rfl⟩, below_drewN hbr _⟩
            have := HF.out
            rw [HV.out, HM.out, ← HE.out] at this
            exact this
          · clear hcv0
            go_wp2
            go_quiet (fail)
            go_wp2
            refine bodyPost_ret (v := .tuple #[.string (Q.extract 0 pt), .string (Q.extract pt (s.size + t.size + 19 - i))]) (by simp [results, Try.results22, go_sem]) rfl ⟨⟨P, ?_, ?_⟩, below_drewN hbr _⟩
            · have := HF.out
              rw [HV.out, HM.out, ← HE.out] at this
              exact this
            · rw [HQ.out, extract_nums, extract_nums, ← HT.out, ← HL.out]
              rw [List.drop_zero, Nat.sub_zero, List.take_of_length_le (l := P.drop pt) (by simp)]
    | succ r =>
      obtain rfl : z = (r : Int) := by omega
      obtain rfl : y = (r : Int) + 20 := by omega
      have hrD : r < D.size := by omega
      have q := hB.cell (i := r + 19) (by omega)
      have f := hB.frozen (r + 19)
      have hg := nums_get hrD
      have hmem : (nums D).getD r 0 ∈ nums D := by
        rw [List.getD, List.getElem?_eq_getElem (by omega)]
        simp
      have hdd := hDD _ hmem
      obtain ⟨x, hx⟩ : ∃ x, x = dg ((nums D).getD r 0) * m + c := ⟨_, rfl⟩
      have HP : Hid (∀ z, z = 48 + ((x % 10 : Nat) : Int) → Part (nums D) m 19 r (x / 10) (L.set (r + 19) z)) := fun z hz => hP.step hDD (by omega) (by omega) hx hz
      rw [hg] at hdd hx
      obtain ⟨p, hp⟩ : ∃ p : Nat, p = dg (((D[r]'hrD).toNat : Nat) : Int) * m := ⟨_, rfl⟩
      have hpp : ((((D[r]'hrD).toNat : Nat) : Int) - 48) * (m : Int) = (p : Int) := by
        rw [hp]
        have : (((D[r]'hrD).toNat : Nat) : Int) - 48 = (dg (((D[r]'hrD).toNat : Nat) : Int) : Int) := by unfold dg; omega
        rw [this]
        simp
      have hp9 : p ≤ 9 * m := by rw [hp]; exact Nat.mul_le_mul_right _ (dg_le hdd.2)
      have HX : Hid (x = p + c) := by rw [hp]; exact hx
      have gr : (r : Int) < (s.size : Int) + (t.size : Int) := by omega
      have hp0 : (p : Int) ≤ 10376293541461622784 := by omega
      clear hx hP hmem hz hy hg hp
      go_wp2
      go_roundw
      case rel =>
        have hx := HX.out
        exact ⟨r, (r : Int) - 1, (r : Int) + 20 - 1, x / 10, _, by omega, by omega, by omega, rfl, rfl, congrArg (Value.int .u64) (by omega), hB.set _ _, by simpa using hL, HP.out _ (by omega), hbr.setCell (Nat.le_refl _) _⟩
      case measure => simp [intOf]

theorem zzTimesPower (s t : ByteArray) (k : Nat) (w : World) (hs : s.size ≤ 524288) (ht : t.size ≤ 524288) (hk : k ≤ 60) (hd : Dig (nums s ++ nums t)) :
    Calls Try.prog 18 #[.string s, .string t, .int .u64 k] w fun e w' => Cuts (s.size + t.size) (val (nums s ++ nums t) * 2 ^ k) t.size e ∧ Below w.heap.size w w' := by
  have E := timesPower s t k w hs ht hk hd
  go_enter Try.func18, Try.ntmps18
  go_wp2_with fail
  refine E.mono ?_
  rintro _ w1 ⟨⟨P, hP, rfl⟩, hb⟩
  go_wp2
  exact bodyPost_ret (v := .tuple #[.string (strOfNums (P.take (P.length - t.size))), .string (strOfNums (P.drop (P.length - t.size)))]) (by simp [results, Try.results18, go_sem]) rfl ⟨⟨P, hP, rfl⟩, hb⟩
end Go.Proofs.Qxb6604181a
