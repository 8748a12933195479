import Derived.Test.Qxb6604181aHexes
import Derived.Test.Qxb6604181aDigits
import Derived.Laws.BytesArg
namespace Go.Proofs.Qxb6604181a
open Go.RowKit

theorem drop_set_same {L : List Int} {i : Nat} {z : Int} (h : i < L.length) : (L.set i z).drop i = z :: L.drop (i + 1) := by
  rw [List.drop_eq_getElem_cons (by simpa using h)]
  simp [List.drop_set]

/-- What stands in the buffer when the digits of M from t on are multiplied by m: they lie from place t + b on; c is carried. -/
def Part (M : List Int) (m b t c : Nat) (L : List Int) : Prop :=
  (L.drop (t + b)).length = M.length - t ∧ Dig (L.drop (t + b)) ∧ val (L.drop (t + b)) + c * 10 ^ (L.drop (t + b)).length = val (M.drop t) * m ∧ c < m

theorem Part.start {M : List Int} {m b : Nat} {L : List Int} (hm : 0 < m) (hL : L.length = M.length + b) : Part M m b M.length 0 L := by
  have h : L.drop (M.length + b) = [] := List.drop_eq_nil_of_le (by omega)
  unfold Part
  rw [h]
  exact ⟨by simp, (fun z hz => by cases hz), by simp [val], hm⟩

theorem Part.step {M : List Int} {m b t c : Nat} {L : List Int} (h : Part M m b (t + 1) c L) (hM : Dig M) (ht : t < M.length) (hL : t + b < L.length) {x : Nat} (hx : x = dg (M.getD t 0) * m + c) {z : Int} (hz : z = 48 + ((x % 10 : Nat) : Int)) :
    Part M m b t (x / 10) (L.set (t + b) z) := by
  obtain ⟨h1, h2, h3, h4⟩ := h
  have e : (L.set (t + b) z).drop (t + b) = z :: L.drop (t + 1 + b) := by rw [drop_set_same hL, show t + b + 1 = t + 1 + b from by omega]
  have hd := dig_of (x % 10) (Nat.mod_lt _ (by omega))
  have hmem : M.getD t 0 ∈ M := by
    simp [List.getD, List.getElem?_eq_getElem ht]
  unfold Part
  rw [e, drop_get ht]
  refine ⟨by simp only [List.length_cons]; omega, h2.cons (by omega) (by omega), ?_, ?_⟩
  · have hs := mul_step (m := m) (c := c) (R := L.drop (t + 1 + b)) (D := M.drop (t + 1)) (d := M.getD t 0) (by rw [h1]; simp) h3
    rw [← hx, ← hz] at hs
    simpa using hs
  · rw [hx]
    exact carry_lt (hM _ hmem).2 h4

theorem dig_fits {L : List Int} (h : Dig L) : ∀ z ∈ L, Fits .u8 z := by
  intro z hz
  have := h z hz
  simp only [Fits, Lit.wf]
  have hmin : IntKind.u8.min = 0 := by decide
  have hmax : IntKind.u8.max = 255 := by decide
  simp [hmin, hmax]
  omega

/-- The bytes of a string as numbers. -/
def nums (s : ByteArray) : List Int := s.data.toList.map fun b => (b.toNat : Int)
theorem length_nums (s : ByteArray) : (nums s).length = s.size := by simp [nums]

set_option maxRecDepth 20000 in
set_option maxHeartbeats 1000000 in
theorem zzDouble (a : Option Addr) (n c : Nat) (M : List Int) (w : World) (L0 : Nat) (h : RowAt w L0 w.heap.size .u8 a n c M) (hM : Dig M) (hn : n ≤ 2097152) :
    Calls Try.prog 19 #[.slice a n c] w fun e w' => (∃ g off n' c' R, e = .returned (.slice (some ⟨g, off, none⟩) n' c') ∧ RowAt w' w.heap.size w'.heap.size .u8 (some ⟨g, off, none⟩) n' c' R ∧ n' ≤ n + 1 ∧ ∀ n0 V, Fit n0 V M → Fit n0 (V * 2) R) ∧ Below w.heap.size w w' := by
  have hl := h.1
  obtain ⟨i0, hi, hz0, hz1, hz2⟩ := info_parts Try.info5
  have HB : i0.bytes * (n + 1) ≤ 281474976710656 := by rw [hz2]; omega
  have hml : n + 1 ≤ maxLen := by unfold maxLen; omega
  go_enter Try.func19, Try.ntmps19
  go_wp2_with (first
    | (at_make; refine wpList_make_full _ rfl _ _ 22 rfl w.heap.size 5 i0 (.int .u8 0) 1 Try.underlying22 hi hz0 hz1 _ _ _ _ (n + 1) rfl rfl (by omega) (by omega) HB hml (Nat.le_refl _) ?_; intro w3 hown hgrow; have hB3 : Buf w3 w.heap.size (List.replicate (n + 1) 0) := Buf.start hown; have hb3 : Below w.heap.size w w3 := (Below.refl _ _).grown hgrow (Nat.le_refl _) (by simp); clear hown hgrow))
  go_loopw [4, 5] (fun cv jv wr => ∃ (t : Nat) (z : Int) (k : Nat) (L : List Int), t ≤ n ∧ z + 1 = t ∧ jv = .int .i64 z ∧ cv = .int .u8 k ∧ Buf wr w.heap.size L ∧ L.length = n + 1 ∧ Part M 2 1 t k L ∧ Below w.heap.size w wr) (fun _ jv _ => (intOf jv + 1).toNat)
  case atStart => exact ⟨n, (n : Int) - 1, 0, _, Nat.le_refl _, by omega, rfl, rfl, hB3, by simp, by rw [← hl]; exact Part.start (by omega) (by simp [hl]), hb3⟩
  case round =>
    obtain ⟨t, z, k, L, ht, hz, rfl, rfl, hB, hL, hP, hbr⟩ := hrel
    clear hB3 hb3 hi hz0 hz1 hz2 HB
    have hk2 := hP.2.2.2
    cases t with
    | zero =>
      obtain rfl : z = -1 := by omega
      have hq : L.drop (0 + 1) = L.drop 1 := rfl
      unfold Part at hP
      rw [hq, List.drop_zero] at hP
      obtain ⟨p1, p2, p3, p4⟩ := hP
      have hbl := hB.lt
      have HRow : Hid (L.set 0 49 = 49 :: L.drop 1) := by
        have := drop_set_same (L := L) (i := 0) (z := 49) (by omega)
        rw [List.drop_zero] at this
        exact this
      have hk01 : k = 0 ∨ k = 1 := by omega
      clear hq hz hk2
      rcases hk01 with rfl | rfl
      · have HR : Hid (∀ n0 V, Fit n0 V M → Fit n0 (V * 2) (L.drop 1)) := fun n0 V hf => fit_double0 hf p2 (by omega) p3
        have HF : Hid (∀ z ∈ L.drop 1, Fits .u8 z) := dig_fits p2
        have hp1 : (L.drop 1).length = n := by omega
        clear p1 p2 p3 p4
        by_cases hn0 : n = 0
        · subst hn0
          go_wp2
          go_ret
          exact ⟨⟨_, _, _, _, _, rfl, ⟨hp1, Nat.le_refl _, Nat.zero_le _, HF.out, .inl rfl⟩, by omega, HR.out⟩, hbr⟩
        · go_wp2
          go_ret
          exact ⟨⟨_, _, _, _, _, rfl, hB.row (List.take_of_length_le (by omega)) hp1 (Nat.le_refl _) (by omega) HF.out, by omega, HR.out⟩, hbr⟩
      · have HR : Hid (∀ n0 V, Fit n0 V M → Fit n0 (V * 2) (49 :: L.drop 1)) := fun n0 V hf => fit_double1 hf p2 (by omega) p3
        have HF : Hid (∀ z ∈ 49 :: L.drop 1, Fits .u8 z) := dig_fits (p2.cons (by omega) (by omega))
        have q := hB.cell (i := 0) (by omega)
        have f := hB.frozen 0
        have hp1 : (L.drop 1).length = n := by omega
        clear p1 p2 p3 p4
        go_wp2
        go_ret
        have hB' := hB.set 0 49
        rw [HRow.out] at hB'
        exact ⟨⟨_, _, _, _, _, rfl, hB'.row (by rw [List.drop_zero]; exact List.take_of_length_le (by simp only [List.length_cons]; omega)) (by simp only [List.length_cons]; omega) (Nat.le_refl _) hml HF.out, Nat.le_refl _, HR.out⟩, hbr.setCell (Nat.le_refl _) _⟩
    | succ t =>
      obtain rfl : z = (t : Int) := by omega
      obtain ⟨b, off, rfl, hb, hc⟩ := h.at (i := 0) (by omega)
      have ct := (hbr.cell (p := ⟨b, off + t, none⟩) hb).trans (hc t (by omega))
      have q := hB.cell (i := t + 1) (by omega)
      have f := hB.frozen (t + 1)
      have hmem : M.getD t 0 ∈ M := by
        rw [List.getD, List.getElem?_eq_getElem (by omega)]
        simp
      have hd := hM _ hmem
      obtain ⟨x, hx⟩ : ∃ x, x = dg (M.getD t 0) * 2 + k := ⟨_, rfl⟩
      have HP : Hid (∀ z, z = 48 + ((x % 10 : Nat) : Int) → Part M 2 1 t (x / 10) (L.set (t + 1) z)) := fun z hz => hP.step hM (by omega) (by omega) hx hz
      have hxz : (x : Int) = (M.getD t 0 - 48) * 2 + (k : Int) := by rw [hx]; unfold dg; omega
      generalize M.getD t 0 = y at ct hd hxz
      have HX : Hid ((x : Int) = (y - 48) * 2 + (k : Int)) := hxz
      clear hx hP hc h hmem hxz hz
      go_wp2
      go_roundw
      case rel =>
        have hx := HX.out
        exact ⟨t, (t : Int) - 1, x / 10, _, by omega, by omega, rfl, congrArg (Value.int .u8) (by omega), hB.set _ _, by simpa using hL, HP.out _ (by omega), hbr.setCell (Nat.le_refl _) _⟩
      case measure => simp [intOf]
end Go.Proofs.Qxb6604181a
