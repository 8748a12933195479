import Derived.Test.Qxb6604181aTimes
import Derived.Lib.BufferWrite
namespace Go.Proofs.Qxb6604181a
open Go.RowKit

theorem cells_nums (t : ByteArray) : Lib.byteCells t.data.toList = cellsU (nums t) := by
  simp [Lib.byteCells, cellsU, nums]

/-- 'copy' of a string into a buffer of the call's own. -/
theorem wpList_copy_str {w : World} {ops : Array Oper} {rest : List Oper} {o : Oper} {a : Act} {Q : Exit → Act → World → Prop} (hgd : o.guard = none) (d s : Operand)
    (ho : o.op = .call { callee := .builtin .copy, args := #[d, s], argTypes := #[22, 9] })
    (dp : Option Addr) (dLen dCap : Nat) (t : ByteArray) (hd : a.eval d = .slice dp dLen dCap) (hs : a.eval s = .string t)
    (g off : Nat) (L : List Int) (hg : Buf w g L) (hle : Hid (t.size ≤ dLen)) (hdp : 0 < t.size → dp = some ⟨g, off, none⟩)
    (hfit : Hid (off + t.size ≤ L.length)) (B : Nat) (w0 : World) (hb : Below B w0 w) (hBg : B ≤ g)
    (h : ∀ w', Buf w' g (splice L off (nums t)) → Below B w0 w' → wpList Try.prog ops Q rest (a.put o.dst (goInt t.size)) w') :
    wpList Try.prog ops Q (o :: rest) a w := by
  refine wpList_plain hgd fun K hK => ?_
  by_cases h0 : t.size = 0
  · have hrun := Lib.run_copy_empty_string (P := Try.prog) w 22 9 o.type 5 dp dLen dCap t Try.underlying22 (by rw [Try.size5]; rfl) h0
    have hn : nums t = [] := List.eq_nil_of_length_eq_zero (by rw [length_nums]; exact h0)
    have hw := h w (by rw [hn]; simpa [splice] using hg) hb
    rw [h0] at hw
    unfold Oper.wp
    simp [execOp, ho, resolve, invoke, builtin, hd, hs, hrun, Result.andThen]
    exact hK _ _ hw
  · obtain rfl := hdp (by omega)
    have hrun := Lib.run_copy_row_string (P := Try.prog) w 22 9 o.type 5 g off dLen dCap t _ 5 Try.underlying22 Try.size5 hg hle.out (by simpa [cellsU] using hfit.out)
    have hw := h (w.setRow g (splice (cellsU L) off (cellsU (nums t))).toArray) (by
      unfold Buf
      rw [← splice_cellsU]
      exact setRow_heap w g _ _ 5 _ hg) (below_setRow hb hBg _)
    unfold Oper.wp
    rw [cells_nums, List.append_assoc] at hrun
    have e : splice (cellsU L) off (cellsU (nums t)) = (cellsU L).toArray.toList.take off ++ (cellsU (nums t) ++ (cellsU L).toArray.toList.drop (off + t.size)) := by
      simp only [splice]
      rw [length_cellsU, length_nums]
    rw [← e] at hrun
    simp [execOp, ho, resolve, invoke, builtin, hd, hs, hrun, Result.andThen]
    exact hK _ _ hw

theorem splice_two {X Y : List Int} {a b : Nat} (hX : X.length = a) (hY : Y.length = b) : splice (splice (List.replicate (a + b) 0) 0 X) a Y = X ++ Y := by
  subst hX
  subst hY
  simp [splice, List.drop_append]

theorem empty_of_size {t : ByteArray} (h : t.size = 0) : t = ByteArray.empty := by simpa using h
theorem size_of_empty {t : ByteArray} (h : t = ByteArray.empty) : t.size = 0 := by subst h; rfl
theorem slice_empty {t : ByteArray} (h : t = ByteArray.empty) (a : Option Addr) (n : Nat) : Value.slice a n n = Value.slice a (n + t.size) (n + t.size) := by
  subst h
  simp

theorem fits_u64 {z : Int} (h : Fits .u64 z) : 0 ≤ z := by
  have hw : IntKind.u64.min ≤ z ∧ z ≤ IntKind.u64.max := by simpa [Fits, Lit.wf] using h
  have hmin : IntKind.u64.min = 0 := by decide
  rw [hmin] at hw
  exact hw.1

set_option maxRecDepth 20000 in
set_option maxHeartbeats 2000000 in
theorem lawTwice (s t : ByteArray) (k : Int) (w : World) (hs : s.size ≤ maxLen) (ht : t.size ≤ maxLen) (hk : Fits .u64 k) :
    Calls Try.prog 6 #[.string s, .string t, .int .u64 k] w fun e w' => e = .returned (.bool true) ∧ Below w.heap.size w w' := by
  obtain ⟨k, rfl⟩ := Int.eq_ofNat_of_zero_le (fits_u64 hk)
  have Z := sizes6 s t k w hs ht
  have H1 : Hid (s.size ≤ maxLen) := hs
  have H2 : Hid (t.size ≤ maxLen) := ht
  unfold maxLen at hs ht
  clear hk
  go_enter Try.func6, Try.ntmps6
  go_wp2_with (first
    | (go_at_call 16; refine Z.mono ?_; rintro _ _ ⟨⟨b0, rfl, hb0⟩, hw1⟩; subst hw1)
    | (go_at_call 17; refine (allDigits _ _ (by first | exact H1.out | exact H2.out)).mono ?_; rintro _ _ ⟨⟨b1, rfl, hb1⟩, hw1⟩; subst hw1))
  all_goals try (go_ret; exact ⟨rfl, Below.refl _ _⟩)
  have hdt : Dig (nums t) := hb1 (by have h : (!b1) = false := by assumption
                                     simpa using h)
  clear hb1
  have hds : Dig (nums s) := by solve_by_elim
  have hs5 : s.size ≤ 524288 := by omega
  have ht5 : t.size ≤ 524288 := by omega
  have hk60 : k ≤ 60 := by omega
  have hd : Dig (nums s ++ nums t) := fun z hz => (List.mem_append.1 hz).elim (hds z) (hdt z)
  refine (zzTimesPower s t k w hs5 ht5 hk60 hd).mono ?_
  rintro _ w2 ⟨⟨P, hP, rfl⟩, hb2⟩
  generalize hX1 : strOfNums (P.take (P.length - t.size)) = X1
  generalize hX2 : strOfNums (P.drop (P.length - t.size)) = X2
  have HX1 : Hid (strOfNums (P.take (P.length - t.size)) = X1) := hX1
  have HX2 : Hid (strOfNums (P.drop (P.length - t.size)) = X2) := hX2
  clear hX1 hX2
  obtain ⟨V, hV⟩ : ∃ V, V = val (nums s ++ nums t) := ⟨_, rfl⟩
  have HP : Hid (Fit (s.size + t.size) (V * 2 ^ k) P) := by rw [hV]; exact hP
  have H0 : Hid (Fit (s.size + t.size) V (nums s ++ nums t)) := by
    have := fit_start hd
    rw [← hV, List.length_append, length_nums, length_nums] at this
    exact this
  have HF : Hid (∀ z ∈ nums s ++ nums t, Fits .u8 z) := dig_fits hd
  have hsz := hb2.size
  clear Z hb0 hdt hds hd hP hV
  obtain ⟨i0, hi, hz0, hz1, hz2⟩ := info_parts Try.info5
  have HB : i0.bytes * (s.size + t.size) ≤ 281474976710656 := by rw [hz2]; omega
  have hml : s.size + t.size ≤ maxLen := by unfold maxLen; omega
  have e1 : Hid (s.size ≤ s.size + t.size) := Nat.le_add_right _ _
  have e2 : Hid (0 + s.size ≤ (List.replicate (s.size + t.size) (0 : Int)).length) := show _ ≤ _ by simp
  have e4 : Hid (s.size + t.size ≤ (splice (List.replicate (s.size + t.size) 0) 0 (nums s)).length) := show _ ≤ _ by
    rw [length_splice _ _ _ (by rw [length_nums]; exact e2.out)]; simp
  have HS : Hid (splice (splice (List.replicate (s.size + t.size) 0) 0 (nums s)) s.size (nums t) = nums s ++ nums t) := splice_two (length_nums s) (length_nums t)
  have e3 : Hid (t.size ≤ t.size) := Nat.le_refl _
  have e3' : Hid (t.size ≤ s.size + t.size - s.size) := show _ ≤ _ by omega
  go_wp2_with (first
    | (at_make; refine wpList_make_full _ rfl _ _ 22 rfl w2.heap.size 5 i0 (.int .u8 0) 1 Try.underlying22 hi hz0 hz1 _ _ _ _ (s.size + t.size) rfl rfl (by omega) (by omega) HB hml (Nat.le_refl _) ?_; intro w3 hown hgrow; have hB3 : Buf w3 w2.heap.size (List.replicate (s.size + t.size) 0) := Buf.start hown; have hb3 : Below w.heap.size w w3 := hb2.grown hgrow hsz (by simp); clear hown hgrow)
    | (guard_target = wpList _ _ _ (Oper.mk _ (Op.call { callee := Callee.builtin Builtin.copy, args := _, argTypes := _ }) _ _ _ _ :: _) _ _; refine wpList_copy_str rfl _ _ rfl _ _ _ s rfl rfl w2.heap.size 0 _ hB3 e1 (fun _ => rfl) e2 w.heap.size w hb3 hsz ?_; intro w4 hB4 hb4; clear hB3 hb3)
    | (guard_target = wpList _ _ _ (Oper.mk _ (Op.call { callee := Callee.builtin Builtin.copy, args := _, argTypes := _ }) _ _ _ _ :: _) _ _; refine wpList_copy_str rfl _ _ rfl _ _ _ t rfl rfl w2.heap.size s.size _ hB4 (by first | exact e3 | exact e3' | (show _ ≤ _; simp_all)) (by first | exact fun _ => rfl | (intro hh; have hne : ¬ t = ByteArray.empty := (fun he => by rw [he] at hh; exact absurd hh (by decide)); simp [hne])) e4 w.heap.size w hb4 hsz ?_; intro w5 hB5 hb5; clear hB4 hb4))
  all_goals
    rw [HS.out] at hB5
    clear HS e1 e2 e3 e3' e4 hi hz0 hz1 hz2 HB
    go_loopw [9, 10] (fun bv rv wr => ∃ (r g off n c : Nat) (M : List Int), r ≤ k ∧ rv = .int .u64 r ∧ bv = .slice (some ⟨g, off, none⟩) n c ∧ RowAt wr 0 wr.heap.size .u8 (some ⟨g, off, none⟩) n c M ∧ n ≤ s.size + t.size + r ∧ Fit (s.size + t.size) (V * 2 ^ r) M ∧ Below w.heap.size w wr) (fun _ rv _ => k - (intOf rv).toNat)
    case atStart =>
      refine ⟨0, w2.heap.size, 0, s.size + t.size, s.size + t.size, nums s ++ nums t, Nat.zero_le _, rfl, (by first | rfl | exact slice_empty (by assumption) _ _), ?_, by omega, by simpa using H0.out, hb5⟩
      refine (hB5.row (off := 0) (n := s.size + t.size) ?_ (by rw [List.length_append, length_nums, length_nums]) (Nat.le_refl _) hml HF.out).keep (Keeps.refl _ _ _) (Nat.zero_le _) (Nat.le_refl _)
      rw [List.drop_zero, List.take_of_length_le (by rw [List.length_append, length_nums, length_nums]; exact Nat.le_refl _)]
    case round =>
      obtain ⟨r, g, off, n, c, M, hr, rfl, rfl, hR, hn, hM, hbr⟩ := hrel
      clear hB5 hb5
      have hcm : c ≤ maxLen := hR.2.2.1
      have hnc := hR.2.1
      have hMl := hR.1
      by_cases hrk : r < k
      · have DD := zzDouble _ _ _ M wr 0 hR hM.1 (by omega)
        have HM : Hid (Fit (s.size + t.size) (V * 2 ^ r) M) := hM
        have hsr := hbr.size
        clear hM hR
        go_wp2_with fail
        refine DD.mono ?_
        rintro _ w6 ⟨⟨g6, off6, n6, c6, R, rfl, hR6, hn6, hf6⟩, hb6⟩
        have HF6 : Hid (Fit (s.size + t.size) (V * 2 ^ (r + 1)) R) := by
          have := hf6 _ _ HM.out
          rw [Nat.mul_assoc, ← Nat.pow_succ] at this
          exact this
        clear hf6 DD
        go_wp2
        go_roundw
        case rel => exact ⟨r + 1, g6, off6, n6, c6, R, by omega, by go_num, rfl, hR6.keep (Keeps.refl _ _ _) (Nat.zero_le _) (Nat.le_refl _), by omega, HF6.out, hbr.trans (hb6.mono hsr)⟩
        case measure => simp [intOf]; omega
      · obtain rfl : r = k := by omega
        obtain rfl : M = P := fit_unique hM HP.out
        have hle := hM.le
        obtain ⟨pt, hpt⟩ : ∃ pt : Nat, (n : Int) - (t.size : Int) = (pt : Int) := ⟨n - t.size, by omega⟩
        have ept : M.length - t.size = pt := by omega
        have x1 := HX1.out
        have x2 := HX2.out
        rw [ept] at x1 x2
        clear HX1 HX2
        have hpn : pt ≤ n := by omega
        have hpi : (pt : Int) ≤ (n : Int) := by omega
        have hpc : (pt : Int) ≤ (c : Int) := by omega
        have hc1 : (convert 22 9 (.slice (some ⟨g, off, none⟩) pt c)).run Try.prog wr = .ok (.string (strOfNums (M.take pt))) wr := by
          refine run_convert_bytes_arg wr 22 5 Try.underlying22 Try.underlying5 _ _ _ _ (M.take pt) (by simp; omega) (fun j hj => ?_) 9 Try.underlying9
          obtain ⟨b', o', e', _, hc⟩ := hR.at (i := j) (by omega)
          cases e'
          rw [hc j (by omega)]
          simp [List.getD, hj]
        have hc2 : (convert 22 9 (.slice (some ⟨g, off + pt, none⟩) (n - pt) (c - pt))).run Try.prog wr = .ok (.string (strOfNums (M.drop pt))) wr := by
          refine run_convert_bytes_arg wr 22 5 Try.underlying22 Try.underlying5 _ _ _ _ (M.drop pt) (by simp; omega) (fun j hj => ?_) 9 Try.underlying9
          obtain ⟨b', o', e', _, hc⟩ := hR.at (i := pt + j) (by omega)
          cases e'
          rw [Nat.add_assoc, hc (pt + j) (by omega)]
          simp [List.getD]
        have hc3 : pt = c → (convert 22 9 (.slice (some ⟨g, off, none⟩) 0 0)).run Try.prog wr = .ok (.string (strOfNums (M.drop pt))) wr := by
          intro e
          refine run_convert_bytes_arg wr 22 5 Try.underlying22 Try.underlying5 _ _ _ _ (M.drop pt) (by simp; omega) (fun j hj => by omega) 9 Try.underlying9
        rw [x1] at hc1
        rw [x2] at hc2 hc3
        clear x1 x2 HP hM hR hle ept hMl H0 HF
        by_cases hp : pt = c
        · have hc4 := hc3 hp
          clear hc3 hc2
          obtain rfl : n = pt := by omega
          subst hp
          have ht0 : t = ByteArray.empty := empty_of_size (by omega)
          first
            | exact absurd ht0 (by assumption)
            | (clear hpt
               go_wp2
               go_ret
               exact ⟨rfl, hbr⟩)
        · clear hc3
          first
            | (have hE : t = ByteArray.empty := by assumption
               have hE0 := size_of_empty hE
               obtain rfl : n = pt := by omega
               rw [Nat.sub_self] at hc2
               clear hpt hE0
               go_wp2
               go_ret
               exact ⟨rfl, hbr⟩)
            | (go_wp2
               go_ret
               exact ⟨rfl, hbr⟩)
end Go.Proofs.Qxb6604181a
