import Derived.Test.Qxb6604092aSame
namespace Go.Proofs.Qxb6604092a
open Go.RowKit

/-- The call hands back a bool that says whether p holds. -/
def SaysBool (r : Ending) (p : Prop) : Prop := ∃ b, r = .returned (.bool b) ∧ (b = true ↔ p)
theorem SaysBool.tt {p : Prop} (h : p) : SaysBool (.returned (.bool true)) p := ⟨true, rfl, by simp [h]⟩
theorem SaysBool.ff {p : Prop} (h : ¬ p) : SaysBool (.returned (.bool false)) p := ⟨false, rfl, by simp [h]⟩

/-- Two logs agree entry by entry up to each index at which they hold entries of the same term. -/
def Match2 (x y : List Ent) : Prop := ∀ i, i < x.length → i < y.length → (x.getD i ent0).term = (y.getD i ent0).term → ∀ j, j ≤ i → sameE (x.getD j ent0) (y.getD j ent0) = true
/-- Every two of the logs do. -/
def LM (ls : List (List Ent)) : Prop := ∀ a b, a < b → b < ls.length → Match2 (ls.getD a []) (ls.getD b [])

/-- What the scan for the last index of equal terms knows behind k rounds. -/
def LastOf (x y : List Ent) (k last : Nat) : Prop := last ≤ k ∧ (last = 0 ∨ (x.getD (last - 1) ent0).term = (y.getD (last - 1) ent0).term) ∧ ∀ i, i < k → (x.getD i ent0).term = (y.getD i ent0).term → i < last
theorem LastOf.start (x y : List Ent) : LastOf x y 0 0 := ⟨Nat.le_refl _, .inl rfl, fun i hi => by omega⟩
theorem LastOf.hit {x y : List Ent} {k last : Nat} (_ : LastOf x y k last) (he : (x.getD k ent0).term = (y.getD k ent0).term) : LastOf x y (k + 1) (k + 1) :=
  ⟨Nat.le_refl _, .inr (by simpa using he), fun i hi _ => hi⟩
theorem LastOf.miss {x y : List Ent} {k last : Nat} (h : LastOf x y k last) (he : (x.getD k ent0).term ≠ (y.getD k ent0).term) : LastOf x y (k + 1) last := by
  refine ⟨by have := h.1; omega, h.2.1, fun i hi e => ?_⟩
  by_cases hk : i = k
  · subst hk; exact absurd e he
  · exact h.2.2 i (by omega) e
theorem LastOf.good {x y : List Ent} {m last : Nat} (h : LastOf x y m last) (hm : m ≤ x.length ∧ m ≤ y.length ∧ (m = x.length ∨ m = y.length)) (hs : ∀ j, j < last → sameE (x.getD j ent0) (y.getD j ent0) = true) : Match2 x y := by
  intro i h1 h2 e j hj
  have := h.2.2 i (by omega) e
  exact hs j (by omega)
theorem LastOf.bad {x y : List Ent} {m last j : Nat} (h : LastOf x y m last) (hm : m ≤ x.length ∧ m ≤ y.length) (hj : j < last) (hs : sameE (x.getD j ent0) (y.getD j ent0) = false) : ¬ Match2 x y := by
  intro M
  have h1 := h.1
  rcases h.2.1 with h0 | h0
  · omega
  · have := M (last - 1) (by omega) (by omega) h0 j (by omega)
    rw [hs] at this
    cases this

theorem same_snoc {xs ys : List Ent} {j : Nat} (h : ∀ j', j' < j → sameE (xs.getD j' ent0) (ys.getD j' ent0) = true) (hj : sameE (xs.getD j ent0) (ys.getD j ent0) = true) : ∀ j', j' < j + 1 → sameE (xs.getD j' ent0) (ys.getD j' ent0) = true := by
  intro j' h'
  by_cases e : j' = j
  · subst e; exact hj
  · exact h j' (by omega)

/-- What the two outer loops know. -/
def DoneA (ls : List (List Ent)) (a : Nat) : Prop := ∀ a', a' < a → ∀ b, a' < b → b < ls.length → Match2 (ls.getD a' []) (ls.getD b [])
def DoneB (ls : List (List Ent)) (a b : Nat) : Prop := ∀ b', a < b' → b' < b → Match2 (ls.getD a []) (ls.getD b' [])
theorem DoneA.step {ls : List (List Ent)} {a b : Nat} (h : DoneA ls a) (k : DoneB ls a b) (hb : ls.length ≤ b) : DoneA ls (a + 1) := by
  intro a' ha b' h1 h2
  by_cases e : a' = a
  · subst e; exact k b' h1 (by omega)
  · exact h a' (by omega) b' h1 h2
theorem DoneB.step {ls : List (List Ent)} {a b : Nat} (k : DoneB ls a b) (h : Match2 (ls.getD a []) (ls.getD b [])) : DoneB ls a (b + 1) := by
  intro b' h1 h2
  by_cases e : b' = b
  · subst e; exact h
  · exact k b' h1 (by omega)
theorem DoneA.all {ls : List (List Ent)} {a : Nat} (h : DoneA ls a) (ha : ls.length ≤ a) : LM ls := fun a' b h1 h2 => h a' (by omega) b h1 h2

set_option maxRecDepth 20000 in
set_option maxHeartbeats 1000000 in
theorem logsMatch (a0 : Option Addr) (n c : Nat) (ls : List (List Ent)) (w : World) (h : LogsAt w 0 w.heap.size a0 n c ls) :
    Calls Try.prog 21 #[.slice a0 n c] w fun r w' => SaysBool r (LM ls) ∧ Below w.heap.size w w' := by
  have hl := h.1
  have hm : n ≤ maxLen := Nat.le_trans h.2.1 h.2.2.1
  unfold maxLen at hm
  go_enter Try.func21, Try.ntmps21
  go_wp2
  go_loopw [3] (fun i w1 => ∃ a : Nat, a ≤ n ∧ i = .int .i64 a ∧ DoneA ls a ∧ Below w.heap.size w w1) (fun i _ => n - (intOf i).toNat)
  case atStart => exact ⟨0, Nat.zero_le _, rfl, (fun a' ha => by omega), Below.refl _ _⟩
  case round =>
    obtain ⟨a, ha, rfl, hdA, hb1⟩ := hrel
    by_cases hlta : a < n
    · have HDA : Hid (DoneA ls a) := hdA
      clear hdA
      go_wp2
      go_loopw [4] (fun i w2 => ∃ b : Nat, a < b ∧ b ≤ n ∧ i = .int .i64 b ∧ DoneB ls a b ∧ Below w.heap.size w w2) (fun i _ => n - (intOf i).toNat)
      case atStart => exact ⟨a + 1, by omega, by omega, by go_num, (fun b' h1 h2 => by omega), hb1⟩
      case round =>
        obtain ⟨b, hab, hbn, rfl, hdB, hb2⟩ := hrel
        by_cases hltb : b < n
        · have HDB : Hid (DoneB ls a b) := hdB
          clear hdB
          obtain ⟨bl, ol, rfl, hbl, hcl⟩ := h.at hlta
          obtain ⟨ax, lx, cx_, ca0, LX⟩ := hcl a hlta
          obtain ⟨ay, ly, cy_, cb0, LY⟩ := hcl b hltb
          have ca := (hb2.cell (p := ⟨bl, ol + a, none⟩) hbl).trans ca0
          have cb := (hb2.cell (p := ⟨bl, ol + b, none⟩) hbl).trans cb0
          have ga : (a : Int) < (n : Int) := by omega
          have gb : (b : Int) < (n : Int) := by omega
          have hlx : lx ≤ maxLen := Nat.le_trans LX.2.1 LX.2.2.1
          have hly : ly ≤ maxLen := Nat.le_trans LY.2.1 LY.2.2.1
          unfold maxLen at hlx hly
          generalize hxs : ls.getD a [] = xs at LX
          generalize hys : ls.getD b [] = ys at LY
          have HXS : Hid (ls.getD a [] = xs) := hxs
          have HYS : Hid (ls.getD b [] = ys) := hys
          have hlenx : xs.length = lx := LX.1
          have hleny : ys.length = ly := LY.1
          have HLX : Hid (xs.length = lx) := hlenx
          have HLY : Hid (ys.length = ly) := hleny
          clear hxs hys hcl h ca0 cb0 hlenx hleny
          by_cases hcmp : ly < lx
          · go_wp2
            skip
            go_loopw [8, 9] (fun l i w3 => ∃ k last : Nat, k ≤ ly ∧ i = .int .i64 k ∧ l = .int .i64 last ∧ LastOf xs ys k last ∧ Below w.heap.size w w3) (fun _ i _ => ly - (intOf i).toNat)
            case atStart => exact ⟨0, 0, Nat.zero_le _, rfl, rfl, LastOf.start _ _, hb2⟩
            case round =>
              obtain ⟨k, last, hk, rfl, rfl, hlast, hb3⟩ := hrel
              have hl1 := hlast.1
              by_cases hlt : k < ly
              · obtain ⟨bx, ox, rfl, hbx, hcx⟩ := LX.at (i := k) (by omega)
                obtain ⟨by_, oy, rfl, hby, hcy⟩ := LY.at (i := k) (by omega)
                have EX := (hcx k (by omega))
                have EY := (hcy k (by omega))
                obtain ⟨x0, x1, x2, x3, cx0, _, _, _, xa, xb, xc, xd, xe, xf, rfl, _⟩ := EX
                obtain ⟨y0, y1, y2, y3, cy0, _, _, _, ya, yb, yc, yd, ye, yf, rfl, _⟩ := EY
                have cx := (hb3.cell (p := ⟨bx, ox + k * 4, none⟩) hbx).trans cx0
                have cy := (hb3.cell (p := ⟨by_, oy + k * 4, none⟩) hby).trans cy0
                obtain ⟨tx, htx⟩ : ∃ tx, tx = (xs.getD k ent0).term := ⟨_, rfl⟩
                obtain ⟨ty, hty⟩ : ∃ ty, ty = (ys.getD k ent0).term := ⟨_, rfl⟩
                rw [← htx] at cx
                rw [← hty] at cy
                have HTX : Hid (tx = (xs.getD k ent0).term) := htx
                have HTY : Hid (ty = (ys.getD k ent0).term) := hty
                have HLAST : Hid (LastOf xs ys k last) := hlast
                have gx : (k : Int) < (lx : Int) := by omega
                have gy : (k : Int) < (ly : Int) := by omega
                clear htx hty hlast hcx hcy cx0 cy0 LX LY
                go_wp2
                go_quiet (fail)
                go_wp2
                · have he : (tx == ty) = true := by assumption
                  go_roundw
                  case rel => exact ⟨k + 1, k + 1, by omega, by go_num, by go_num, HLAST.out.hit (by rw [← HTX.out, ← HTY.out]; simpa using he), below_drewN hb3 _⟩
                  case measure => simp [intOf]; omega
                · have he : (tx == ty) = false := by assumption
                  go_roundw
                  case rel => exact ⟨k + 1, last, by omega, by go_num, rfl, HLAST.out.miss (by rw [← HTX.out, ← HTY.out]; simpa using he), below_drewN hb3 _⟩
                  case measure => simp [intOf]; omega
              · have hkm : k = ly := by omega
                have hlast' : LastOf xs ys ly last := hkm ▸ hlast
                clear hlast
                have hnk : ¬ k < ly := hlt
                have HKM : Hid (k = ly) := hkm
                clear hkm hlt
                go_wp2
                go_loopw [10] (fun i w4 => ∃ j : Nat, j ≤ last ∧ i = .int .i64 j ∧ (∀ j', j' < j → sameE (xs.getD j' ent0) (ys.getD j' ent0) = true) ∧ Below w.heap.size w w4) (fun i _ => last - (intOf i).toNat)
                case atStart => exact ⟨0, Nat.zero_le _, rfl, fun j hj => by omega, hb3⟩
                case round =>
                  obtain ⟨j, hj, rfl, hsame, hb4⟩ := hrel
                  by_cases hjl : j < last
                  · obtain ⟨bx, ox, rfl, hbx, hcx⟩ := LX.at (i := j) (by omega)
                    obtain ⟨by_, oy, rfl, hby, hcy⟩ := LY.at (i := j) (by omega)
                    have EX := (hcx j (by omega)).keep (Nat.zero_le _) hbx (.of_below hb4) (Nat.le_refl _) (Nat.le_refl _)
                    have EY := (hcy j (by omega)).keep (Nat.zero_le _) hby (.of_below hb4) (Nat.le_refl _) (Nat.le_refl _)
                    have HB4 : Hid (Below w.heap.size w wr) := hb4
                    have hsz : w.heap.size ≤ wr.heap.size := hb4.size
                    have hbx' : bx < wr.heap.size := by omega
                    have hby' : by_ < wr.heap.size := by omega
                    have HSAME : Hid (∀ j', j' < j → sameE (xs.getD j' ent0) (ys.getD j' ent0) = true) := hsame
                    have HLAST : Hid (LastOf xs ys ly last) := hlast'
                    have gx : (j : Int) < (lx : Int) := by omega
                    have gy : (j : Int) < (ly : Int) := by omega
                    have gj : (0 : Int) ≤ (j : Int) := by omega
                    generalize hex : xs.getD j ent0 = ex at EX
                    generalize hey : ys.getD j ent0 = ey at EY
                    have HEX : Hid (xs.getD j ent0 = ex) := hex
                    have HEY : Hid (ys.getD j ent0 = ey) := hey
                    obtain ⟨x0, x1, x2, x3, cx0, cx1, cx2, cx3, VX⟩ := EX
                    obtain ⟨y0, y1, y2, y3, cy0, cy1, cy2, cy3, VY⟩ := EY
                    have hx : x0.oneCell' = true ∧ x1.oneCell' = true ∧ x2.oneCell' = true ∧ x3.oneCell' = true := by
                      obtain ⟨_, _, _, _, _, _, rfl, rfl, rfl, rfl, _⟩ := VX; exact ⟨rfl, rfl, rfl, rfl⟩
                    have hy : y0.oneCell' = true ∧ y1.oneCell' = true ∧ y2.oneCell' = true ∧ y3.oneCell' = true := by
                      obtain ⟨_, _, _, _, _, _, rfl, rfl, rfl, rfl, _⟩ := VY; exact ⟨rfl, rfl, rfl, rfl⟩
                    obtain ⟨hx0, hx1, hx2, hx3⟩ := hx
                    obtain ⟨hy0, hy1, hy2, hy3⟩ := hy
                    clear hsame hlast' hcx hcy hex hey LX LY hb4
                    go_wp2
                    go_region_held3 (fun w' => w'.cell? ⟨bx, ox + j * 4, none⟩ = some x0 ∧ w'.cell? ⟨bx, ox + j * 4 + 1, none⟩ = some x1 ∧ w'.cell? ⟨bx, ox + j * 4 + 2, none⟩ = some x2 ∧ w'.cell? ⟨bx, ox + j * 4 + 3, none⟩ = some x3 ∧ w'.cell? ⟨by_, oy + j * 4, none⟩ = some y0 ∧ w'.cell? ⟨by_, oy + j * 4 + 1, none⟩ = some y1 ∧ w'.cell? ⟨by_, oy + j * 4 + 2, none⟩ = some y2 ∧ w'.cell? ⟨by_, oy + j * 4 + 3, none⟩ = some y3)
                      (first | exact ⟨(hcc _ _ hbx').trans cx0, (hcc _ _ hbx').trans cx1, (hcc _ _ hbx').trans cx2, (hcc _ _ hbx').trans cx3, (hcc _ _ hby').trans cy0, (hcc _ _ hby').trans cy1, (hcc _ _ hby').trans cy2, (hcc _ _ hby').trans cy3⟩ | exact ⟨cx0, cx1, cx2, cx3, cy0, cy1, cy2, cy3⟩)
                      (first | (go_at_call 47; refine (sameEnt x0 x1 x2 x3 y0 y1 y2 y3 ex ey wr.drew 0 w.heap.size 0 w.heap.size (by exact VX) (by exact VY) hsz hsz).mono ?_; rintro _ w5 ⟨rfl, hB5⟩; obtain ⟨hcc, hff⟩ := bcell hB5))
                    have hb5 : Below w.heap.size w w5 := HB4.out.trans ⟨hB5.os, hB5.tape, hB5.output, hB5.size, fun i hi => hB5.block i (Nat.lt_of_lt_of_le hi hsz)⟩
                    have HB5 : Hid (Below w.heap.size w w5) := hb5
                    clear hb5 hcc hff hB5 cx0 cx1 cx2 cx3 cy0 cy1 cy2 cy3 VX VY hx0 hx1 hx2 hx3 hy0 hy1 hy2 hy3
                    cases hsm : sameE ex ey with
                    | true =>
                      have HSM : Hid (sameE ex ey = true) := hsm
                      go_wp2
                      go_roundw
                      case rel => exact ⟨j + 1, by omega, by go_num, same_snoc HSAME.out (by rw [HEX.out, HEY.out]; exact HSM.out), HB5.out⟩
                      case measure => simp [intOf]; omega
                    | false =>
                      have HSM : Hid (sameE ex ey = false) := hsm
                      go_wp2
                      go_ret
                      exact ⟨SaysBool.ff (fun M => HLAST.out.bad ⟨by rw [HLX.out]; omega, by rw [HLY.out]; omega⟩ hjl (by rw [HEX.out, HEY.out]; exact HSM.out) (by rw [← HXS.out, ← HYS.out]; exact M a b hab (by omega))), HB5.out⟩
                  · have HSAME : Hid (∀ j', j' < j → sameE (xs.getD j' ent0) (ys.getD j' ent0) = true) := hsame
                    have HLAST : Hid (LastOf xs ys ly last) := hlast'
                    clear hsame hlast'
                    go_wp2
                    go_roundw
                    case rel => exact ⟨b + 1, by omega, by omega, by go_num, HDB.out.step (by rw [HXS.out, HYS.out]; exact HLAST.out.good ⟨by rw [HLX.out]; omega, by rw [HLY.out]; omega, by rw [HLX.out, HLY.out]; omega⟩ (fun j' hj' => HSAME.out j' (by omega))), hb4⟩
                    case measure => simp [intOf]; omega

          · go_wp2
            skip
            go_loopw [8, 9] (fun l i w3 => ∃ k last : Nat, k ≤ lx ∧ i = .int .i64 k ∧ l = .int .i64 last ∧ LastOf xs ys k last ∧ Below w.heap.size w w3) (fun _ i _ => lx - (intOf i).toNat)
            case atStart => exact ⟨0, 0, Nat.zero_le _, rfl, rfl, LastOf.start _ _, hb2⟩
            case round =>
              obtain ⟨k, last, hk, rfl, rfl, hlast, hb3⟩ := hrel
              have hl1 := hlast.1
              by_cases hlt : k < lx
              · obtain ⟨bx, ox, rfl, hbx, hcx⟩ := LX.at (i := k) (by omega)
                obtain ⟨by_, oy, rfl, hby, hcy⟩ := LY.at (i := k) (by omega)
                have EX := (hcx k (by omega))
                have EY := (hcy k (by omega))
                obtain ⟨x0, x1, x2, x3, cx0, _, _, _, xa, xb, xc, xd, xe, xf, rfl, _⟩ := EX
                obtain ⟨y0, y1, y2, y3, cy0, _, _, _, ya, yb, yc, yd, ye, yf, rfl, _⟩ := EY
                have cx := (hb3.cell (p := ⟨bx, ox + k * 4, none⟩) hbx).trans cx0
                have cy := (hb3.cell (p := ⟨by_, oy + k * 4, none⟩) hby).trans cy0
                obtain ⟨tx, htx⟩ : ∃ tx, tx = (xs.getD k ent0).term := ⟨_, rfl⟩
                obtain ⟨ty, hty⟩ : ∃ ty, ty = (ys.getD k ent0).term := ⟨_, rfl⟩
                rw [← htx] at cx
                rw [← hty] at cy
                have HTX : Hid (tx = (xs.getD k ent0).term) := htx
                have HTY : Hid (ty = (ys.getD k ent0).term) := hty
                have HLAST : Hid (LastOf xs ys k last) := hlast
                have gx : (k : Int) < (lx : Int) := by omega
                have gy : (k : Int) < (ly : Int) := by omega
                clear htx hty hlast hcx hcy cx0 cy0 LX LY
                go_wp2
                go_quiet (fail)
                go_wp2
                · have he : (tx == ty) = true := by assumption
                  go_roundw
                  case rel => exact ⟨k + 1, k + 1, by omega, by go_num, by go_num, HLAST.out.hit (by rw [← HTX.out, ← HTY.out]; simpa using he), below_drewN hb3 _⟩
                  case measure => simp [intOf]; omega
                · have he : (tx == ty) = false := by assumption
                  go_roundw
                  case rel => exact ⟨k + 1, last, by omega, by go_num, rfl, HLAST.out.miss (by rw [← HTX.out, ← HTY.out]; simpa using he), below_drewN hb3 _⟩
                  case measure => simp [intOf]; omega
              · have hkm : k = lx := by omega
                have hlast' : LastOf xs ys lx last := hkm ▸ hlast
                clear hlast
                have hnk : ¬ k < lx := hlt
                have HKM : Hid (k = lx) := hkm
                clear hkm hlt
                go_wp2
                go_loopw [10] (fun i w4 => ∃ j : Nat, j ≤ last ∧ i = .int .i64 j ∧ (∀ j', j' < j → sameE (xs.getD j' ent0) (ys.getD j' ent0) = true) ∧ Below w.heap.size w w4) (fun i _ => last - (intOf i).toNat)
                case atStart => exact ⟨0, Nat.zero_le _, rfl, fun j hj => by omega, hb3⟩
                case round =>
                  obtain ⟨j, hj, rfl, hsame, hb4⟩ := hrel
                  by_cases hjl : j < last
                  · obtain ⟨bx, ox, rfl, hbx, hcx⟩ := LX.at (i := j) (by omega)
                    obtain ⟨by_, oy, rfl, hby, hcy⟩ := LY.at (i := j) (by omega)
                    have EX := (hcx j (by omega)).keep (Nat.zero_le _) hbx (.of_below hb4) (Nat.le_refl _) (Nat.le_refl _)
                    have EY := (hcy j (by omega)).keep (Nat.zero_le _) hby (.of_below hb4) (Nat.le_refl _) (Nat.le_refl _)
                    have HB4 : Hid (Below w.heap.size w wr) := hb4
                    have hsz : w.heap.size ≤ wr.heap.size := hb4.size
                    have hbx' : bx < wr.heap.size := by omega
                    have hby' : by_ < wr.heap.size := by omega
                    have HSAME : Hid (∀ j', j' < j → sameE (xs.getD j' ent0) (ys.getD j' ent0) = true) := hsame
                    have HLAST : Hid (LastOf xs ys lx last) := hlast'
                    have gx : (j : Int) < (lx : Int) := by omega
                    have gy : (j : Int) < (ly : Int) := by omega
                    have gj : (0 : Int) ≤ (j : Int) := by omega
                    generalize hex : xs.getD j ent0 = ex at EX
                    generalize hey : ys.getD j ent0 = ey at EY
                    have HEX : Hid (xs.getD j ent0 = ex) := hex
                    have HEY : Hid (ys.getD j ent0 = ey) := hey
                    obtain ⟨x0, x1, x2, x3, cx0, cx1, cx2, cx3, VX⟩ := EX
                    obtain ⟨y0, y1, y2, y3, cy0, cy1, cy2, cy3, VY⟩ := EY
                    have hx : x0.oneCell' = true ∧ x1.oneCell' = true ∧ x2.oneCell' = true ∧ x3.oneCell' = true := by
                      obtain ⟨_, _, _, _, _, _, rfl, rfl, rfl, rfl, _⟩ := VX; exact ⟨rfl, rfl, rfl, rfl⟩
                    have hy : y0.oneCell' = true ∧ y1.oneCell' = true ∧ y2.oneCell' = true ∧ y3.oneCell' = true := by
                      obtain ⟨_, _, _, _, _, _, rfl, rfl, rfl, rfl, _⟩ := VY; exact ⟨rfl, rfl, rfl, rfl⟩
                    obtain ⟨hx0, hx1, hx2, hx3⟩ := hx
                    obtain ⟨hy0, hy1, hy2, hy3⟩ := hy
                    clear hsame hlast' hcx hcy hex hey LX LY hb4
                    go_wp2
                    go_region_held3 (fun w' => w'.cell? ⟨bx, ox + j * 4, none⟩ = some x0 ∧ w'.cell? ⟨bx, ox + j * 4 + 1, none⟩ = some x1 ∧ w'.cell? ⟨bx, ox + j * 4 + 2, none⟩ = some x2 ∧ w'.cell? ⟨bx, ox + j * 4 + 3, none⟩ = some x3 ∧ w'.cell? ⟨by_, oy + j * 4, none⟩ = some y0 ∧ w'.cell? ⟨by_, oy + j * 4 + 1, none⟩ = some y1 ∧ w'.cell? ⟨by_, oy + j * 4 + 2, none⟩ = some y2 ∧ w'.cell? ⟨by_, oy + j * 4 + 3, none⟩ = some y3)
                      (first | exact ⟨(hcc _ _ hbx').trans cx0, (hcc _ _ hbx').trans cx1, (hcc _ _ hbx').trans cx2, (hcc _ _ hbx').trans cx3, (hcc _ _ hby').trans cy0, (hcc _ _ hby').trans cy1, (hcc _ _ hby').trans cy2, (hcc _ _ hby').trans cy3⟩ | exact ⟨cx0, cx1, cx2, cx3, cy0, cy1, cy2, cy3⟩)
                      (first | (go_at_call 47; refine (sameEnt x0 x1 x2 x3 y0 y1 y2 y3 ex ey wr.drew 0 w.heap.size 0 w.heap.size (by exact VX) (by exact VY) hsz hsz).mono ?_; rintro _ w5 ⟨rfl, hB5⟩; obtain ⟨hcc, hff⟩ := bcell hB5))
                    have hb5 : Below w.heap.size w w5 := HB4.out.trans ⟨hB5.os, hB5.tape, hB5.output, hB5.size, fun i hi => hB5.block i (Nat.lt_of_lt_of_le hi hsz)⟩
                    have HB5 : Hid (Below w.heap.size w w5) := hb5
                    clear hb5 hcc hff hB5 cx0 cx1 cx2 cx3 cy0 cy1 cy2 cy3 VX VY hx0 hx1 hx2 hx3 hy0 hy1 hy2 hy3
                    cases hsm : sameE ex ey with
                    | true =>
                      have HSM : Hid (sameE ex ey = true) := hsm
                      go_wp2
                      go_roundw
                      case rel => exact ⟨j + 1, by omega, by go_num, same_snoc HSAME.out (by rw [HEX.out, HEY.out]; exact HSM.out), HB5.out⟩
                      case measure => simp [intOf]; omega
                    | false =>
                      have HSM : Hid (sameE ex ey = false) := hsm
                      go_wp2
                      go_ret
                      exact ⟨SaysBool.ff (fun M => HLAST.out.bad ⟨by rw [HLX.out]; omega, by rw [HLY.out]; omega⟩ hjl (by rw [HEX.out, HEY.out]; exact HSM.out) (by rw [← HXS.out, ← HYS.out]; exact M a b hab (by omega))), HB5.out⟩
                  · have HSAME : Hid (∀ j', j' < j → sameE (xs.getD j' ent0) (ys.getD j' ent0) = true) := hsame
                    have HLAST : Hid (LastOf xs ys lx last) := hlast'
                    clear hsame hlast'
                    go_wp2
                    go_roundw
                    case rel => exact ⟨b + 1, by omega, by omega, by go_num, HDB.out.step (by rw [HXS.out, HYS.out]; exact HLAST.out.good ⟨by rw [HLX.out]; omega, by rw [HLY.out]; omega, by rw [HLX.out, HLY.out]; omega⟩ (fun j' hj' => HSAME.out j' (by omega))), hb4⟩
                    case measure => simp [intOf]; omega

        · have HDB : Hid (DoneB ls a b) := hdB
          clear hdB h
          go_wp2
          go_roundw
          case rel => exact ⟨a + 1, by omega, by go_num, HDA.out.step HDB.out (by omega), hb2⟩
          case measure => simp [intOf]; omega
    · have HDA : Hid (DoneA ls a) := hdA
      clear hdA h
      go_wp2
      go_ret
      exact ⟨SaysBool.tt (HDA.out.all (by omega)), hb1⟩

end Go.Proofs.Qxb6604092a
