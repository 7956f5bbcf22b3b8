import Derived.Test.Qxb6600660aHex
import Derived.Test.Qxb6600660aCopy
import Derived.Deep.DeepCutAuto
namespace Go.Proofs.Qxb6600660a
open Go.RowKit

theorem tab_lo : ∀ D : Fin 16, hexd (({ data := #[48, 49, 50, 51, 52, 53, 54, 55, 56, 57, 97, 98, 99, 100, 101, 102] } : ByteArray)[D.1]'D.2).toNat = (D.1 : Int) := by decide +kernel
theorem tab_up : ∀ D : Fin 16, hexd (({ data := #[48, 49, 50, 51, 52, 53, 54, 55, 56, 57, 65, 66, 67, 68, 69, 70] } : ByteArray)[D.1]'D.2).toNat = (D.1 : Int) := by decide +kernel
/-- No entry of the two tables below place k is b. -/
def NoHit (b : Int) (k : Nat) : Prop := ∀ D : Fin 16, D.1 < k →
  ((({ data := #[48, 49, 50, 51, 52, 53, 54, 55, 56, 57, 97, 98, 99, 100, 101, 102] } : ByteArray)[D.1]'D.2).toNat : Int) ≠ b ∧
  ((({ data := #[48, 49, 50, 51, 52, 53, 54, 55, 56, 57, 65, 66, 67, 68, 69, 70] } : ByteArray)[D.1]'D.2).toNat : Int) ≠ b
theorem tab_all : ∀ b : Fin 256, hexd (b.1 : Int) = -1 ∨ ∃ D : Fin 16,
    ((({ data := #[48, 49, 50, 51, 52, 53, 54, 55, 56, 57, 97, 98, 99, 100, 101, 102] } : ByteArray)[D.1]'D.2).toNat : Int) = (b.1 : Int) ∨
    ((({ data := #[48, 49, 50, 51, 52, 53, 54, 55, 56, 57, 65, 66, 67, 68, 69, 70] } : ByteArray)[D.1]'D.2).toNat : Int) = (b.1 : Int) := by decide +kernel
theorem NoHit.whole {b : Int} (h0 : 0 ≤ b) (h1 : b ≤ 255) (h : NoHit b 16) : hexd b = -1 := by
  obtain ⟨B, rfl⟩ := Int.eq_ofNat_of_zero_le h0
  rcases tab_all ⟨B, by omega⟩ with e | ⟨D, e⟩
  · exact e
  · have := h D D.2
    rcases e with e | e
    · exact absurd e this.1
    · exact absurd e this.2
theorem NoHit.next {b : Int} {k : Nat} (h : NoHit b k) (hk : k < 16)
    (h1 : ((({ data := #[48, 49, 50, 51, 52, 53, 54, 55, 56, 57, 97, 98, 99, 100, 101, 102] } : ByteArray)[k]'hk).toNat : Int) ≠ b)
    (h2 : ((({ data := #[48, 49, 50, 51, 52, 53, 54, 55, 56, 57, 65, 66, 67, 68, 69, 70] } : ByteArray)[k]'hk).toNat : Int) ≠ b) : NoHit b (k + 1) := by
  intro D hD
  by_cases e : D.1 < k
  · exact h D e
  · obtain ⟨D, hD2⟩ := D
    obtain rfl : D = k := by simp at e hD; omega
    exact ⟨h1, h2⟩

set_option maxHeartbeats 400000 in
theorem hexdig_any (b : Int) (w : World) (h0 : 0 ≤ b) (h1 : b ≤ 255) :
    Calls Try.prog 24 #[.int .u8 b] w fun e w' => e = .returned (.int .i32 (hexd b)) ∧ w' = w := by
  go_enter Try.func24, Try.ntmps24
  go_wp2
  go_loop [3] (fun t => ∃ k : Nat, k ≤ 16 ∧ t = .int .i64 k ∧ NoHit b k) (fun t => 16 - (intOf t).toNat)
  case atStart => exact ⟨0, by omega, rfl, fun D hD => absurd hD (Nat.not_lt_zero _)⟩
  case round =>
    obtain ⟨k, hk, rfl, hno⟩ := hrel
    by_cases hlt : k < 16
    · have HL : Hid _ := tab_lo ⟨k, hlt⟩
      have HU : Hid _ := tab_up ⟨k, hlt⟩
      by_cases e1 : ((({ data := #[48, 49, 50, 51, 52, 53, 54, 55, 56, 57, 97, 98, 99, 100, 101, 102] } : ByteArray)[k]'hlt).toNat : Int) = b
      · have HE : Hid (hexd b = (k : Int)) := by rw [← e1]; exact HL.out
        have t1 : (((({ data := #[48, 49, 50, 51, 52, 53, 54, 55, 56, 57, 97, 98, 99, 100, 101, 102] } : ByteArray)[k]'hlt).toNat : Int) == b) = true := by rw [e1]; simp
        clear e1 HL HU
        go_wp2
        all_goals
          go_ret
          exact ⟨ret_int HE.out.symm, rfl⟩
      · have t1 : (((({ data := #[48, 49, 50, 51, 52, 53, 54, 55, 56, 57, 97, 98, 99, 100, 101, 102] } : ByteArray)[k]'hlt).toNat : Int) == b) = false := by simpa using e1
        by_cases e2 : ((({ data := #[48, 49, 50, 51, 52, 53, 54, 55, 56, 57, 65, 66, 67, 68, 69, 70] } : ByteArray)[k]'hlt).toNat : Int) = b
        · have HE : Hid (hexd b = (k : Int)) := by rw [← e2]; exact HU.out
          have t2 : (((({ data := #[48, 49, 50, 51, 52, 53, 54, 55, 56, 57, 65, 66, 67, 68, 69, 70] } : ByteArray)[k]'hlt).toNat : Int) == b) = true := by rw [e2]; simp
          clear e1 e2 HL HU
          go_wp2
          all_goals
            go_ret
            exact ⟨ret_int HE.out.symm, rfl⟩
        · have t2 : (((({ data := #[48, 49, 50, 51, 52, 53, 54, 55, 56, 57, 65, 66, 67, 68, 69, 70] } : ByteArray)[k]'hlt).toNat : Int) == b) = false := by simpa using e2
          have HN : Hid (NoHit b (k + 1)) := hno.next hlt e1 e2
          clear e1 e2 HL HU
          go_wp2
          go_round
          case rel => exact ⟨k + 1, by omega, by go_num, HN.out⟩
          case measure => simp [intOf]; omega
    · obtain rfl : k = 16 := by omega
      have HE : Hid (hexd b = -1) := hno.whole h0 h1
      clear hno
      go_wp2
      go_ret
      exact ⟨ret_int HE.out.symm, rfl⟩

set_option maxHeartbeats 400000 in
theorem hexModel_any (b off n cap : Nat) (f : Nat → Int) (w : World) (hB : Bts w b off n f) (hn : n ≤ 2000000) (h4 : 4 ≤ n) :
    Calls Try.prog 12 #[.slice (some ⟨b, off, none⟩) n cap] w fun e w' => e = .returned (.int .i32 (hexR f 4 0 0)) ∧ w' = w := by
  go_enter Try.func12, Try.ntmps12
  go_wp2
  go_loop [3, 4] (fun r t => ∃ (k : Nat) (x : Int), k ≤ 4 ∧ t = .int .i64 k ∧ r = .int .i32 x ∧ HexRel f k x) (fun _ t => 4 - (intOf t).toNat)
  case atStart => exact ⟨0, 0, by omega, rfl, rfl, by omega, by omega, rfl⟩
  case round =>
    obtain ⟨k, x, hk, rfl, rfl, H⟩ := hrel
    by_cases hlt : k < 4
    · obtain ⟨hc, h0, h255⟩ := hB k (by omega)
      have hx0 := H.1
      have hx1 := bnd_lt hlt H.2.1
      have hh := hexd_hi (f k)
      by_cases hb : hexd (f k) < 0
      · have HB : Hid (hexR f 4 0 0 = -1) := by
          refine H.2.2.symm.trans ?_
          obtain ⟨m, hm⟩ : ∃ m, 4 - k = m + 1 := ⟨3 - k, by omega⟩
          rw [hm, hexR, if_pos hb]
        clear H
        go_wp2_with (go_at_call 24; refine (hexdig_any (f k) _ h0 h255).mono ?_; rintro e w' ⟨rfl, rfl⟩)
        go_ret
        exact ⟨ret_int HB.out.symm, rfl⟩
      · have HN : Hid (HexRel f (k + 1) (x * 16 + hexd (f k))) := H.next hlt rfl (by omega)
        clear H
        go_wp2_with (go_at_call 24; refine (hexdig_any (f k) _ h0 h255).mono ?_; rintro e w' ⟨rfl, rfl⟩)
        go_round
        case rel => exact ⟨k + 1, _, by omega, by go_num, rfl, HN.out⟩
        case measure => simp [intOf]; omega
    · obtain rfl : k = 4 := by omega
      have HE : Hid (x = hexR f 4 0 0) := H.2.2
      clear H
      go_wp2
      go_ret
      exact ⟨ret_int HE.out, rfl⟩
theorem hexModel_short (a : Option Addr) (n cap : Nat) (w : World) (h4 : n < 4) :
    Calls Try.prog 12 #[.slice a n cap] w fun e w' => e = .returned (.int .i32 (-1)) ∧ w' = w := by
  go_enter Try.func12, Try.ntmps12
  go_wp2
  go_ret
  exact ⟨rfl, rfl⟩

theorem walk3_long (a0 : Option Addr) (n cap : Nat) (w : World) (h : 1048576 < n) :
    Calls Try.prog 3 #[.slice a0 n cap] w fun e w' => e = .returned (.bool true) ∧ Below w.heap.size w w' := by
  go_enter Try.func3, Try.ntmps3
  go_wp2
  go_ret
  exact ⟨rfl, Below.refl _ _⟩
theorem walk3_nil (w : World) :
    Calls Try.prog 3 #[.slice none 0 0] w fun e w' => e = .returned (.bool true) ∧ Below w.heap.size w w' := by
  have hq := neq_nil
  go_enter Try.func3, Try.ntmps3
  go_wp2_with (first | (go_at_call 11; refine (zzhex4_short _ _ _ _ (by omega)).mono ?_; rintro e w' ⟨rfl, hw⟩; replace hw := hw.symm; subst hw) | (go_at_call 12; refine (hexModel_short _ _ _ _ (by omega)).mono ?_; rintro e w' ⟨rfl, hw⟩; replace hw := hw.symm; subst hw) | go_in)
  go_ret
  exact ⟨rfl, Below.refl _ _⟩
set_option maxHeartbeats 400000 in
theorem walk3 (x : Addr) (n cap : Nat) (z : List Int) (w : World) (r0 : IsRow .u8 w (some x) n cap z) (h : n ≤ 1048576) :
    Calls Try.prog 3 #[.slice (some x) n cap] w fun e w' => e = .returned (.bool true) ∧ Below w.heap.size w w' := by
  have hq := neq_nil
  by_cases h4 : n < 4
  · go_enter Try.func3, Try.ntmps3
    go_upto_region 9 with (first | (at_make; refine wpl_makefull (w0 := w) (B := w.heap.size) rfl _ _ rfl n _ _ rfl rfl rfl rfl (by omega) (Below.refl _ _) (Nat.le_refl _) ?_; intro w1 H1) | (have _t := H1; refine wpl_copy rfl (.tmp 15) (.tmp 16) rfl H1 rfl _ _ rfl z r0 ?_; clear H1; intro w2 H2) | go_in)
    have hbel := H2.bel
    clear H2
    go_wp2_with (first | (go_at_call 11; refine (zzhex4_short _ _ _ _ h4).mono ?_; rintro e w' ⟨rfl, hw⟩; replace hw := hw.symm; subst hw) | (go_at_call 12; refine (hexModel_short _ _ _ _ h4).mono ?_; rintro e w' ⟨rfl, hw⟩; replace hw := hw.symm; subst hw))
    go_ret
    exact ⟨rfl, hbel⟩
  · go_enter Try.func3, Try.ntmps3
    go_upto_region 9 with (first | (at_make; refine wpl_makefull (w0 := w) (B := w.heap.size) rfl _ _ rfl n _ _ rfl rfl rfl rfl (by omega) (Below.refl _ _) (Nat.le_refl _) ?_; intro w1 H1) | (have _t := H1; refine wpl_copy rfl (.tmp 15) (.tmp 16) rfl H1 rfl _ _ rfl z r0 ?_; clear H1; intro w2 H2) | go_in)
    have hB := H2.bts
    have hbel := H2.bel
    clear H2
    go_wp2_with (first | (go_at_call 11; refine (zzhex4_any _ _ _ _ _ _ hB (by omega) (Nat.le_refl _) (by omega)).mono ?_; rintro e w' ⟨rfl, hw⟩; replace hw := hw.symm; subst hw) | (go_at_call 12; refine (hexModel_any _ _ _ _ _ _ hB (by omega) (by omega)).mono ?_; rintro e w' ⟨rfl, hw⟩; replace hw := hw.symm; subst hw))
    go_ret
    exact ⟨ret_true (by simp), hbel⟩

theorem walk3_all (a0 : Option Addr) (len0 cap0 : Nat) (z0 : List Int) (w : World) (w0 : IsRow .u8 w a0 len0 cap0 z0) :
    Calls Try.prog 3 #[.slice a0 len0 cap0] w fun e w' => e = .returned (.bool true) ∧ Below w.heap.size w w' := by
  by_cases h : len0 ≤ 1048576
  · have w0' := w0
    rcases w0 with ⟨rfl, rfl, rfl, rfl⟩ | ⟨x, rfl, _⟩
    · exact walk3_nil w
    · exact walk3 x len0 cap0 z0 w w0' h
  · exact walk3_long a0 len0 cap0 w (by omega)

end Go.Proofs.Qxb6600660a
