import Derived.Test.Qxb6600660aOwn
import Derived.Test.Qxb6600660aHex
namespace Go.Proofs.Qxb6600660a
open Go.RowKit

theorem wraps_u16 (n : Int) (h₀ : 0 ≤ n) (h₁ : n < 2 ^ 16) : IntKind.u16.wrap n = n := by rw [IntKind.wrap_u16]; omega
theorem and15 {x : Int} (h0 : 0 ≤ x) (h1 : x ≤ 65535) : ∃ D : Nat, D < 16 ∧ (D : Int) = x % 16 ∧ bits BinOp.and IntKind.u16 x 15 = (D : Int) := by
  refine ⟨(x % 16).toNat, by omega, by omega, ?_⟩
  have := bits_mask .u16 16 (by decide) wraps_u16 4 (by decide) x h0 (by omega)
  simp at this
  omega
theorem up_ok : ∀ D : Fin 16, hexd (({ data := #[48, 49, 50, 51, 52, 53, 54, 55, 56, 57, 65, 66, 67, 68, 69, 70] } : ByteArray)[D.1]'D.2).toNat = (D.1 : Int) := by decide +kernel
theorem lo_ok : ∀ D : Fin 16, hexd (({ data := #[48, 49, 50, 51, 52, 53, 54, 55, 56, 57, 97, 98, 99, 100, 101, 102] } : ByteArray)[D.1]'D.2).toNat = (D.1 : Int) := by decide +kernel
theorem u8_le (c : UInt8) : 0 ≤ (c.toNat : Int) ∧ (c.toNat : Int) ≤ 255 := by have := c.toNat_lt; omega

/-- The first digits of a, as far as they are written. -/
def dgt (a : Int) : Nat → Int
  | 0 => a / 4096 % 16
  | 1 => a / 256 % 16
  | 2 => a / 16 % 16
  | _ => a % 16
def DigsOk (a : Int) (k : Nat) (xs : List Int) : Prop := xs.length = k ∧ ∀ j, j < k → hexd (xs.getD j 0) = dgt a j
theorem DigsOk.next {a : Int} {k : Nat} {xs : List Int} {y : Int} (h : DigsOk a k xs) (hy : hexd y = dgt a k) : DigsOk a (k + 1) (xs ++ [y]) := by
  obtain ⟨hl, hd⟩ := h
  refine ⟨by simp [hl], fun j hj => ?_⟩
  by_cases hjk : j < k
  · rw [List.getD_eq_getElem?_getD, List.getElem?_append_left (by omega), ← List.getD_eq_getElem?_getD]; exact hd j hjk
  · obtain rfl : j = k := by omega
    rw [List.getD_eq_getElem?_getD, List.getElem?_append_right (by omega)]
    simpa [hl] using hy
theorem hex_back {a : Int} {xs ys : List Int} (h0 : 0 ≤ a) (h1 : a ≤ 65535) (h : DigsOk a 4 xs) : hexR (bt (xs ++ ys)) 4 0 0 = a := by
  obtain ⟨hl, hd⟩ := h
  have hg : ∀ j, j < 4 → hexd (bt (xs ++ ys) j) = dgt a j := fun j hj => by
    unfold bt
    rw [List.getD_eq_getElem?_getD, List.getElem?_append_left (by omega), ← List.getD_eq_getElem?_getD]; exact hd j hj
  have e0 := hg 0 (by omega)
  have e1 := hg 1 (by omega)
  have e2 := hg 2 (by omega)
  have e3 := hg 3 (by omega)
  simp only [dgt] at e0 e1 e2 e3
  simp only [hexR, Nat.zero_add, Nat.reduceAdd, e0, e1, e2, e3]
  rw [if_neg (by omega), if_neg (by omega), if_neg (by omega), if_neg (by omega)]
  omega

set_option maxHeartbeats 1000000 in
theorem walk4 (a0 : Int) (a1 : Int) (a2 : Option Addr) (len2 cap2 : Nat) (z2 : List Int) (w : World) (w0 : (Lit.int .u16 a0).wf = true) (w1 : (Lit.int .u8 a1).wf = true) (w2 : IsRow .u8 w a2 len2 cap2 z2) (hlen : len2 ≤ 1048576) :
    Calls Try.prog 4 #[.int .u16 a0, .int .u8 a1, .slice a2 len2 cap2] w fun e w' => e = .returned (.bool true) ∧ Below w.heap.size w w' := by
  have hv := bounds_u16 w0
  have hm := bounds_u8 w1
  obtain ⟨v0, v1⟩ := hv
  obtain ⟨m0, m1⟩ := hm
  clear w0 w1
  go_enter Try.func4, Try.ntmps4
  go_wp2_with (first | (at_make; refine wpl_make0 (w0 := w) (B := w.heap.size) rfl _ _ rfl rfl _ rfl (4 + len2) (by omega) (by omega) (Below.refl _ _) (Nat.le_refl _) ?_; intro w1 H) | go_in)
  go_loopw [7, 8] (fun v i wr => ∃ (k g cap : Nat) (xs : List Int), k ≤ 4 ∧ i = .int .i64 k ∧ v = .slice (some ⟨g, 0, none⟩) k cap ∧ Own w w.heap.size wr g k cap xs ∧ DigsOk a0 k xs) (fun _ i _ => 4 - (intOf i).toNat)
  case atStart => exact ⟨0, _, _, _, by omega, rfl, rfl, H, rfl, by omega⟩
  case round =>
    clear H
    obtain ⟨k, g, cap, xs, hk, rfl, rfl, H, HD⟩ := hrel
    by_cases hlt : k < 4
    · have hk4 : k = 0 ∨ k = 1 ∨ k = 2 ∨ k = 3 := by omega
      rcases hk4 with rfl | rfl | rfl | rfl
      · obtain ⟨D, hD, hDe, e0⟩ := and15 (x := a0 / 4096) (by omega) (by omega)
        have HU : Hid _ := up_ok ⟨D, hD⟩
        have HL : Hid _ := lo_ok ⟨D, hD⟩
        have HE : Hid ((D : Int) = dgt a0 0) := hDe
        clear hDe
        by_cases hu : (bits BinOp.and IntKind.u8 (a1) 1 == 1) = true
        · go_wp2_with (at_builtin; refine wpl_app1 rfl _ _ rfl H rfl _ rfl (u8_le _).1 (u8_le _).2 (by omega) ?_; intro g' cap' w' H')
          go_roundw
          case rel => exact ⟨1, g', cap', _, by omega, rfl, rfl, H', HD.next (HU.out.trans HE.out)⟩
          case measure => simp [intOf]
        · have hu' : (bits BinOp.and IntKind.u8 (a1) 1 == 1) = false := by simpa using hu
          clear hu
          go_wp2_with (at_builtin; refine wpl_app1 rfl _ _ rfl H rfl _ rfl (u8_le _).1 (u8_le _).2 (by omega) ?_; intro g' cap' w' H')
          go_roundw
          case rel => exact ⟨1, g', cap', _, by omega, rfl, rfl, H', HD.next (HL.out.trans HE.out)⟩
          case measure => simp [intOf]
      · obtain ⟨D, hD, hDe, e0⟩ := and15 (x := a0 / 256) (by omega) (by omega)
        have HU : Hid _ := up_ok ⟨D, hD⟩
        have HL : Hid _ := lo_ok ⟨D, hD⟩
        have HE : Hid ((D : Int) = dgt a0 1) := hDe
        clear hDe
        by_cases hu : (bits BinOp.and IntKind.u8 (a1 / 2) 1 == 1) = true
        · go_wp2_with (at_builtin; refine wpl_app1 rfl _ _ rfl H rfl _ rfl (u8_le _).1 (u8_le _).2 (by omega) ?_; intro g' cap' w' H')
          go_roundw
          case rel => exact ⟨2, g', cap', _, by omega, rfl, rfl, H', HD.next (HU.out.trans HE.out)⟩
          case measure => simp [intOf]
        · have hu' : (bits BinOp.and IntKind.u8 (a1 / 2) 1 == 1) = false := by simpa using hu
          clear hu
          go_wp2_with (at_builtin; refine wpl_app1 rfl _ _ rfl H rfl _ rfl (u8_le _).1 (u8_le _).2 (by omega) ?_; intro g' cap' w' H')
          go_roundw
          case rel => exact ⟨2, g', cap', _, by omega, rfl, rfl, H', HD.next (HL.out.trans HE.out)⟩
          case measure => simp [intOf]
      · obtain ⟨D, hD, hDe, e0⟩ := and15 (x := a0 / 16) (by omega) (by omega)
        have HU : Hid _ := up_ok ⟨D, hD⟩
        have HL : Hid _ := lo_ok ⟨D, hD⟩
        have HE : Hid ((D : Int) = dgt a0 2) := hDe
        clear hDe
        by_cases hu : (bits BinOp.and IntKind.u8 (a1 / 4) 1 == 1) = true
        · go_wp2_with (at_builtin; refine wpl_app1 rfl _ _ rfl H rfl _ rfl (u8_le _).1 (u8_le _).2 (by omega) ?_; intro g' cap' w' H')
          go_roundw
          case rel => exact ⟨3, g', cap', _, by omega, rfl, rfl, H', HD.next (HU.out.trans HE.out)⟩
          case measure => simp [intOf]
        · have hu' : (bits BinOp.and IntKind.u8 (a1 / 4) 1 == 1) = false := by simpa using hu
          clear hu
          go_wp2_with (at_builtin; refine wpl_app1 rfl _ _ rfl H rfl _ rfl (u8_le _).1 (u8_le _).2 (by omega) ?_; intro g' cap' w' H')
          go_roundw
          case rel => exact ⟨3, g', cap', _, by omega, rfl, rfl, H', HD.next (HL.out.trans HE.out)⟩
          case measure => simp [intOf]
      · obtain ⟨D, hD, hDe, e0⟩ := and15 (x := a0) (by omega) (by omega)
        have HU : Hid _ := up_ok ⟨D, hD⟩
        have HL : Hid _ := lo_ok ⟨D, hD⟩
        have HE : Hid ((D : Int) = dgt a0 3) := hDe
        clear hDe
        by_cases hu : (bits BinOp.and IntKind.u8 (a1 / 8) 1 == 1) = true
        · go_wp2_with (at_builtin; refine wpl_app1 rfl _ _ rfl H rfl _ rfl (u8_le _).1 (u8_le _).2 (by omega) ?_; intro g' cap' w' H')
          go_roundw
          case rel => exact ⟨4, g', cap', _, by omega, rfl, rfl, H', HD.next (HU.out.trans HE.out)⟩
          case measure => simp [intOf]
        · have hu' : (bits BinOp.and IntKind.u8 (a1 / 8) 1 == 1) = false := by simpa using hu
          clear hu
          go_wp2_with (at_builtin; refine wpl_app1 rfl _ _ rfl H rfl _ rfl (u8_le _).1 (u8_le _).2 (by omega) ?_; intro g' cap' w' H')
          go_roundw
          case rel => exact ⟨4, g', cap', _, by omega, rfl, rfl, H', HD.next (HL.out.trans HE.out)⟩
          case measure => simp [intOf]
    · obtain rfl : k = 4 := by omega
      have HB : Hid _ := hex_back (ys := z2.take len2) v0 v1 HD
      go_wp2_with (first | (at_builtin; refine wpl_app_in rfl _ _ rfl H rfl a2 len2 cap2 rfl z2 w2 (by omega) ?_; intro g' cap' w' H') | (go_at_call 11; refine (zzhex4_any _ _ _ _ _ _ H'.bts (by omega) H'.cap_ge (by omega)).mono ?_; rintro e w'' ⟨rfl, rfl⟩))
      go_ret
      exact ⟨ret_true (by simp [HB.out]), H'.bel⟩

theorem walk4_long (a0 : Int) (a1 : Int) (a2 : Option Addr) (len2 cap2 : Nat) (w : World) (hlen : 1048576 < len2) :
    Calls Try.prog 4 #[.int .u16 a0, .int .u8 a1, .slice a2 len2 cap2] w fun e w' => e = .returned (.bool true) ∧ Below w.heap.size w w' := by
  go_enter Try.func4, Try.ntmps4
  go_wp2
  go_ret
  exact ⟨rfl, Below.refl _ _⟩

theorem walk4_all (a0 : Int) (a1 : Int) (a2 : Option Addr) (len2 cap2 : Nat) (z2 : List Int) (w : World) (w0 : (Lit.int .u16 a0).wf = true) (w1 : (Lit.int .u8 a1).wf = true) (w2 : IsRow .u8 w a2 len2 cap2 z2) :
    Calls Try.prog 4 #[.int .u16 a0, .int .u8 a1, .slice a2 len2 cap2] w fun e w' => e = .returned (.bool true) ∧ Below w.heap.size w w' := by
  by_cases h : len2 ≤ 1048576
  · exact walk4 a0 a1 a2 len2 cap2 z2 w w0 w1 w2 h
  · exact walk4_long a0 a1 a2 len2 cap2 w (by omega)

end Go.Proofs.Qxb6600660a
