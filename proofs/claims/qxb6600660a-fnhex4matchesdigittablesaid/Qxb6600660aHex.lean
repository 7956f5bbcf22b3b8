import Derived.Test.Qxb6600660aBase
namespace Go.Proofs.Qxb6600660a
open Go.RowKit

/-- The value of one hexadecimal digit; -1 where it is none. -/
def hexd (x : Int) : Int :=
  if 48 ≤ x ∧ x ≤ 57 then x - 48 else if 97 ≤ x ∧ x ≤ 102 then x - 87 else if 65 ≤ x ∧ x ≤ 70 then x - 55 else -1
/-- m digits more from place k on, r read so far. -/
def hexR (f : Nat → Int) : Nat → Nat → Int → Int
  | 0, _, r => r
  | m + 1, k, r => if hexd (f k) < 0 then -1 else hexR f m (k + 1) (r * 16 + hexd (f k))
theorem hexd_hi (x : Int) : hexd x ≤ 15 := by unfold hexd; split <;> (try split) <;> (try split) <;> omega
theorem hexd_a {x : Int} (h1 : 48 ≤ x) (h2 : x ≤ 57) : hexd x = x - 48 := by unfold hexd; rw [if_pos ⟨h1, h2⟩]
theorem hexd_b {x : Int} (h1 : 97 ≤ x) (h2 : x ≤ 102) : hexd x = x - 87 := by unfold hexd; rw [if_neg (by omega), if_pos ⟨h1, h2⟩]
theorem hexd_c {x : Int} (h1 : 65 ≤ x) (h2 : x ≤ 70) : hexd x = x - 55 := by unfold hexd; rw [if_neg (by omega), if_neg (by omega), if_pos ⟨h1, h2⟩]
theorem hexd_n {x : Int} (h1 : ¬ (48 ≤ x ∧ x ≤ 57)) (h2 : ¬ (97 ≤ x ∧ x ≤ 102)) (h3 : ¬ (65 ≤ x ∧ x ≤ 70)) : hexd x = -1 := by
  unfold hexd; rw [if_neg h1, if_neg h2, if_neg h3]
theorem bnd_lt {k : Nat} {r : Int} (hk : k < 4) (h : r < 16 ^ k) : r < 4096 := by
  have : k = 0 ∨ k = 1 ∨ k = 2 ∨ k = 3 := by omega
  rcases this with rfl | rfl | rfl | rfl <;> simp at h <;> omega
theorem bnd_next {k : Nat} {r h : Int} (hr : r < 16 ^ k) (hh : h ≤ 15) : r * 16 + h < 16 ^ (k + 1) := by
  rw [Int.pow_succ]; omega
theorem or_join {r h : Int} (h0 : 0 ≤ r) (h1 : r < 4096) (h2 : 0 ≤ h) (h3 : h ≤ 15) : bits .or .i32 (r * 16) h = r * 16 + h :=
  bits_join .i32 31 (by decide) wraps_i32 4 (r * 16) h (by omega) (by omega) (by omega) h2 (by omega) (by omega)
theorem hexR_next {f : Nat → Int} {k : Nat} {r h : Int} (hk : k < 4) (e : hexd (f k) = h) (h0 : 0 ≤ h) :
    hexR f (4 - (k + 1)) (k + 1) (r * 16 + h) = hexR f (4 - k) k r := by
  obtain ⟨m, hm⟩ : ∃ m, 4 - k = m + 1 := ⟨3 - k, by omega⟩
  rw [hm, hexR, if_neg (by omega), e, show 4 - (k + 1) = m by omega]
theorem hexR_bad {f : Nat → Int} {k : Nat} {r : Int} (hk : k < 4) (e : hexd (f k) = -1) : hexR f (4 - k) k r = -1 := by
  obtain ⟨m, hm⟩ : ∃ m, 4 - k = m + 1 := ⟨3 - k, by omega⟩
  rw [hm, hexR, if_pos (by omega)]

def HexRel (f : Nat → Int) (k : Nat) (r : Int) : Prop := 0 ≤ r ∧ r < 16 ^ k ∧ hexR f (4 - k) k r = hexR f 4 0 0
theorem HexRel.next {f : Nat → Int} {k : Nat} {r h : Int} (H : HexRel f k r) (hk : k < 4) (e : hexd (f k) = h) (h0 : 0 ≤ h) : HexRel f (k + 1) (r * 16 + h) := by
  have hh := hexd_hi (f k)
  have hx := H.1
  exact ⟨by omega, bnd_next H.2.1 (by omega), (hexR_next hk e h0).trans H.2.2⟩

theorem hex_step {f : Nat → Int} {k : Nat} {r h : Int} (H : HexRel f k r) (hk : k < 4) (e : hexd (f k) = h) (h0 : 0 ≤ h) :
    HexRel f (k + 1) (bits .or .i32 (r * 16) h) := by
  have hh := hexd_hi (f k)
  rw [or_join H.1 (bnd_lt hk H.2.1) h0 (by omega)]
  exact H.next hk e h0

set_option maxHeartbeats 400000 in
theorem hex4_any (b off n cap : Nat) (f : Nat → Int) (w : World) (hB : Bts w b off n f) (hn : n ≤ 2000000) (hcap : n ≤ cap) (h4 : 4 ≤ n) :
    Calls Try.prog 23 #[.slice (some ⟨b, off, none⟩) n cap] w fun e w' => e = .returned (.int .i32 (hexR f 4 0 0)) ∧ w' = w := by
  go_enter Try.func23, Try.ntmps23
  go_wp2
  go_loop [3, 12] (fun r t => ∃ (k : Nat) (x : Int), k ≤ 4 ∧ t = .int .i64 k ∧ r = .int .i32 x ∧ HexRel f k x) (fun _ t => 4 - (intOf t).toNat)
  case atStart => exact ⟨0, 0, by omega, rfl, rfl, by omega, by omega, rfl⟩
  case round =>
    obtain ⟨k, x, hk, rfl, rfl, H⟩ := hrel
    by_cases hlt : k < 4
    · obtain ⟨hc, h0, h255⟩ := hB k (by omega)
      have hx0 := H.1
      have hx1 := bnd_lt hlt H.2.1
      by_cases ha : 48 ≤ f k ∧ f k ≤ 57
      · obtain ⟨a1, a2⟩ := ha
        go_wp2
        go_round
        case rel => exact ⟨k + 1, _, by omega, by go_num, rfl, hex_step H hlt (hexd_a a1 a2) (by omega)⟩
        case measure => simp [intOf]; omega
      · by_cases hb : 97 ≤ f k ∧ f k ≤ 102
        · obtain ⟨a1, a2⟩ := hb
          go_wp2
          go_round
          case rel => exact ⟨k + 1, _, by omega, by go_num, rfl, hex_step H hlt (hexd_b a1 a2) (by omega)⟩
          case measure => simp [intOf]; omega
        · by_cases hc : 65 ≤ f k ∧ f k ≤ 70
          · obtain ⟨a1, a2⟩ := hc
            go_wp2
            go_round
            case rel => exact ⟨k + 1, _, by omega, by go_num, rfl, hex_step H hlt (hexd_c a1 a2) (by omega)⟩
            case measure => simp [intOf]; omega
          · have hbad := hexR_bad (r := x) hlt (hexd_n ha hb hc)
            have HB : Hid (hexR f 4 0 0 = -1) := H.2.2.symm.trans hbad
            clear hbad H
            go_wp2
            all_goals
              go_ret
              exact ⟨ret_int HB.out.symm, rfl⟩
    · have hk4 : k = 4 := by omega
      subst hk4
      have HE : Hid (x = hexR f 4 0 0) := H.2.2
      clear H
      go_wp2
      go_ret
      exact ⟨ret_int HE.out, rfl⟩

theorem hex4_short (a : Option Addr) (n cap : Nat) (w : World) (h4 : n < 4) :
    Calls Try.prog 23 #[.slice a n cap] w fun e w' => e = .returned (.int .i32 (-1)) ∧ w' = w := by
  go_enter Try.func23, Try.ntmps23
  go_wp2
  go_ret
  exact ⟨rfl, rfl⟩

/-- 'ZZhex4' hands on to 'hex4'. -/
theorem zzhex4_any (b off n cap : Nat) (f : Nat → Int) (w : World) (hB : Bts w b off n f) (hn : n ≤ 2000000) (hcap : n ≤ cap) (h4 : 4 ≤ n) :
    Calls Try.prog 11 #[.slice (some ⟨b, off, none⟩) n cap] w fun e w' => e = .returned (.int .i32 (hexR f 4 0 0)) ∧ w' = w := by
  go_enter Try.func11, Try.ntmps11
  go_wp2_with (go_at_call 23; refine (hex4_any b off n cap f _ hB hn hcap h4).mono ?_; rintro e w' ⟨rfl, rfl⟩)
  go_ret
  exact ⟨rfl, rfl⟩
theorem zzhex4_short (a : Option Addr) (n cap : Nat) (w : World) (h4 : n < 4) :
    Calls Try.prog 11 #[.slice a n cap] w fun e w' => e = .returned (.int .i32 (-1)) ∧ w' = w := by
  go_enter Try.func11, Try.ntmps11
  go_wp2_with (go_at_call 23; refine (hex4_short a n cap _ h4).mono ?_; rintro e w' ⟨rfl, rfl⟩)
  go_ret
  exact ⟨rfl, rfl⟩

end Go.Proofs.Qxb6600660a
