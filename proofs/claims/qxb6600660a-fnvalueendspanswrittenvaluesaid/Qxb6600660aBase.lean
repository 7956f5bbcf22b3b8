import Derived.Test.Qxb6600660aProg
import Derived.WalkKit
import Derived.WalkSpells
import Derived.WalkLawsBesides
namespace Go.Proofs.Qxb6600660a
open Go.RowKit

/-- The cells from 'off' on in block b hold the bytes f 0, .., f (n-1). -/
def Bts (w : World) (b off n : Nat) (f : Nat → Int) : Prop :=
  ∀ k, k < n → w.cell? ⟨b, off + k, none⟩ = some (.int .u8 (f k)) ∧ 0 ≤ f k ∧ f k ≤ 255

/-- The bytes of a list, by place. -/
def bt (xs : List Int) (k : Nat) : Int := xs.getD k 0

/-- Go's 'digits' with fuel: the first index from i on that is no digit. -/
def dig (f : Nat → Int) : Nat → Nat → Nat
  | 0, i => i
  | m + 1, i => if 48 ≤ f i ∧ f i ≤ 57 then dig f m (i + 1) else i
def digE (f : Nat → Int) (n i : Nat) : Nat := dig f (n - i) i

theorem digE_stop {f : Nat → Int} {n i : Nat} (h : n ≤ i) : digE f n i = i := by
  unfold digE; rw [show n - i = 0 by omega]; rfl
theorem digE_no {f : Nat → Int} {n i : Nat} (h : ¬ (48 ≤ f i ∧ f i ≤ 57)) : digE f n i = i := by
  unfold digE
  cases hm : n - i with
  | zero => rfl
  | succ m => rw [dig, if_neg h]
theorem digE_yes {f : Nat → Int} {n i : Nat} (hi : i < n) (h : 48 ≤ f i ∧ f i ≤ 57) : digE f n i = digE f n (i + 1) := by
  unfold digE
  obtain ⟨m, hm⟩ : ∃ m, n - i = m + 1 := ⟨n - i - 1, by omega⟩
  rw [hm, dig, if_pos h, show n - (i + 1) = m by omega]

theorem ret_true {b : Bool} (h : b = true) : Ending.returned (.bool b) = .returned (.bool true) := by rw [h]
theorem ret_int {k : IntKind} {a b : Int} (h : a = b) : Ending.returned (.int k a) = .returned (.int k b) := by rw [h]

set_option maxHeartbeats 400000 in
theorem digits_any (b off n cap i : Nat) (f : Nat → Int) (w : World) (hB : Bts w b off n f) (hn : n ≤ 2000000) (hi : i ≤ n) :
    Calls Try.prog 31 #[.slice (some ⟨b, off, none⟩) n cap, .int .i64 (i : Int)] w fun e w' => e = .returned (.int .i64 (digE f n i : Nat)) ∧ w' = w := by
  go_enter Try.func31, Try.ntmps31
  go_wp2
  go_loop [1] (fun t => ∃ k : Nat, k ≤ n ∧ t = .int .i64 k ∧ Hid (digE f n k = digE f n i)) (fun t => n - (intOf t).toNat)
  case atStart => exact ⟨i, hi, rfl, rfl⟩
  case round =>
    obtain ⟨k, hk, rfl, hd⟩ := hrel
    by_cases hlt : k < n
    · obtain ⟨hc, h0, h255⟩ := hB k hlt
      by_cases h1 : 48 ≤ f k
      · by_cases h2 : f k ≤ 57
        · go_wp2
          go_round
          case rel => exact ⟨k + 1, by omega, by go_num, (digE_yes hlt ⟨h1, h2⟩).symm.trans hd⟩
          case measure => simp [intOf]; omega
        · go_wp2
          go_ret
          exact ⟨ret_int (by rw [← hd.out, digE_no (by omega)]), rfl⟩
      · go_wp2
        go_ret
        exact ⟨ret_int (by rw [← hd.out, digE_no (by omega)]), rfl⟩
    · go_wp2
      go_ret
      exact ⟨ret_int (by rw [← hd.out, digE_stop (by omega)]), rfl⟩

end Go.Proofs.Qxb6600660a
