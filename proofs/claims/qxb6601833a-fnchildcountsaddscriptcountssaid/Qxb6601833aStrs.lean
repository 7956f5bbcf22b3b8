import Derived.Test.Qxb6601833aProg
import Derived.WalkKit
import Derived.WalkSpells
import Derived.WalkLawsBesides
import Derived.Lib.SliceRun
namespace Go.Proofs.Qxb6601833a
open Go.RowKit

theorem ret_true {b : Bool} (h : b = true) : Ending.returned (.bool b) = .returned (.bool true) := by rw [h]

/-- A slice of strings that came in: it is nil; or its elements st 0, .. lie at an address. -/
def IsStrs (w : World) (a : Option Addr) (len cap : Nat) (st : Nat → ByteArray) : Prop :=
  (a = none ∧ len = 0 ∧ cap = 0) ∨
  ∃ x, a = some x ∧ len ≤ cap ∧ cap ≤ maxLen ∧ ∀ i, i < len → w.cell? (x.add i) = some (.string (st i)) ∧ (st i).size ≤ maxLen
/-- n strings at block b from place off on. -/
def Sts (w : World) (b off n : Nat) (st : Nat → ByteArray) : Prop := ∀ k, k < n → w.cell? ⟨b, off + k, none⟩ = some (.string (st k))

theorem IsStrs.plain {w : World} {a : Option Addr} {len cap : Nat} {st : Nat → ByteArray} (h : IsStrs w a len cap st) (hl : 0 < len) :
    ∃ b off, a = some ⟨b, off, none⟩ ∧ (∀ w', Below w.heap.size w w' → Sts w' b off len st) ∧ ∀ k, k < len → (st k).size ≤ 9223372036854775807 := by
  rcases h with ⟨_, h0, _⟩ | ⟨⟨b, off, spot⟩, rfl, hlc, hm, hc⟩
  · omega
  · have h1 := (hc 0 hl).1
    have hs : spot = none := by simpa [Addr.add] using World.cell?_spot h1
    subst hs
    refine ⟨b, off, rfl, fun w' hb k hk => ?_, fun k hk => (hc k hk).2⟩
    have h2 := (hc k hk).1
    rw [← Go.WideShapes.add_plain, hb.cell (World.block_lt_of_cell? _ _ h2), h2]

/-- It returns a bool, and nothing has turned. -/
def SomeBool (w : World) (e : Ending) (w' : World) : Prop := ∃ b : Bool, e = .returned (.bool b) ∧ w' = w

set_option maxHeartbeats 1000000 in
theorem zz6_any (a0 a1 : Option Addr) (l0 l1 c0 c1 : Nat) (s0 s1 : Nat → ByteArray) (w : World) (r0 : IsStrs w a0 l0 c0 s0) (r1 : IsStrs w a1 l1 c1 s1) :
    Calls Try.prog 6 #[.slice a0 l0 c0, .slice a1 l1 c1] w (SomeBool w) := by
  by_cases h0 : 1048576 < l0
  · go_enter Try.func6, Try.ntmps6
    go_wp2
    go_ret
    exact ⟨_, rfl, rfl⟩
  · go_enter Try.func6, Try.ntmps6
    go_wp2
    go_loop [5, 6] (fun t u => ∃ (m : Int) (k : Nat), t = .int .i64 m ∧ u = .int .i64 k ∧ 0 ≤ m ∧ m ≤ 1048576 ∧ k ≤ l0) (fun _ u => l0 - (intOf u).toNat)
    case atStart => exact ⟨_, 0, rfl, rfl, by omega, by omega, by omega⟩
    case round =>
      obtain ⟨m, k, rfl, rfl, hm0, hm1, hk⟩ := hrel
      by_cases hlt : k < l0
      · obtain ⟨b, off, rfl, hs, hz⟩ := r0.plain (by omega)
        have hc := hs w (Below.refl _ _) k hlt
        have hsz := hz k hlt
        clear hs hz
        by_cases hb : 1048576 < (s0 k).size
        · go_wp2
          go_ret
          exact ⟨_, rfl, rfl⟩
        · by_cases hb2 : 1048576 < m + (s0 k).size
          · go_wp2
            go_ret
            exact ⟨_, rfl, rfl⟩
          · go_wp2
            go_round
            case rel => exact ⟨_, k + 1, rfl, by go_num, by omega, by omega, by omega⟩
            case measure => simp [intOf]; omega
      · by_cases h1 : 1048576 < l1
        · go_wp2
          go_ret
          exact ⟨_, rfl, rfl⟩
        · by_cases h2 : 1048576 < m + l1
          · go_wp2
            go_ret
            exact ⟨_, rfl, rfl⟩
          · go_wp2
            go_loop [5, 7] (fun t u => ∃ (m : Int) (k : Nat), t = .int .i64 m ∧ u = .int .i64 k ∧ 0 ≤ m ∧ m ≤ 1048576 ∧ k ≤ l1) (fun _ u => l1 - (intOf u).toNat)
            case atStart => exact ⟨_, 0, rfl, rfl, by omega, by omega, by omega⟩
            case round =>
              obtain ⟨m, k, rfl, rfl, hm0, hm1, hk⟩ := hrel
              by_cases hlt : k < l1
              · obtain ⟨b, off, rfl, hs, hz⟩ := r1.plain (by omega)
                have hc := hs w (Below.refl _ _) k hlt
                have hsz := hz k hlt
                clear hs hz
                by_cases hb : 1048576 < (s1 k).size
                · go_wp2
                  go_ret
                  exact ⟨_, rfl, rfl⟩
                · by_cases hb2 : 1048576 < m + (s1 k).size
                  · go_wp2
                    go_ret
                    exact ⟨_, rfl, rfl⟩
                  · go_wp2
                    go_round
                    case rel => exact ⟨_, k + 1, rfl, by go_num, by omega, by omega, by omega⟩
                    case measure => simp [intOf]; omega
              · go_wp2
                go_ret
                exact ⟨_, rfl, rfl⟩

end Go.Proofs.Qxb6601833a
