import Derived.Test.Qxb6600660aNumWalk
import Derived.Test.Qxb6600660aText
import Derived.Test.Qxb6600660aOwn
namespace Go.Proofs.Qxb6600660a
open Go.RowKit

/-- 'ZZnumber' hands on to 'number'. -/
theorem zznumber_any (b off n cap i : Nat) (I : Int) (hI : I = (i : Int)) (f : Nat → Int) (w : World) (hB : Bts w b off n f) (hn : n ≤ 2000000) (hi : i < n) :
    Calls Try.prog 15 #[.slice (some ⟨b, off, none⟩) n cap, .int .i64 I] w fun e w' => e = .returned (.int .i64 (numF f n i)) ∧ w' = w := by
  subst hI
  go_enter Try.func15, Try.ntmps15
  go_wp2_with (go_at_call 25; refine (number_any b off n cap i f _ hB hn hi).mono ?_; rintro e w' ⟨rfl, rfl⟩)
  go_ret
  exact ⟨rfl, rfl⟩

set_option maxHeartbeats 1000000 in
theorem zz17_no (a0 a2 a3 a4 a7 : Option Addr) (l0 l2 l3 l4 l7 c0 c2 c3 c4 c7 : Nat) (a1 : Bool) (a5 a6 : Int) (w : World) (h : 1048576 < l0 + l2 + l3 + l4 + l7) :
    Calls Try.prog 17 #[.slice a0 l0 c0, .bool a1, .slice a2 l2 c2, .slice a3 l3 c3, .slice a4 l4 c4, .int .u8 a5, .int .u8 a6, .slice a7 l7 c7] w fun e w' => e = .returned (.bool false) ∧ w' = w := by
  go_enter Try.func17, Try.ntmps17
  go_wp2
  all_goals
    go_ret
    exact ⟨rfl, rfl⟩
set_option maxHeartbeats 1000000 in
theorem zz17_yes (a0 a2 a3 a4 a7 : Option Addr) (l0 l2 l3 l4 l7 c0 c2 c3 c4 c7 : Nat) (a1 : Bool) (a5 a6 : Int) (w : World) (h : l0 + l2 + l3 + l4 + l7 ≤ 1048576) :
    Calls Try.prog 17 #[.slice a0 l0 c0, .bool a1, .slice a2 l2 c2, .slice a3 l3 c3, .slice a4 l4 c4, .int .u8 a5, .int .u8 a6, .slice a7 l7 c7] w fun e w' => e = .returned (.bool true) ∧ w' = w := by
  go_enter Try.func17, Try.ntmps17
  go_wp2
  go_ret
  exact ⟨rfl, rfl⟩

set_option maxRecDepth 10000 in
theorem walk6_long (a0 a2 a3 a4 a7 : Option Addr) (l0 l2 l3 l4 l7 c0 c2 c3 c4 c7 : Nat) (a1 : Bool) (a5 a6 : Int) (w : World) (h : 1048576 < l0 + l2 + l3 + l4 + l7) :
    Calls Try.prog 6 #[.slice a0 l0 c0, .bool a1, .slice a2 l2 c2, .slice a3 l3 c3, .slice a4 l4 c4, .int .u8 a5, .int .u8 a6, .slice a7 l7 c7] w fun e w' => e = .returned (.bool true) ∧ Below w.heap.size w w' := by
  go_enter Try.func6, Try.ntmps6
  go_wp2_with (go_at_call 17; refine (zz17_no _ _ _ _ _ _ _ _ _ _ _ _ _ _ _ _ _ _ _ h).mono ?_; rintro e w' ⟨rfl, rfl⟩)
  go_ret
  exact ⟨rfl, Below.refl _ _⟩

end Go.Proofs.Qxb6600660a
