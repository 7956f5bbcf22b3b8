import Derived.Test.Qxb6600660aAutoWalk
namespace Go.Proofs.Qxb6600660a
open Go.RowKit

theorem walk5_long (a0 : Option Addr) (n cap : Nat) (i : Int) (w : World) (h : 1048576 < n) :
    Calls Try.prog 5 #[.slice a0 n cap, .int .i64 i] w fun e w' => e = .returned (.bool true) ∧ Below w.heap.size w w' := by
  go_enter Try.func5, Try.ntmps5
  go_wp2
  go_ret
  exact ⟨rfl, Below.refl _ _⟩
theorem walk5_neg (a0 : Option Addr) (n cap : Nat) (i : Int) (w : World) (h : n ≤ 1048576) (hi : i < 0) :
    Calls Try.prog 5 #[.slice a0 n cap, .int .i64 i] w fun e w' => e = .returned (.bool true) ∧ Below w.heap.size w w' := by
  go_enter Try.func5, Try.ntmps5
  go_wp2
  go_ret
  exact ⟨rfl, Below.refl _ _⟩
theorem walk5_far (a0 : Option Addr) (n cap : Nat) (i : Int) (w : World) (h : n ≤ 1048576) (hi : (n : Int) ≤ i) :
    Calls Try.prog 5 #[.slice a0 n cap, .int .i64 i] w fun e w' => e = .returned (.bool true) ∧ Below w.heap.size w w' := by
  have hi0 : ¬ i < 0 := by omega
  go_enter Try.func5, Try.ntmps5
  go_wp2
  go_ret
  exact ⟨rfl, Below.refl _ _⟩

set_option maxHeartbeats 1000000 in
set_option maxRecDepth 10000 in
theorem walk5 (a0 : Option Addr) (n cap i : Nat) (z : List Int) (w : World) (r0 : IsRow .u8 w a0 n cap z) (h : n ≤ 1048576) (hi : i < n) :
    Calls Try.prog 5 #[.slice a0 n cap, .int .i64 (i : Int)] w fun e w' => e = .returned (.bool true) ∧ Below w.heap.size w w' := by
  obtain ⟨b, off, rfl, hb⟩ := r0.plain (by omega)
  have hq := neq_nil
  go_enter Try.func5, Try.ntmps5
  go_upto_region 11 with (first | (at_make; refine wpl_makefull (w0 := w) (B := w.heap.size) rfl _ _ rfl n _ _ rfl rfl rfl rfl (by omega) (Below.refl _ _) (Nat.le_refl _) ?_; intro w1 H1) | (have _t := H1; refine wpl_copy rfl (.tmp 26) (.tmp 27) rfl H1 rfl _ _ rfl z r0 ?_; clear H1; intro w2 H2) | go_in)
  obtain ⟨f, hf⟩ : ∃ f, f = bt (z.take n) := ⟨_, rfl⟩
  have hB := H2.bts
  rw [← hf] at hB
  have hbel := H2.bel
  clear hf H2 hb r0 hq
  have c2 := model_any w.heap.size 0 n n i f w2 hB (by omega) hi
  rw [aut0 hi] at c2
  have C1 : Hid _ := zznumber_any w.heap.size 0 n n i i rfl f w2 hB (by omega) hi
  have C2 : Hid _ := c2
  clear c2
  go_wp2_with (first | (go_at_call 15; refine Calls.mono C1.out ?_; rintro e w' ⟨rfl, hw⟩; replace hw := hw.symm; subst hw) | (go_at_call 16; refine Calls.mono C2.out ?_; rintro e w' ⟨rfl, hw⟩; replace hw := hw.symm; subst hw))
  go_ret
  exact ⟨ret_true (by simp), hbel⟩

theorem walk5_all (a0 : Option Addr) (len0 cap0 : Nat) (z0 : List Int) (a1 : Int) (w : World) (w0 : IsRow .u8 w a0 len0 cap0 z0) (w1 : (Lit.int .i64 a1).wf = true) :
    Calls Try.prog 5 #[.slice a0 len0 cap0, .int .i64 a1] w fun e w' => e = .returned (.bool true) ∧ Below w.heap.size w w' := by
  by_cases h : len0 ≤ 1048576
  · by_cases h1 : a1 < 0
    · exact walk5_neg a0 len0 cap0 a1 w h h1
    · by_cases h2 : (len0 : Int) ≤ a1
      · exact walk5_far a0 len0 cap0 a1 w h h2
      · obtain ⟨i, rfl⟩ : ∃ i : Nat, a1 = (i : Int) := ⟨a1.toNat, by omega⟩
        exact walk5 a0 len0 cap0 i z0 w w0 h (by omega)
  · exact walk5_long a0 len0 cap0 a1 w (by omega)

end Go.Proofs.Qxb6600660a
