import Derived.Test.Qxb6600660aCopy
import Derived.Test.Qxb6600660aNumProps
import Derived.Test.Qxb6600660aWrit
namespace Go.Proofs.Qxb6600660a
open Go.RowKit

theorem alone_neg {f : Nat → Int} {n i : Nat} (h : i ≤ n) (e : numF f n i = -1) : numF (sh f i) (n - i) 0 = -1 := by
  have h1 := numF_sh f i (n - i) 0
  rw [show n - i + i = n by omega, show 0 + i = i by omega, e] at h1
  rcases numF_cut (sh f i) (n - i) 0 with h2 | ⟨r, h2, _⟩
  · exact h2
  · rw [h2, shI_nat] at h1; omega
theorem alone_pos {f : Nat → Int} {n i r : Nat} (h : i ≤ n) (e : numF f n i = r) : numF (sh f i) (n - i) 0 = (r : Int) - i := by
  have h1 := numF_sh f i (n - i) 0
  rw [show n - i + i = n by omega, show 0 + i = i by omega, e] at h1
  rcases numF_cut (sh f i) (n - i) 0 with h2 | ⟨r', h2, _⟩
  · rw [h2] at h1; unfold shI at h1; simp at h1
  · rw [h2, shI_nat] at h1; rw [h2]; omega
theorem Bts.drop {w : World} {b off n i : Nat} {f : Nat → Int} (h : Bts w b off n f) (hi : i ≤ n) : Bts w b (off + i) (n - i) (sh f i) := by
  intro k hk
  have := h (k + i) (by omega)
  rw [show off + i + k = off + (k + i) by omega]
  exact this
theorem Bts.take {w : World} {b off n m : Nat} {f : Nat → Int} (h : Bts w b off n f) (hi : m ≤ n) : Bts w b off m f := fun k hk => h k (by omega)

theorem walk7_long (a0 : Option Addr) (n cap : Nat) (i : Int) (w : World) (h : 1048576 < n) :
    Calls Try.prog 7 #[.slice a0 n cap, .int .i64 i] w fun e w' => e = .returned (.bool true) ∧ Below w.heap.size w w' := by
  go_enter Try.func7, Try.ntmps7
  go_wp2
  go_ret
  exact ⟨rfl, Below.refl _ _⟩
theorem walk7_neg (a0 : Option Addr) (n cap : Nat) (i : Int) (w : World) (h : n ≤ 1048576) (hi : i < 0) :
    Calls Try.prog 7 #[.slice a0 n cap, .int .i64 i] w fun e w' => e = .returned (.bool true) ∧ Below w.heap.size w w' := by
  go_enter Try.func7, Try.ntmps7
  go_wp2
  go_ret
  exact ⟨rfl, Below.refl _ _⟩
theorem walk7_far (a0 : Option Addr) (n cap : Nat) (i : Int) (w : World) (h : n ≤ 1048576) (hi : (n : Int) ≤ i) :
    Calls Try.prog 7 #[.slice a0 n cap, .int .i64 i] w fun e w' => e = .returned (.bool true) ∧ Below w.heap.size w w' := by
  have hi0 : ¬ i < 0 := by omega
  go_enter Try.func7, Try.ntmps7
  go_wp2
  go_ret
  exact ⟨rfl, Below.refl _ _⟩

set_option maxHeartbeats 1000000 in
set_option maxRecDepth 10000 in
theorem walk7 (a0 : Option Addr) (n cap i : Nat) (z : List Int) (w : World) (r0 : IsRow .u8 w a0 n cap z) (h : n ≤ 1048576) (hi : i < n) :
    Calls Try.prog 7 #[.slice a0 n cap, .int .i64 (i : Int)] w fun e w' => e = .returned (.bool true) ∧ Below w.heap.size w w' := by
  obtain ⟨b, off, rfl, hb⟩ := r0.plain (by omega)
  have hq := neq_nil
  go_enter Try.func7, Try.ntmps7
  go_upto_region 11 with (first | (at_make; refine wpl_makefull (w0 := w) (B := w.heap.size) rfl _ _ rfl n _ _ rfl rfl rfl rfl (by omega) (Below.refl _ _) (Nat.le_refl _) ?_; intro w1 H1) | (have _t := H1; refine wpl_copy rfl (.tmp 28) (.tmp 29) rfl H1 rfl _ _ rfl z r0 ?_; clear H1; intro w2 H2) | go_in)
  obtain ⟨f, hf⟩ : ∃ f, f = bt (z.take n) := ⟨_, rfl⟩
  have hB := H2.bts
  rw [← hf] at hB
  have hbel := H2.bel
  clear hf H2 hb r0 hq
  have hne : ¬ n = i := by omega
  have hB2 := hB.drop (i := i) (by omega)
  rw [Nat.zero_add] at hB2
  rcases numF_cut f n i with hN | ⟨r, hN, hr1, hr2, hr3, hr4, hr5⟩
  · have HA := alone_neg (Nat.le_of_lt hi) hN
    have c1 := zznumber_any w.heap.size 0 n n i i rfl f w2 hB (by omega) hi
    have c2 := zznumber_any w.heap.size i (n - i) (n - i) 0 0 rfl (sh f i) w2 hB2 (by omega) (by omega)
    rw [hN] at c1
    rw [HA] at c2
    have C1 : Hid _ := c1
    have C2 : Hid _ := c2
    clear c1 c2 hN HA
    go_wp2_with fail
    refine Calls.mono C1.out ?_
    rintro e w' ⟨rfl, hw⟩
    replace hw := hw.symm
    subst hw
    go_wp2_with fail
    refine Calls.mono C2.out ?_
    rintro e w' ⟨rfl, hw⟩
    replace hw := hw.symm
    subst hw
    go_wp2_with fail
    go_ret
    exact ⟨rfl, hbel⟩
  · have HA := alone_pos (Nat.le_of_lt hi) hN
    have c1 := zznumber_any w.heap.size 0 n n i i rfl f w2 hB (by omega) hi
    have c2 := zznumber_any w.heap.size i (n - i) (n - i) 0 0 rfl (sh f i) w2 hB2 (by omega) (by omega)
    have c3 := zznumber_any w.heap.size 0 r n i i rfl f w2 (hB.take hr2) (by omega) hr1
    rw [hN] at c1
    rw [HA] at c2
    rw [hr3] at c3
    have C1 : Hid _ := c1
    have C2 : Hid _ := c2
    have C3 : Hid _ := c3
    obtain ⟨hc, _, _⟩ := hB (r - 1) (by omega)
    rw [Nat.zero_add] at hc
    clear c1 c2 c3 hN HA hr3
    go_wp2_with fail
    refine Calls.mono C1.out ?_
    rintro e w' ⟨rfl, hw⟩
    replace hw := hw.symm
    subst hw
    go_wp2_with fail
    refine Calls.mono C2.out ?_
    rintro e w' ⟨rfl, hw⟩
    replace hw := hw.symm
    subst hw
    go_wp2_with fail
    refine Calls.mono C3.out ?_
    rintro e w' ⟨rfl, hw⟩
    replace hw := hw.symm
    subst hw
    go_wp2_with fail
    go_ret
    exact ⟨ret_true (by simp), hbel⟩

theorem walk7_all (a0 : Option Addr) (len0 cap0 : Nat) (z0 : List Int) (a1 : Int) (w : World) (w0 : IsRow .u8 w a0 len0 cap0 z0) (w1 : (Lit.int .i64 a1).wf = true) :
    Calls Try.prog 7 #[.slice a0 len0 cap0, .int .i64 a1] w fun e w' => e = .returned (.bool true) ∧ Below w.heap.size w w' := by
  by_cases h : len0 ≤ 1048576
  · by_cases h1 : a1 < 0
    · exact walk7_neg a0 len0 cap0 a1 w h h1
    · by_cases h2 : (len0 : Int) ≤ a1
      · exact walk7_far a0 len0 cap0 a1 w h h2
      · obtain ⟨i, rfl⟩ : ∃ i : Nat, a1 = (i : Int) := ⟨a1.toNat, by omega⟩
        exact walk7 a0 len0 cap0 i z0 w w0 h (by omega)
  · exact walk7_long a0 len0 cap0 a1 w (by omega)

end Go.Proofs.Qxb6600660a
