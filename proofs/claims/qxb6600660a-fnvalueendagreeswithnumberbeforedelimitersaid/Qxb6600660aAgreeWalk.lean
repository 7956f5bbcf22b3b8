import Derived.Test.Qxb6600660aAgree
import Derived.Test.Qxb6600660aValWalk
import Derived.Test.Qxb6600660aWrit
import Derived.Test.Qxb6600660aCopy
namespace Go.Proofs.Qxb6600660a
open Go.RowKit

theorem zzvalueEnd (b off n cap i : Nat) (r : Int) (w : World) (h : Calls Try.prog 30 #[.slice (some ⟨b, off, none⟩) n cap, .int .i64 (i : Int)] w fun e w' => e = .returned (.int .i64 r) ∧ w' = w) :
    Calls Try.prog 21 #[.slice (some ⟨b, off, none⟩) n cap, .int .i64 (i : Int)] w fun e w' => e = .returned (.int .i64 r) ∧ w' = w := by
  have H : Hid _ := h
  clear h
  go_enter Try.func21, Try.ntmps21
  go_wp2_with (go_at_call 30; refine Calls.mono H.out ?_; rintro e w' ⟨rfl, rfl⟩)
  go_ret
  exact ⟨rfl, rfl⟩

theorem walk9_long (a0 : Option Addr) (n cap : Nat) (i : Int) (w : World) (h : 1048576 < n) :
    Calls Try.prog 9 #[.slice a0 n cap, .int .i64 i] w fun e w' => e = .returned (.bool true) ∧ Below w.heap.size w w' := by
  go_enter Try.func9, Try.ntmps9
  go_wp2
  go_ret
  exact ⟨rfl, Below.refl _ _⟩
theorem walk9_neg (a0 : Option Addr) (n cap : Nat) (i : Int) (w : World) (h : n ≤ 1048576) (hi : i < 0) :
    Calls Try.prog 9 #[.slice a0 n cap, .int .i64 i] w fun e w' => e = .returned (.bool true) ∧ Below w.heap.size w w' := by
  go_enter Try.func9, Try.ntmps9
  go_wp2
  go_ret
  exact ⟨rfl, Below.refl _ _⟩
theorem walk9_far (a0 : Option Addr) (n cap : Nat) (i : Int) (w : World) (h : n ≤ 1048576) (hi : (n : Int) ≤ i) :
    Calls Try.prog 9 #[.slice a0 n cap, .int .i64 i] w fun e w' => e = .returned (.bool true) ∧ Below w.heap.size w w' := by
  have hi0 : ¬ i < 0 := by omega
  go_enter Try.func9, Try.ntmps9
  go_wp2
  go_ret
  exact ⟨rfl, Below.refl _ _⟩

set_option maxHeartbeats 2000000 in
set_option maxRecDepth 10000 in
theorem walk9 (a0 : Option Addr) (n cap i : Nat) (z : List Int) (w : World) (r0 : IsRow .u8 w a0 n cap z) (h : n ≤ 1048576) (hi : i < n) :
    Calls Try.prog 9 #[.slice a0 n cap, .int .i64 (i : Int)] w fun e w' => e = .returned (.bool true) ∧ Below w.heap.size w w' := by
  obtain ⟨b, off, rfl, hb⟩ := r0.plain (by omega)
  have hq := neq_nil
  go_enter Try.func9, Try.ntmps9
  go_upto_region 11 with (first | (at_make; refine wpl_makefull (w0 := w) (B := w.heap.size) rfl _ _ rfl n _ _ rfl rfl rfl rfl (by omega) (Below.refl _ _) (Nat.le_refl _) ?_; intro w1 H1) | (have _t := H1; refine wpl_copy rfl (.tmp 27) (.tmp 28) rfl H1 rfl _ _ rfl z r0 ?_; clear H1; intro w2 H2) | go_in)
  obtain ⟨f, hf⟩ : ∃ f, f = bt (z.take n) := ⟨_, rfl⟩
  have hB := H2.bts
  rw [← hf] at hB
  have hbel := H2.bel
  clear hf H2 hb r0 hq
  have c1 := zznumber_any w.heap.size 0 n n i i rfl f w2 hB (by omega) hi
  rcases numF_cut f n i with hN | ⟨r, hN, hr1, hr2, _, _, _⟩
  · rw [hN] at c1
    have C1 : Hid _ := c1
    clear c1 hN
    go_wp2_with (go_at_call 15; refine Calls.mono C1.out ?_; rintro e w' ⟨rfl, hw⟩; replace hw := hw.symm; subst hw)
    go_ret
    exact ⟨rfl, hbel⟩
  · rw [hN] at c1
    have C1 : Hid _ := c1
    have HN : Hid _ := hN
    clear c1 hN
    by_cases hrn : r < n
    · obtain ⟨hc, h0, h255⟩ := hB r hrn
      rw [Nat.zero_add] at hc
      by_cases c : f r = 44 ∨ f r = 125 ∨ f r = 93
      · have ha := agree hr1 HN.out hr2 (fun _ => c)
        have C2 : Hid _ := zzvalueEnd _ _ _ _ _ _ w2 (valueEnd_lit w.heap.size 0 n n i f w2 hB (by omega) hi ha.2.1 ha.2.2.1 ha.2.2.2)
        rw [ha.1] at C2
        have t : (f r != 44) = false ∨ ((f r != 44) = true ∧ (f r != 125) = false) ∨ ((f r != 44) = true ∧ (f r != 125) = true ∧ (f r != 93) = false) := by
          rcases c with c | c | c <;> simp [c]
        clear c ha HN
        rcases t with t1 | ⟨t1, t2⟩ | ⟨t1, t2, t3⟩
        all_goals
          go_wp2_with (first | (go_at_call 15; refine Calls.mono C1.out ?_; rintro e w' ⟨rfl, hw⟩; replace hw := hw.symm; subst hw) | (go_at_call 21; refine Calls.mono C2.out ?_; rintro e w' ⟨rfl, hw⟩; replace hw := hw.symm; subst hw))
          go_ret
          exact ⟨ret_true (by simp), hbel⟩
      · have t1 : (f r != 44) = true := by simp; omega
        have t2 : (f r != 125) = true := by simp; omega
        have t3 : (f r != 93) = true := by simp; omega
        clear c HN
        go_wp2_with (go_at_call 15; refine Calls.mono C1.out ?_; rintro e w' ⟨rfl, hw⟩; replace hw := hw.symm; subst hw)
        go_ret
        exact ⟨rfl, hbel⟩
    · have ha := agree hr1 HN.out hr2 (fun hh => absurd hh hrn)
      have C2 : Hid _ := zzvalueEnd _ _ _ _ _ _ w2 (valueEnd_lit w.heap.size 0 n n i f w2 hB (by omega) hi ha.2.1 ha.2.2.1 ha.2.2.2)
      rw [ha.1] at C2
      clear ha HN
      go_wp2_with (first | (go_at_call 15; refine Calls.mono C1.out ?_; rintro e w' ⟨rfl, hw⟩; replace hw := hw.symm; subst hw) | (go_at_call 21; refine Calls.mono C2.out ?_; rintro e w' ⟨rfl, hw⟩; replace hw := hw.symm; subst hw))
      go_ret
      exact ⟨ret_true (by simp), hbel⟩

theorem walk9_all (a0 : Option Addr) (len0 cap0 : Nat) (z0 : List Int) (a1 : Int) (w : World) (w0 : IsRow .u8 w a0 len0 cap0 z0) (w1 : (Lit.int .i64 a1).wf = true) :
    Calls Try.prog 9 #[.slice a0 len0 cap0, .int .i64 a1] w fun e w' => e = .returned (.bool true) ∧ Below w.heap.size w w' := by
  by_cases h : len0 ≤ 1048576
  · by_cases h1 : a1 < 0
    · exact walk9_neg a0 len0 cap0 a1 w h h1
    · by_cases h2 : (len0 : Int) ≤ a1
      · exact walk9_far a0 len0 cap0 a1 w h h2
      · obtain ⟨i, rfl⟩ : ∃ i : Nat, a1 = (i : Int) := ⟨a1.toNat, by omega⟩
        exact walk9 a0 len0 cap0 i z0 w w0 h (by omega)
  · exact walk9_long a0 len0 cap0 a1 w (by omega)

end Go.Proofs.Qxb6600660a
