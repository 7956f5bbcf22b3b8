import Derived.Test.Qxb6600660aAuto
import Derived.Test.Qxb6600660aWrit
import Derived.Test.Qxb6600660aCopy
import Derived.Deep.Light
namespace Go.Proofs.Qxb6600660a
open Go.RowKit

set_option maxHeartbeats 2000000 in
theorem step_any (s : Nat) (b : Int) (w : World) (hs : s ≤ 8) (h0 : 0 ≤ b) (h1 : b ≤ 255) :
    Calls Try.prog 26 #[.int .i64 (s : Int), .int .u8 b] w fun e w' => e = .returned (.int .i64 (stepF s b)) ∧ w' = w := by
  have h9 : s = 0 ∨ s = 1 ∨ s = 2 ∨ s = 3 ∨ s = 4 ∨ s = 5 ∨ s = 6 ∨ s = 7 ∨ s = 8 := by omega
  rcases h9 with rfl | rfl | rfl | rfl | rfl | rfl | rfl | rfl | rfl
  all_goals
    go_enter Try.func26, Try.ntmps26
    go_wp2
    all_goals
      go_ret
      refine ⟨ret_int ?_, rfl⟩
      go_light
      try simp only [beq_iff_eq, beq_eq_false_iff_ne, ne_eq] at *
      simp only [stepF]
      repeat' split
      all_goals first | omega | (exfalso; simp_all)

def isAcc (s : Nat) : Bool := decide (s = 2 ∨ s = 3 ∨ s = 5 ∨ s = 8)

set_option maxHeartbeats 2000000 in
set_option maxRecDepth 10000 in
theorem model_any (b off n cap i : Nat) (f : Nat → Int) (w : World) (hB : Bts w b off n f) (hn : n ≤ 2000000) (hi : i < n) :
    Calls Try.prog 16 #[.slice (some ⟨b, off, none⟩) n cap, .int .i64 (i : Int)] w fun e w' => e = .returned (.int .i64 (autM f n 0 i)) ∧ w' = w := by
  go_enter Try.func16, Try.ntmps16
  go_upto_block 0 with fail
  go_cut [5, 6] (fun u v wx => ∃ s j : Nat, u = .int .i64 s ∧ v = .int .i64 j ∧ s ≤ 8 ∧ Hid (autM f n 0 i = finF s j) ∧ wx = w)
  case first => as_aux_lemma =>
    go_wp2_with fail
    go_loopg [5, 6] (n - i) (fun k u v wx => ∃ s j : Nat, u = .int .i64 s ∧ v = .int .i64 j ∧ s ≤ 8 ∧ j + k = n ∧ Hid (autM f n s j = autM f n 0 i) ∧ wx = w)
    case atStart => exact ⟨0, i, rfl, rfl, by omega, by omega, rfl, rfl⟩
    case round =>
      obtain ⟨s, j, rfl, rfl, hs, hj, hd, rfl⟩ := hrel
      by_cases hlt : j < n
      · obtain ⟨hc, h0, h255⟩ := hB j hlt
        have hle := stepF_le s (f j)
        by_cases hb : stepF s (f j) < 0
        · have HE : Hid (autM f n 0 i = finF s j) := hd.out.symm.trans (aut_no hb)
          have HJ : Hid (j + gk = n) := hj
          clear hj
          go_wp2_with (go_at_call 26; refine (step_any s (f j) _ hs h0 h255).mono ?_; rintro e w' ⟨rfl, rfl⟩)
          go_meet
          case rel => exact ⟨s, j, rfl, rfl, hs, HE, rfl⟩
        · obtain ⟨t, ht⟩ : ∃ t : Nat, stepF s (f j) = (t : Int) := ⟨(stepF s (f j)).toNat, by omega⟩
          have HE : Hid (autM f n t (j + 1) = autM f n 0 i) := (aut_step hlt ht).symm.trans hd.out
          have HJ : Hid (j + gk = n) := hj
          have ht8 : t ≤ 8 := by omega
          have C := step_any s (f j) wr hs h0 h255
          rw [ht] at C
          have HC : Hid _ := C
          clear hj C ht hb hle
          go_wp2_with (go_at_call 26; refine Calls.mono HC.out ?_; rintro e w' ⟨rfl, rfl⟩)
          have hj := HJ.out
          go_roundg (gk - 1)
          case measure => omega
          case rel => exact ⟨t, j + 1, rfl, by go_num, ht8, by omega, HE, rfl⟩
      · have HE : Hid (autM f n 0 i = finF s j) := hd.out.symm.trans (aut_end (by omega))
        have HJ : Hid (j + gk = n) := hj
        clear hj
        go_wp2_with fail
        go_meet
        case rel => exact ⟨s, j, rfl, rfl, hs, HE, rfl⟩
  case rest => as_aux_lemma =>
    obtain ⟨s, j, rfl, rfl, hs, hE, rfl⟩ := hcut
    have h9 : s = 0 ∨ s = 1 ∨ s = 2 ∨ s = 3 ∨ s = 4 ∨ s = 5 ∨ s = 6 ∨ s = 7 ∨ s = 8 := by omega
    rcases h9 with rfl | rfl | rfl | rfl | rfl | rfl | rfl | rfl | rfl
    all_goals
      go_wp2_with fail
      go_ret
      exact ⟨ret_int hE.out.symm, rfl⟩

end Go.Proofs.Qxb6600660a
