import Derived.Test.Qxb6600660aVal
import Derived.Deep.LoopGhost
namespace Go.Proofs.Qxb6600660a
open Go.RowKit

set_option maxHeartbeats 1000000 in
theorem stringEnd_any (b off n cap i m r : Nat) (I : Int) (hI : I = (i : Int)) (f : Nat → Int) (w : World) (hB : Bts w b off n f) (hn : n ≤ 100000000) (hr : strE f n m (i + 1) = some r) :
    Calls Try.prog 32 #[.slice (some ⟨b, off, none⟩) n cap, .int .i64 I] w fun e w' => e = .returned (.int .i64 (r : Int)) ∧ w' = w := by
  subst hI
  have hin := (str_lt hr).1
  have HR : Hid (strE f n m (i + 1) = some r) := hr
  clear hr
  go_enter Try.func32, Try.ntmps32
  go_wp2
  go_loopg [1] m (fun k t wx => ∃ j : Nat, t = .int .i64 j ∧ Hid (strE f n k j = some r) ∧ wx = w)
  case atStart => exact ⟨i + 1, by go_num, HR, rfl⟩
  case round =>
    obtain ⟨j, rfl, hd, rfl⟩ := hrel
    obtain ⟨hjn, m', hm'⟩ := str_lt hd.out
    obtain ⟨hc, h0, h255⟩ := hB j hjn
    rw [hm'] at hd
    have HM : Hid (gk = m' + 1) := hm'
    clear hm'
    by_cases c1 : f j = 92
    · have t1 : (f j == 92) = true := by simpa using c1
      have HE : Hid _ := str_esc hd.out c1
      clear c1 hd
      go_wp2
      go_roundg m'
      case measure => rw [HM.out]; omega
      case rel => exact ⟨j + 2, by go_num, HE, rfl⟩
    · have t1 : (f j == 92) = false := by simpa using c1
      by_cases c2 : f j = 34
      · have t2 : (f j == 34) = true := by simpa using c2
        have HE : Hid (r = j + 1) := str_end hd.out c2
        clear c1 c2 hd
        go_wp2
        go_ret
        exact ⟨ret_int (by rw [HE.out]; rfl), rfl⟩
      · have t2 : (f j == 34) = false := by simpa using c2
        have HE : Hid _ := str_next hd.out c1 c2
        clear c1 c2 hd
        go_wp2
        go_roundg m'
        case measure => rw [HM.out]; omega
        case rel => exact ⟨j + 1, by go_num, HE, rfl⟩

set_option maxHeartbeats 1000000 in
theorem valueEnd_lit (b off n cap i : Nat) (f : Nat → Int) (w : World) (hB : Bts w b off n f) (hn : n ≤ 100000000) (hi : i < n) (e1 : f i ≠ 34) (e2 : f i ≠ 123) (e3 : f i ≠ 91) :
    Calls Try.prog 30 #[.slice (some ⟨b, off, none⟩) n cap, .int .i64 (i : Int)] w fun e w' => e = .returned (.int .i64 (litR f n i : Nat)) ∧ w' = w := by
  obtain ⟨hci, _, _⟩ := hB i hi
  have t1 : (f i == 34) = false := by simpa using e1
  have t2 : (f i == 123) = false := by simpa using e2
  have t3 : (f i == 91) = false := by simpa using e3
  clear e1 e2 e3
  go_enter Try.func30, Try.ntmps30
  go_wp2
  clear t1 t2 t3 hci
  go_loop [1] (fun t => ∃ k : Nat, k ≤ n ∧ t = .int .i64 k ∧ Hid (litR f n k = litR f n i)) (fun t => n - (intOf t).toNat)
  case atStart => exact ⟨i, by omega, rfl, rfl⟩
  case round =>
    obtain ⟨k, hk, rfl, hd⟩ := hrel
    by_cases hlt : k < n
    · obtain ⟨hc, h0, h255⟩ := hB k hlt
      by_cases c : f k = 44 ∨ f k = 125 ∨ f k = 93
      · have HE : Hid (litR f n i = k) := hd.out.symm.trans (lit_here c)
        by_cases c1 : f k = 44
        · have t1 : (f k == 44) = true := by simpa using c1
          clear c c1 hd
          go_wp2
          go_ret
          exact ⟨ret_int (by rw [HE.out]), rfl⟩
        · have t1 : (f k == 44) = false := by simpa using c1
          by_cases c2 : f k = 125
          · have t2 : (f k == 125) = true := by simpa using c2
            clear c c1 c2 hd
            go_wp2
            go_ret
            exact ⟨ret_int (by rw [HE.out]), rfl⟩
          · have t2 : (f k == 125) = false := by simpa using c2
            have t3 : (f k == 93) = true := by simp; omega
            clear c c1 c2 hd
            go_wp2
            go_ret
            exact ⟨ret_int (by rw [HE.out]), rfl⟩
      · have t1 : (f k == 44) = false := by simp; omega
        have t2 : (f k == 125) = false := by simp; omega
        have t3 : (f k == 93) = false := by simp; omega
        have HE : Hid (litR f n (k + 1) = litR f n i) := (lit_next hlt c).symm.trans hd.out
        clear c hd
        go_wp2
        go_round
        case rel => exact ⟨k + 1, by omega, by go_num, HE⟩
        case measure => simp [intOf]; omega
    · have HE : Hid (litR f n i = k) := hd.out.symm.trans (lit_stop (by omega))
      clear hd
      go_wp2
      go_ret
      exact ⟨ret_int (by rw [HE.out]), rfl⟩

set_option maxHeartbeats 400000 in
theorem valueEnd_str (b off n cap i m r : Nat) (f : Nat → Int) (w : World) (hB : Bts w b off n f) (hn : n ≤ 100000000) (hi : i < n) (e1 : f i = 34) (hr : strE f n m (i + 1) = some r) :
    Calls Try.prog 30 #[.slice (some ⟨b, off, none⟩) n cap, .int .i64 (i : Int)] w fun e w' => e = .returned (.int .i64 (r : Int)) ∧ w' = w := by
  obtain ⟨hci, _, _⟩ := hB i hi
  have t1 : (f i == 34) = true := by simpa using e1
  have HR : Hid _ := hr
  clear e1 hr
  go_enter Try.func30, Try.ntmps30
  go_wp2_with (go_at_call 32; refine (stringEnd_any b off n cap i m r _ rfl f _ hB hn HR.out).mono ?_; rintro e w' ⟨rfl, rfl⟩)
  go_ret
  exact ⟨rfl, rfl⟩

set_option maxHeartbeats 2000000 in
theorem valueEnd_con (b off n cap i m r : Nat) (f : Nat → Int) (w : World) (hB : Bts w b off n f) (hn : n ≤ 100000000) (hi : i < n) (e1 : f i = 123 ∨ f i = 91) (hr : conE f n m i 0 = some r) :
    Calls Try.prog 30 #[.slice (some ⟨b, off, none⟩) n cap, .int .i64 (i : Int)] w fun e w' => e = .returned (.int .i64 (r : Int)) ∧ w' = w := by
  obtain ⟨hci, _, _⟩ := hB i hi
  have HR : Hid _ := hr
  clear hr
  have t1 : (f i == 34) = false := by simp; omega
  have key : ∀ (t2 : (f i == 123) = true ∨ ((f i == 123) = false ∧ (f i == 91) = true)), Calls Try.prog 30 #[.slice (some ⟨b, off, none⟩) n cap, .int .i64 (i : Int)] w fun e w' => e = .returned (.int .i64 (r : Int)) ∧ w' = w := by
    clear e1
    rintro (t2 | ⟨t2, t3⟩)
    all_goals
      go_enter Try.func30, Try.ntmps30
      go_wp2
      go_loopg [1, 5] m (fun k t u wx => ∃ j d : Nat, t = .int .i64 j ∧ u = .int .i64 d ∧ d ≤ j ∧ Hid (conE f n k j d = some r) ∧ wx = w)
      case atStart => exact ⟨i, 0, rfl, rfl, by omega, HR, rfl⟩
      case round =>
        obtain ⟨j, d, rfl, rfl, hdj, hd, rfl⟩ := hrel
        obtain ⟨hjn, m', hm'⟩ := con_lt hd.out
        obtain ⟨hc, h0, h255⟩ := hB j hjn
        rw [hm'] at hd
        have HM : Hid (gk = m' + 1) := hm'
        clear hm'
        by_cases c1 : f j = 34
        · have s1 : (f j == 34) = true := by simpa using c1
          obtain ⟨q, hq, hq2⟩ := con_str hd.out c1
          have hqn := str_le hq
          have HQ : Hid _ := hq
          have HE : Hid _ := hq2
          clear c1 hd hq hq2
          go_wp2_with (go_at_call 32; refine (stringEnd_any b off n cap j n q _ rfl f _ hB hn HQ.out).mono ?_; rintro e w' ⟨rfl, rfl⟩)
          go_roundg m'
          case measure => rw [HM.out]; omega
          case rel => exact ⟨q, d, by go_num, rfl, by omega, HE, rfl⟩
        · have s1 : (f j == 34) = false := by simpa using c1
          by_cases c2 : f j = 123
          · have s2 : (f j == 123) = true := by simpa using c2
            have HE : Hid _ := con_open hd.out (.inl c2)
            clear c1 c2 hd
            go_wp2
            go_roundg m'
            case measure => rw [HM.out]; omega
            case rel => exact ⟨j + 1, d + 1, by go_num, by go_num, by omega, HE, rfl⟩
          · have s2 : (f j == 123) = false := by simpa using c2
            by_cases c3 : f j = 91
            · have s3 : (f j == 91) = true := by simpa using c3
              have HE : Hid _ := con_open hd.out (.inr c3)
              clear c1 c2 c3 hd
              go_wp2
              go_roundg m'
              case measure => rw [HM.out]; omega
              case rel => exact ⟨j + 1, d + 1, by go_num, by go_num, by omega, HE, rfl⟩
            · have s3 : (f j == 91) = false := by simpa using c3
              by_cases c4 : f j = 125 ∨ f j = 93
              · have s4 : (f j == 125) = true ∨ ((f j == 125) = false ∧ (f j == 93) = true) := by
                  rcases c4 with c4 | c4 <;> simp [c4]
                rcases con_close hd.out c4 with ⟨hd1, HE⟩ | ⟨hd2, HE⟩
                · subst hd1
                  have HE' : Hid (r = j + 1) := HE
                  clear c1 c2 c3 c4 hd HE
                  rcases s4 with s4 | ⟨s4, s5⟩
                  all_goals
                    go_wp2
                    go_ret
                    exact ⟨ret_int (by rw [HE'.out]; rfl), rfl⟩
                · have HE' : Hid _ := HE
                  obtain ⟨d', rfl⟩ : ∃ d', d = d' + 2 := ⟨d - 2, by omega⟩
                  clear c1 c2 c3 c4 hd HE hd2
                  rcases s4 with s4 | ⟨s4, s5⟩
                  all_goals
                    go_wp2
                    go_roundg m'
                    case measure => rw [HM.out]; omega
                    case rel => exact ⟨j + 1, d' + 1, by go_num, by go_num, by omega, HE', rfl⟩
              · have s4 : (f j == 125) = false := by simp; omega
                have s5 : (f j == 93) = false := by simp; omega
                have HE : Hid _ := con_next hd.out c1 (by omega) c4
                clear c1 c2 c3 c4 hd
                go_wp2
                go_roundg m'
                case measure => rw [HM.out]; omega
                case rel => exact ⟨j + 1, d, by go_num, rfl, by omega, HE, rfl⟩
  exact key (by rcases e1 with e1 | e1 <;> simp [e1])

end Go.Proofs.Qxb6600660a
