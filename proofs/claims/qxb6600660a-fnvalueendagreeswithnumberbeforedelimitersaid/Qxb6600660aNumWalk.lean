import Derived.Test.Qxb6600660aNum
import Derived.Deep.DeepCutAuto
import Derived.Deep.CutBlock
namespace Go.Proofs.Qxb6600660a
open Go.RowKit

theorem digits_int (b off n cap i : Nat) (I : Int) (hI : I = (i : Int)) (f : Nat → Int) (w : World) (hB : Bts w b off n f) (hn : n ≤ 2000000) (hi : i ≤ n) :
    Calls Try.prog 31 #[.slice (some ⟨b, off, none⟩) n cap, .int .i64 I] w fun e w' => e = .returned (.int .i64 (digE f n i : Nat)) ∧ w' = w := by
  subst hI; exact digits_any b off n cap i f w hB hn hi

theorem numF_neg {f : Nat → Int} {n i : Nat} (h : f i = 45) : numF f n i = intF f n (i + 1) := by unfold numF; rw [if_pos h]
theorem numF_pos {f : Nat → Int} {n i : Nat} (h : ¬ f i = 45) : numF f n i = intF f n i := by unfold numF; rw [if_neg h]
theorem intF_zero {f : Nat → Int} {n j : Nat} (h : j < n) (h1 : f j = 48) : intF f n j = fracF f n (j + 1) := by unfold intF; rw [if_pos ⟨h, h1⟩]
theorem intF_dig {f : Nat → Int} {n j : Nat} (h : j < n) (h1 : 49 ≤ f j) (h2 : f j ≤ 57) : intF f n j = fracF f n (digE f n j) := by
  unfold intF; rw [if_neg (by omega), if_pos ⟨h, h1, h2⟩]
theorem frac_no {f : Nat → Int} {n k : Nat} (h : ¬ (k < n ∧ f k = 46)) : fracF f n k = expF f n k := by unfold fracF; rw [if_neg h]
theorem frac_bad {f : Nat → Int} {n k : Nat} (h : k < n) (h1 : f k = 46) (h2 : digE f n (k + 1) = k + 1) : fracF f n k = -1 := by unfold fracF; rw [if_pos ⟨h, h1⟩, if_pos h2]
theorem frac_ok {f : Nat → Int} {n k : Nat} (h : k < n) (h1 : f k = 46) (h2 : digE f n (k + 1) ≠ k + 1) : fracF f n k = expF f n (digE f n (k + 1)) := by unfold fracF; rw [if_pos ⟨h, h1⟩, if_neg h2]
theorem exp_no {f : Nat → Int} {n k : Nat} (h : ¬ (k < n ∧ (f k = 101 ∨ f k = 69))) : expF f n k = k := by unfold expF; rw [if_neg h]
theorem exp_yes {f : Nat → Int} {n k : Nat} (h : k < n) (h1 : f k = 101 ∨ f k = 69) : expF f n k = expD f n (signF f n (k + 1)) := by unfold expF; rw [if_pos ⟨h, h1⟩]
theorem sign_no {f : Nat → Int} {n k : Nat} (h : ¬ (k < n ∧ (f k = 43 ∨ f k = 45))) : signF f n k = k := by unfold signF; rw [if_neg h]
theorem sign_yes {f : Nat → Int} {n k : Nat} (h : k < n) (h1 : f k = 43 ∨ f k = 45) : signF f n k = k + 1 := by unfold signF; rw [if_pos ⟨h, h1⟩]
theorem expD_bad {f : Nat → Int} {n k : Nat} (h : digE f n k = k) : expD f n k = -1 := by unfold expD; rw [if_pos h]
theorem expD_ok {f : Nat → Int} {n k : Nat} (h : digE f n k ≠ k) : expD f n k = (digE f n k : Nat) := by unfold expD; rw [if_neg h]
theorem intF_no {f : Nat → Int} {n j : Nat} (h : ¬ (j < n ∧ 48 ≤ f j ∧ f j ≤ 57)) : intF f n j = -1 := by
  unfold intF; rw [if_neg (by omega), if_neg (by omega)]

set_option maxHeartbeats 1000000 in
set_option maxRecDepth 10000 in
theorem number_any (b off n cap i : Nat) (f : Nat → Int) (w : World) (hB : Bts w b off n f) (hn : n ≤ 2000000) (hi : i < n) :
    Calls Try.prog 25 #[.slice (some ⟨b, off, none⟩) n cap, .int .i64 (i : Int)] w fun e w' => e = .returned (.int .i64 (numF f n i)) ∧ w' = w := by
  go_enter Try.func25, Try.ntmps25
  obtain ⟨hc, h0, h255⟩ := hB i hi
  go_upto_if 10 with fail
  go_cut [1] (fun v wc => ∃ j : Nat, v = .int .i64 j ∧ Hid (numF f n i = intF f n j) ∧ j ≤ n ∧ wc = w)
  case first =>
    by_cases hneg : f i = 45
    · have hb : (f i == 45) = true := by simpa using hneg
      go_wp2_with fail
      go_meet
      case rel => exact ⟨i + 1, by go_num, numF_neg hneg, by omega, rfl⟩
    · have hb : (f i == 45) = false := by simpa using hneg
      go_wp2_with fail
      go_meet
      case rel => exact ⟨i, rfl, numF_pos hneg, by omega, rfl⟩
  case rest =>
    obtain ⟨j, rfl, hj, hjn, rfl⟩ := hcut
    go_upto_block 0 with fail
    go_cut [1] (fun v wx => ∃ k : Nat, v = .int .i64 k ∧ Hid (numF f n i = fracF f n k) ∧ k ≤ n ∧ wx = wc)
    case first =>
      by_cases hlt : j < n
      · obtain ⟨hc, h0, h255⟩ := hB j hlt
        by_cases hz : f j = 48
        · have HZ : Hid (f j = 48) := hz
          have hz1 : 48 ≤ f j := by omega
          have hz2 : f j ≤ 48 := by omega
          clear hz
          go_wp2_with fail
          go_meet
          case rel => exact ⟨j + 1, by go_num, hj.trans (intF_zero hlt HZ.out), by omega, rfl⟩
        · have hzb : (f j == 48) = false := by simpa using hz
          by_cases hd : 49 ≤ f j ∧ f j ≤ 57
          · obtain ⟨d1, d2⟩ := hd
            go_wp2_with (go_at_call 31; refine (digits_int b off n cap j _ rfl f _ hB hn hjn).mono ?_; rintro e w' ⟨rfl, rfl⟩)
            go_meet
            case rel => exact ⟨_, rfl, hj.trans (intF_dig hlt d1 d2), digE_le hjn, rfl⟩
          · have HN : Hid (intF f n j = -1) := intF_no (by omega)
            by_cases d1 : 49 ≤ f j
            · have d2 : 57 < f j := by omega
              clear hd hz
              go_wp2_with fail
              go_ret
              exact ⟨ret_int (HN.out.symm.trans hj.symm), rfl⟩
            · clear hd hz
              go_wp2_with fail
              go_ret
              exact ⟨ret_int (HN.out.symm.trans hj.symm), rfl⟩
      · have HN : Hid (intF f n j = -1) := intF_no (by omega)
        go_wp2_with fail
        go_ret
        exact ⟨ret_int (HN.out.symm.trans hj.symm), rfl⟩
    case rest =>
      clear hj hjn
      obtain ⟨k, rfl, hk, hkn, rfl⟩ := hcut
      go_upto_region 8 with fail
      go_cut [59] (fun t wx => ∃ q : Bool, t = .bool q ∧ Hid (q = true ↔ k < n ∧ f k = 46) ∧ wx = wc)
      case first =>
        by_cases hlt : k < n
        · obtain ⟨hc, h0, h255⟩ := hB k hlt
          by_cases hp : f k = 46
          · have HP : Hid (f k = 46) := hp
            have hpb : (f k == 46) = true := by simpa using hp
            clear hp
            go_wp2_with fail
            go_meet
            case rel => exact ⟨true, rfl, ⟨fun _ => ⟨hlt, HP.out⟩, fun _ => rfl⟩, rfl⟩
          · have HP : Hid (false = true ↔ k < n ∧ f k = 46) := by simp [Hid, hp]
            have hpb : (f k == 46) = false := by simpa using hp
            clear hp
            go_wp2_with fail
            go_meet
            case rel => exact ⟨false, rfl, HP, rfl⟩
        · have HP : Hid (false = true ↔ k < n ∧ f k = 46) := by simp [Hid, hlt]
          go_wp2_with fail
          go_meet
          case rel => exact ⟨false, rfl, HP, rfl⟩
      case rest =>
        obtain ⟨q, rfl, hq, rfl⟩ := hcut
        go_upto_if 59 with fail
        go_cut [1, 59] (fun v _ wx => ∃ m : Nat, v = .int .i64 m ∧ Hid (numF f n i = expF f n m) ∧ m ≤ n ∧ wx = wc)
        case first =>
          cases q with
          | true =>
            obtain ⟨hlt, hp⟩ := hq.out.1 rfl
            have HP : Hid (f k = 46) := hp
            have hge := digE_ge f n (k + 1)
            have hle := digE_le (f := f) (show k + 1 ≤ n by omega)
            obtain ⟨hc, h0, h255⟩ := hB (digE f n (k + 1) - 1) (by omega)
            clear hp hq
            by_cases he : digE f n (k + 1) = k + 1
            · have HN : Hid (numF f n i = -1) := hk.out.trans (frac_bad hlt HP.out he)
              have hfd : f (digE f n (k + 1) - 1) = 46 := by rw [he]; exact HP.out
              have q1 : 46 ≤ f (digE f n (k + 1) - 1) := by omega
              have q2 : f (digE f n (k + 1) - 1) ≤ 46 := by omega
              clear he hfd
              go_wp2_with (go_at_call 31; refine (digits_int b off n cap (k + 1) _ (by omega) f _ hB hn (by omega)).mono ?_; rintro e w' ⟨rfl, rfl⟩)
              go_ret
              exact ⟨ret_int HN.out.symm, rfl⟩
            · have HN : Hid (numF f n i = expF f n (digE f n (k + 1))) := hk.out.trans (frac_ok hlt HP.out he)
              have q1 := (digE_last he).1
              clear he
              go_wp2_with (go_at_call 31; refine (digits_int b off n cap (k + 1) _ (by omega) f _ hB hn (by omega)).mono ?_; rintro e w' ⟨rfl, rfl⟩)
              go_meet
              case rel => exact ⟨_, rfl, HN, hle, rfl⟩
          | false =>
            have HN : Hid (numF f n i = expF f n k) := hk.out.trans (frac_no (fun h => by have := hq.out.2 h; cases this))
            clear hq
            go_wp2_with fail
            go_meet
            case rel => exact ⟨_, rfl, HN, hkn, rfl⟩
        case rest =>
          clear hk hkn hq
          obtain ⟨m, rfl, hm, hmn, rfl⟩ := hcut
          go_upto_region 12 with fail
          go_cut [87] (fun t wx => ∃ q : Bool, t = .bool q ∧ Hid (q = true ↔ m < n ∧ (f m = 101 ∨ f m = 69)) ∧ wx = wc)
          case first =>
            by_cases hlt : m < n
            · obtain ⟨hc, h0, h255⟩ := hB m hlt
              by_cases hp : f m = 101
              · have HP : Hid (f m = 101) := hp
                have hpb : (f m == 101) = true := by simpa using hp
                clear hp
                go_wp2_with fail
                go_meet
                case rel => exact ⟨true, rfl, ⟨fun _ => ⟨hlt, .inl HP.out⟩, fun _ => rfl⟩, rfl⟩
              · have hpb : (f m == 101) = false := by simpa using hp
                by_cases hp3 : f m = 69
                · have HP : Hid (f m = 69) := hp3
                  have hpc : (f m == 69) = true := by simpa using hp3
                  clear hp3 hp
                  go_wp2_with fail
                  go_meet
                  case rel => exact ⟨true, rfl, ⟨fun _ => ⟨hlt, .inr HP.out⟩, fun _ => rfl⟩, rfl⟩
                · have HP : Hid (false = true ↔ m < n ∧ (f m = 101 ∨ f m = 69)) := by simp [Hid, hp, hp3]
                  have hpc : (f m == 69) = false := by simpa using hp3
                  clear hp hp3
                  go_wp2_with fail
                  go_meet
                  case rel => exact ⟨false, rfl, HP, rfl⟩
            · have HP : Hid (false = true ↔ m < n ∧ (f m = 101 ∨ f m = 69)) := by simp [Hid, hlt]
              go_wp2_with fail
              go_meet
              case rel => exact ⟨false, rfl, HP, rfl⟩
          case rest =>
            obtain ⟨q, rfl, hq, rfl⟩ := hcut
            cases q with
            | false =>
              have HN : Hid (numF f n i = (m : Int)) := hm.out.trans (exp_no (fun h => by have := hq.out.2 h; cases this))
              clear hq hm
              go_wp2_with fail
              go_ret
              exact ⟨ret_int HN.out.symm, rfl⟩
            | true =>
              obtain ⟨hlt, hp⟩ := hq.out.1 rfl
              have HN : Hid (numF f n i = expD f n (signF f n (m + 1))) := hm.out.trans (exp_yes hlt hp)
              clear hq hm hp
              go_upto_region 14 with fail
              go_cut [107] (fun t wx => ∃ q : Bool, t = .bool q ∧ Hid (q = true ↔ m + 1 < n ∧ (f (m + 1) = 43 ∨ f (m + 1) = 45)) ∧ wx = wc)
              case first =>
                by_cases hl2 : m + 1 < n
                · obtain ⟨hc, h0, h255⟩ := hB (m + 1) hl2
                  by_cases hp : f (m + 1) = 43
                  · have HP : Hid (f (m + 1) = 43) := hp
                    have hpb : (f (m + 1) == 43) = true := by simpa using hp
                    clear hp
                    go_wp2_with fail
                    go_meet
                    case rel => exact ⟨true, rfl, ⟨fun _ => ⟨hl2, .inl HP.out⟩, fun _ => rfl⟩, rfl⟩
                  · have hpb : (f (m + 1) == 43) = false := by simpa using hp
                    by_cases hp3 : f (m + 1) = 45
                    · have HP : Hid (f (m + 1) = 45) := hp3
                      have hpc : (f (m + 1) == 45) = true := by simpa using hp3
                      clear hp3 hp
                      go_wp2_with fail
                      go_meet
                      case rel => exact ⟨true, rfl, ⟨fun _ => ⟨hl2, .inr HP.out⟩, fun _ => rfl⟩, rfl⟩
                    · have HP : Hid (false = true ↔ m + 1 < n ∧ (f (m + 1) = 43 ∨ f (m + 1) = 45)) := by simp [Hid, hp, hp3]
                      have hpc : (f (m + 1) == 45) = false := by simpa using hp3
                      clear hp hp3
                      go_wp2_with fail
                      go_meet
                      case rel => exact ⟨false, rfl, HP, rfl⟩
                · have HP : Hid (false = true ↔ m + 1 < n ∧ (f (m + 1) = 43 ∨ f (m + 1) = 45)) := by simp [Hid, hl2]
                  go_wp2_with fail
                  go_meet
                  case rel => exact ⟨false, rfl, HP, rfl⟩
              case rest =>
                obtain ⟨q, rfl, hq, rfl⟩ := hcut
                go_upto_if 107 with fail
                go_cut [1, 107] (fun v _ wx => ∃ p : Nat, v = .int .i64 p ∧ Hid (numF f n i = expD f n p) ∧ p ≤ n ∧ wx = wc)
                case first =>
                  cases q with
                  | true =>
                    obtain ⟨hl2, hp⟩ := hq.out.1 rfl
                    have HM : Hid (numF f n i = expD f n (m + 1 + 1)) := by rw [HN.out, sign_yes hl2 hp]; rfl
                    clear hp hq HN
                    go_wp2_with fail
                    go_meet
                    case rel => exact ⟨m + 1 + 1, by go_num, HM, by omega, rfl⟩
                  | false =>
                    have HM : Hid (numF f n i = expD f n (m + 1)) := by rw [HN.out, sign_no (fun h => by have := hq.out.2 h; cases this)]; rfl
                    clear hq HN
                    go_wp2_with fail
                    go_meet
                    case rel => exact ⟨m + 1, by go_num, HM, by omega, rfl⟩
                case rest =>
                  clear hq HN
                  obtain ⟨p, rfl, hp, hpn, rfl⟩ := hcut
                  have hge := digE_ge f n p
                  have hle := digE_le (f := f) hpn
                  by_cases he : digE f n p = p
                  · have HN : Hid (numF f n i = -1) := hp.out.trans (expD_bad he)
                    have he2 : digE f n p ≤ p := by omega
                    clear he
                    go_wp2_with (go_at_call 31; refine (digits_int b off n cap p _ rfl f _ hB hn hpn).mono ?_; rintro e w' ⟨rfl, rfl⟩)
                    go_ret
                    exact ⟨ret_int HN.out.symm, rfl⟩
                  · have HN : Hid (numF f n i = (digE f n p : Nat)) := hp.out.trans (expD_ok he)
                    have he2 : p < digE f n p := by omega
                    clear he
                    go_wp2_with (go_at_call 31; refine (digits_int b off n cap p _ rfl f _ hB hn hpn).mono ?_; rintro e w' ⟨rfl, rfl⟩)
                    go_ret
                    exact ⟨ret_int HN.out.symm, rfl⟩

end Go.Proofs.Qxb6600660a
