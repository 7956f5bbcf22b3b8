import Derived.Test.Qxb6600660aWrit
import Derived.Test.Qxb6600660aRow
namespace Go.Proofs.Qxb6600660a
open Go.RowKit

theorem u8_le (c : UInt8) : 0 ≤ (c.toNat : Int) ∧ (c.toNat : Int) ≤ 255 := by have := c.toNat_lt; omega
/-- m digits, off the bytes of Z from place lo on. -/
def dgs (Z : List Int) (lo : Nat) : Nat → List Int
  | 0 => []
  | m + 1 => dgs Z lo m ++ [48 + bt Z (lo + m) % 10]
theorem dgs_step {A c Z : List Int} {lo m j : Nat} (hj : j = lo + m) : A ++ (c ++ dgs Z lo m) ++ [48 + bt Z j % 10] = A ++ (c ++ dgs Z lo (m + 1)) := by
  subst hj; simp [dgs]
theorem dgs_len (Z : List Int) (lo : Nat) : ∀ m, (dgs Z lo m).length = m
  | 0 => rfl
  | m + 1 => by simp [dgs, dgs_len Z lo m]
theorem dgs_dg (Z : List Int) (lo : Nat) : ∀ m, ∀ x ∈ dgs Z lo m, Dg x
  | 0 => by simp [dgs]
  | m + 1 => by
    intro x hx
    rcases List.mem_append.1 hx with h | h
    · exact dgs_dg Z lo m x h
    · simp at h; unfold Dg; omega

theorem dgs_cons (Z : List Int) (lo m : Nat) (h : 0 < m) : ∃ d D, dgs Z lo m = d :: D := by
  have := dgs_len Z lo m
  cases hd : dgs Z lo m with
  | nil => rw [hd] at this; simp at this; omega
  | cons d D => exact ⟨d, D, rfl⟩
theorem frac_dgs (Z : List Int) {m : Nat} (h : 0 < m) : IsFrac ([46] ++ dgs Z 0 m) := by
  obtain ⟨d, D, e⟩ := dgs_cons Z 0 m h
  exact .inr ⟨d, D, by rw [e]; rfl, by rw [← e]; exact dgs_dg Z 0 m⟩
theorem exp_dgs (Z : List Int) {m : Nat} {c : Int} {S : List Int} (h : 0 < m) (hc : c = 101 ∨ c = 69) (hS : S = [] ∨ S = [43] ∨ S = [45]) : IsExp ([c] ++ S ++ dgs Z 0 m) := by
  obtain ⟨d, D, e⟩ := dgs_cons Z 0 m h
  exact .inr ⟨c, S, d, D, by rw [e]; simp, hc, hS, by rw [← e]; exact dgs_dg Z 0 m⟩

theorem terms_ok : ∀ D : Fin 6, ¬ (48 ≤ ((({ data := #[44, 125, 93, 32, 9, 58] } : ByteArray)[D.1]'D.2).toNat : Int) ∧ ((({ data := #[44, 125, 93, 32, 9, 58] } : ByteArray)[D.1]'D.2).toNat : Int) ≤ 57) ∧
    ((({ data := #[44, 125, 93, 32, 9, 58] } : ByteArray)[D.1]'D.2).toNat : Int) ≠ 46 ∧ ((({ data := #[44, 125, 93, 32, 9, 58] } : ByteArray)[D.1]'D.2).toNat : Int) ≠ 101 ∧ ((({ data := #[44, 125, 93, 32, 9, 58] } : ByteArray)[D.1]'D.2).toNat : Int) ≠ 69 := by decide +kernel
theorem stop_cons {c : Int} {R : List Int} (h : ¬ (48 ≤ c ∧ c ≤ 57) ∧ c ≠ 46 ∧ c ≠ 101 ∧ c ≠ 69) : Stop ([c] ++ R) := by
  intro c' r e
  simp at e
  rw [← e.1]
  exact h
theorem stop_nil : Stop [] := by intro c r e; cases e
theorem int_pos {I : List Int} (h : IsInt I) : 1 ≤ I.length := by
  rcases h with rfl | ⟨d, D, rfl, _⟩
  · simp
  · simp
/-- The written text, read. -/
theorem fin_law {X0 S I F E T : List Int} {l0 n n' : Nat} (h0 : X0.length = l0) (hn : (X0 ++ S ++ I ++ F ++ E).length = n) (hn' : (X0 ++ S ++ I ++ F ++ E ++ T).length = n')
    (hS : IsSgn S) (hI : IsInt I) (hF : IsFrac F) (hE : IsExp E) (hT : Stop T) : numF (bt (X0 ++ S ++ I ++ F ++ E ++ T)) n' l0 = (n : Int) := by
  subst h0 hn hn'
  have e : X0 ++ S ++ I ++ F ++ E ++ T = X0 ++ (S ++ (I ++ (F ++ (E ++ T)))) := by simp
  have ha : At (X0 ++ S ++ I ++ F ++ E ++ T) X0.length (S ++ (I ++ (F ++ (E ++ T)))) := by rw [e]; exact At.start _ _
  rw [num_law ha hS hI hF hE hT]
  simp only [List.length_append]

theorem fin_none {X0 S I F E : List Int} {l0 n : Nat} (h0 : X0.length = l0) (hn : (X0 ++ S ++ I ++ F ++ E).length = n)
    (hS : IsSgn S) (hI : IsInt I) (hF : IsFrac F) (hE : IsExp E) : (numF (bt (X0 ++ S ++ I ++ F ++ E)) n l0 == (n : Int)) = true := by
  have := fin_law (T := []) h0 hn (by simpa using hn) hS hI hF hE stop_nil
  simp only [List.append_nil] at this
  rw [this]; simp
theorem fin_some {X0 S I F E R : List Int} {c : Int} {l0 n n' : Nat} (h0 : X0.length = l0) (hn : (X0 ++ S ++ I ++ F ++ E).length = n) (hn' : (X0 ++ S ++ I ++ F ++ E ++ [c] ++ R).length = n')
    (hS : IsSgn S) (hI : IsInt I) (hF : IsFrac F) (hE : IsExp E) (hT : Stop ([c] ++ R)) : (numF (bt (X0 ++ S ++ I ++ F ++ E ++ [c] ++ R)) n' l0 == (n : Int)) = true := by
  rw [List.append_assoc _ [c] R] at hn' ⊢
  rw [fin_law h0 hn hn' hS hI hF hE hT]; simp

set_option maxHeartbeats 2000000 in
set_option maxRecDepth 10000 in
theorem walk6 (a0 a2 a3 a4 a7 : Option Addr) (l0 l2 l3 l4 l7 c0 c2 c3 c4 c7 : Nat) (a1 : Bool) (a5 a6 : Int) (z0 z2 z3 z4 z7 : List Int) (w : World)
    (r0 : IsRow .u8 w a0 l0 c0 z0) (r2 : IsRow .u8 w a2 l2 c2 z2) (r3 : IsRow .u8 w a3 l3 c3 z3) (r4 : IsRow .u8 w a4 l4 c4 z4) (r7 : IsRow .u8 w a7 l7 c7 z7)
    (w5 : 0 ≤ a5) (w5' : a5 ≤ 255) (w6 : 0 ≤ a6) (w6' : a6 ≤ 255) (h : l0 + l2 + l3 + l4 + l7 ≤ 1048576) :
    Calls Try.prog 6 #[.slice a0 l0 c0, .bool a1, .slice a2 l2 c2, .slice a3 l3 c3, .slice a4 l4 c4, .int .u8 a5, .int .u8 a6, .slice a7 l7 c7] w fun e w' => e = .returned (.bool true) ∧ Below w.heap.size w w' := by
  go_enter Try.func6, Try.ntmps6
  go_upto_if 93 with (first | (go_at_call 17; refine (zz17_yes _ _ _ _ _ _ _ _ _ _ _ _ _ _ _ _ _ _ _ h).mono ?_; rintro e w' ⟨rfl, hw⟩; replace hw := hw.symm; subst hw) | (at_make; go_loud (refine wpl_make0 (w0 := w) (B := w.heap.size) rfl _ _ rfl rfl _ rfl (l0 + l2 + l3 + l4 + l7 + 8) (by omega) (by omega) (Below.refl _ _) (Nat.le_refl _) ?_); intro w1 H1) | (at_builtin; go_loud (refine wpl_app_in rfl _ _ rfl H1 rfl a0 l0 c0 rfl z0 r0 (by omega) ?_); intro g cap w2 H))
  simp only [Nat.zero_add, List.nil_append] at H
  clear H1
  go_cut [17, 93] (fun v _ wx => ∃ (g n cap : Nat) (S : List Int), v = .slice (some ⟨g, 0, none⟩) n cap ∧ Own w w.heap.size wx g n cap (z0.take l0 ++ S) ∧ IsSgn S ∧ n ≤ l0 + 1)
  case first => as_aux_lemma =>
    cases a1 with
    | true =>
      go_wp2_with (at_builtin; refine wpl_app1 rfl _ _ rfl H rfl _ rfl (by omega) (by omega) (by omega) ?_; intro g' cap' w' H')
      go_meet
      case rel => exact ⟨_, _, _, [45], rfl, H', .inr rfl, by omega⟩
    | false =>
      go_wp2_with fail
      go_meet
      case rel => exact ⟨_, _, _, [], rfl, by simpa using H, .inl rfl, by omega⟩
  case rest => as_aux_lemma =>
    clear H
    obtain ⟨g, n, cap, S, rfl, H, hS, hn⟩ := hcut
    go_upto_if 99 with fail
    go_cut [17, 99] (fun v _ wx => ∃ (g n cap : Nat) (S I : List Int), v = .slice (some ⟨g, 0, none⟩) n cap ∧ Own w w.heap.size wx g n cap (z0.take l0 ++ S ++ I) ∧ IsSgn S ∧ IsInt I ∧ n ≤ l0 + l2 + 2)
    case first => as_aux_lemma =>
      by_cases hl : l2 = 0
      · have hlb : ((l2 : Int) == 0) = true := by simp [hl]
        clear hl
        go_wp2_with (at_builtin; refine wpl_app1 rfl _ _ rfl H rfl _ rfl (by omega) (by omega) (by omega) ?_; intro g' cap' w' H')
        go_meet
        case rel => exact ⟨_, _, _, S, [48], rfl, H', hS, .inl rfl, by omega⟩
      · obtain ⟨b2, off2, rfl, hb2⟩ := r2.plain (by omega)
        have hlb : ((l2 : Int) == 0) = false := by simp; omega
        obtain ⟨hc0, hg0, hg1⟩ := hb2 wc H.bel 0 (by omega)
        simp only [Nat.add_zero] at hc0
        go_wp2_with (at_builtin; refine wpl_app1 rfl _ _ rfl H rfl _ rfl (by omega) (by omega) (by omega) ?_; intro g' cap' w' H')
        clear hc0 hlb
        go_loopw [17, 19] (fun v i wr => ∃ (m g cap : Nat), m + 1 ≤ l2 ∧ i = .int .i64 ((m + 1 : Nat) : Int) ∧ v = .slice (some ⟨g, 0, none⟩) (n + 1 + m) cap ∧ Own w w.heap.size wr g (n + 1 + m) cap (z0.take l0 ++ S ++ ([49 + bt (z2.take l2) 0 % 9] ++ dgs (z2.take l2) 1 m))) (fun _ i _ => l2 - (intOf i).toNat)
        case atStart => exact ⟨0, _, _, by omega, rfl, rfl, by simpa [dgs] using H'⟩
        case round => as_aux_lemma =>
          clear H H'
          obtain ⟨m, g, cap, hm, rfl, rfl, H⟩ := hrel
          by_cases hlt : m + 1 < l2
          · obtain ⟨hc, hx0, hx1⟩ := hb2 wr H.bel (m + 1) hlt
            go_wp2_with (at_builtin; refine wpl_app1 rfl _ _ rfl H rfl _ rfl (by omega) (by omega) (by omega) ?_; intro g' cap' w' H')
            go_roundw
            case rel => exact ⟨m + 1, g', cap', by omega, by go_num, rfl, by rw [← dgs_step (show m + 1 = 1 + m by omega)]; exact H'⟩
            case measure => simp [intOf]; omega
          · go_wp2_with fail
            go_meet
            case rel => exact ⟨_, _, _, S, [49 + bt (z2.take l2) 0 % 9] ++ dgs (z2.take l2) 1 m, rfl, H, hS, .inr ⟨_, _, rfl, by omega, by omega, dgs_dg _ _ _⟩, by omega⟩
    case rest => as_aux_lemma =>
      clear H hS hn
      obtain ⟨g, n, cap, S, I, rfl, H, hS, hI, hn⟩ := hcut
      go_upto_if 128 with fail
      go_cut [17, 128] (fun v _ wx => ∃ (g n cap : Nat) (F : List Int), v = .slice (some ⟨g, 0, none⟩) n cap ∧ Own w w.heap.size wx g n cap (z0.take l0 ++ S ++ I ++ F) ∧ IsFrac F ∧ n ≤ l0 + l2 + l3 + 3)
      case first => as_aux_lemma =>
        by_cases hl : 0 < l3
        · obtain ⟨b3, off3, rfl, hb3⟩ := r3.plain hl
          go_wp2_with (at_builtin; refine wpl_app1 rfl _ _ rfl H rfl _ rfl (by omega) (by omega) (by omega) ?_; intro g' cap' w' H')
          go_loopw [17, 20] (fun v i wr => ∃ (m g cap : Nat), m ≤ l3 ∧ i = .int .i64 (m : Int) ∧ v = .slice (some ⟨g, 0, none⟩) (n + 1 + m) cap ∧ Own w w.heap.size wr g (n + 1 + m) cap (z0.take l0 ++ S ++ I ++ ([46] ++ dgs (z3.take l3) 0 m))) (fun _ i _ => l3 - (intOf i).toNat)
          case atStart => exact ⟨0, _, _, by omega, rfl, rfl, by simpa [dgs] using H'⟩
          case round => as_aux_lemma =>
            clear H H'
            obtain ⟨m, g, cap, hm, rfl, rfl, H⟩ := hrel
            by_cases hlt : m < l3
            · obtain ⟨hc, hx0, hx1⟩ := hb3 wr H.bel m hlt
              go_wp2_with (at_builtin; refine wpl_app1 rfl _ _ rfl H rfl _ rfl (by omega) (by omega) (by omega) ?_; intro g' cap' w' H')
              go_roundw
              case rel => exact ⟨m + 1, g', cap', by omega, by go_num, rfl, by rw [← dgs_step (show m = 0 + m by omega)]; exact H'⟩
              case measure => simp [intOf]; omega
            · go_wp2_with fail
              go_meet
              case rel => exact ⟨_, _, _, [46] ++ dgs (z3.take l3) 0 m, rfl, H, frac_dgs _ (by omega), by omega⟩
        · have hlb : (l3 : Int) < 1 := by omega
          clear hl
          go_wp2_with fail
          go_meet
          case rel => exact ⟨_, _, _, [], rfl, by simpa using H, .inl rfl, by omega⟩
      case rest => as_aux_lemma =>
        clear H hn
        obtain ⟨g, n, cap, F, rfl, H, hF, hn⟩ := hcut
        go_upto_if 149 with fail
        go_cut [17, 149] (fun v _ wx => ∃ (g n cap : Nat) (E : List Int), v = .slice (some ⟨g, 0, none⟩) n cap ∧ Own w w.heap.size wx g n cap (z0.take l0 ++ S ++ I ++ F ++ E) ∧ IsExp E ∧ n ≤ l0 + l2 + l3 + l4 + 5)
        case first => as_aux_lemma =>
          by_cases hl : 0 < l4
          · obtain ⟨b4, off4, rfl, hb4⟩ := r4.plain hl
            go_upto_if 152 with fail
            go_cut [17, 152] (fun v _ wx => ∃ (g cap : Nat) (c : Int), v = .slice (some ⟨g, 0, none⟩) (n + 1) cap ∧ Own w w.heap.size wx g (n + 1) cap (z0.take l0 ++ S ++ I ++ F ++ [c]) ∧ (c = 101 ∨ c = 69))
            case first => as_aux_lemma =>
              by_cases he : (bits BinOp.and IntKind.u8 a5 1 == 0) = true
              · go_wp2_with (at_builtin; refine wpl_app1 rfl _ _ rfl H rfl _ rfl (by omega) (by omega) (by omega) ?_; intro g' cap' w' H')
                go_meet
                case rel => exact ⟨_, _, _, rfl, H', .inl rfl⟩
              · have he' : (bits BinOp.and IntKind.u8 a5 1 == 0) = false := by simpa using he
                clear he
                go_wp2_with (at_builtin; refine wpl_app1 rfl _ _ rfl H rfl _ rfl (by omega) (by omega) (by omega) ?_; intro g' cap' w' H')
                go_meet
                case rel => exact ⟨_, _, _, rfl, H', .inr rfl⟩
            case rest => as_aux_lemma =>
              clear H
              obtain ⟨g, cap, c, rfl, H, hc⟩ := hcut
              have HC : Hid (c = 101 ∨ c = 69) := hc
              clear hc
              go_upto_block 4 with fail
              go_cut [17] (fun v wx => ∃ (g n' cap : Nat) (G : List Int), v = .slice (some ⟨g, 0, none⟩) n' cap ∧ Own w w.heap.size wx g n' cap (z0.take l0 ++ S ++ I ++ F ++ ([c] ++ G)) ∧ (G = [] ∨ G = [43] ∨ G = [45]) ∧ n' ≤ n + 2)
              case first => as_aux_lemma =>
                have h3 : a5 / 2 % 3 = 0 ∨ a5 / 2 % 3 = 1 ∨ a5 / 2 % 3 = 2 := by omega
                rcases h3 with h3 | h3 | h3
                · have t1 : (a5 / 2 % 3 == 1) = false := by rw [h3]; rfl
                  have t2 : (a5 / 2 % 3 == 2) = false := by rw [h3]; rfl
                  clear h3
                  go_wp2_with fail
                  go_meet
                  case rel => exact ⟨_, _, _, [], rfl, by simpa using H, .inl rfl, by omega⟩
                · have t1 : (a5 / 2 % 3 == 1) = true := by rw [h3]; rfl
                  clear h3
                  go_wp2_with (at_builtin; refine wpl_app1 rfl _ _ rfl H rfl _ rfl (by omega) (by omega) (by omega) ?_; intro g' cap' w' H')
                  go_meet
                  case rel => exact ⟨_, _, _, [43], rfl, by simpa using H', .inr (.inl rfl), by omega⟩
                · have t1 : (a5 / 2 % 3 == 1) = false := by rw [h3]; rfl
                  have t2 : (a5 / 2 % 3 == 2) = true := by rw [h3]; rfl
                  clear h3
                  go_wp2_with (at_builtin; refine wpl_app1 rfl _ _ rfl H rfl _ rfl (by omega) (by omega) (by omega) ?_; intro g' cap' w' H')
                  go_meet
                  case rel => exact ⟨_, _, _, [45], rfl, by simpa using H', .inr (.inr rfl), by omega⟩
              case rest => as_aux_lemma =>
                clear H
                obtain ⟨g, n', cap, G, rfl, H, hG, hn'⟩ := hcut
                have HG : Hid (G = [] ∨ G = [43] ∨ G = [45]) := hG
                clear hG
                go_wp2_with fail
                go_loopw [17, 21] (fun v i wr => ∃ (m g cap : Nat), m ≤ l4 ∧ i = .int .i64 (m : Int) ∧ v = .slice (some ⟨g, 0, none⟩) (n' + m) cap ∧ Own w w.heap.size wr g (n' + m) cap (z0.take l0 ++ S ++ I ++ F ++ ([c] ++ G ++ dgs (z4.take l4) 0 m))) (fun _ i _ => l4 - (intOf i).toNat)
                case atStart => exact ⟨0, _, _, by omega, rfl, rfl, by simpa [dgs] using H⟩
                case round => as_aux_lemma =>
                  clear H
                  obtain ⟨m, g, cap, hm, rfl, rfl, H⟩ := hrel
                  by_cases hlt : m < l4
                  · obtain ⟨hc, hx0, hx1⟩ := hb4 wr H.bel m hlt
                    go_wp2_with (at_builtin; refine wpl_app1 rfl _ _ rfl H rfl _ rfl (by omega) (by omega) (by omega) ?_; intro g' cap' w' H')
                    go_roundw
                    case rel => exact ⟨m + 1, g', cap', by omega, by go_num, rfl, by rw [← dgs_step (show m = 0 + m by omega)]; exact H'⟩
                    case measure => simp [intOf]; omega
                  · go_wp2_with fail
                    go_meet
                    case rel => exact ⟨_, _, _, [c] ++ G ++ dgs (z4.take l4) 0 m, rfl, H, exp_dgs _ (by omega) HC.out HG.out, by omega⟩
          · have hlb : (l4 : Int) < 1 := by omega
            clear hl
            go_wp2_with fail
            go_meet
            case rel => exact ⟨_, _, _, [], rfl, by simpa using H, .inl rfl, by omega⟩
        case rest => as_aux_lemma =>
          clear H hn
          obtain ⟨g, n, cap, E, rfl, H, hE, hn⟩ := hcut
          have HL : Hid _ := H.len
          have h0 : Hid ((z0.take l0).length = l0) := r0.len_le
          have hnl : l0 < n := by
            have h1 := HL.out
            have h2 := int_pos hI
            have h3 := h0.out
            simp only [List.length_append] at h1
            omega
          by_cases ht : a6 % 7 < 6
          · obtain ⟨D, hD, hDe⟩ : ∃ D : Nat, D < 6 ∧ a6 % 7 = (D : Int) := ⟨(a6 % 7).toNat, by omega, by omega⟩
            have HT : Hid _ := stop_cons (R := z7.take l7) (terms_ok ⟨D, hD⟩)
            clear ht
            go_upto_region 43 with (at_builtin; first | (refine wpl_app1 rfl (.tmp 194) (.tmp 197) rfl H rfl _ rfl (u8_le _).1 (u8_le _).2 (by omega) ?_; intro g1 cap1 w1 H1) | (refine wpl_app_in rfl (.tmp 199) (.tmp 200) rfl H1 rfl a7 l7 c7 rfl z7 r7 (by omega) ?_; intro g2 cap2 w2 H2))
            go_wp2_with (go_at_call 15; refine (zznumber_any _ _ _ _ l0 _ rfl _ _ H2.bts (by omega) (by omega)).mono ?_; rintro e w' ⟨rfl, hw⟩; replace hw := hw.symm; subst hw)
            go_ret
            exact ⟨ret_true (by have hq := fin_some h0.out HL.out H2.len hS hI hF hE HT.out; simp only [List.append_assoc, List.cons_append, List.nil_append] at hq; exact hq), H2.bel⟩
          · go_wp2_with (go_at_call 15; refine (zznumber_any _ _ _ _ l0 _ rfl _ _ H.bts (by omega) (by omega)).mono ?_; rintro e w' ⟨rfl, hw⟩; replace hw := hw.symm; subst hw)
            go_ret
            exact ⟨ret_true (by have hq := fin_none h0.out HL.out hS hI hF hE; simp only [List.append_assoc] at hq; exact hq), H.bel⟩

theorem walk6_all (a0 : Option Addr) (l0 c0 : Nat) (z0 : List Int) (a1 : Bool) (a2 : Option Addr) (l2 c2 : Nat) (z2 : List Int) (a3 : Option Addr) (l3 c3 : Nat) (z3 : List Int) (a4 : Option Addr) (l4 c4 : Nat) (z4 : List Int) (a5 a6 : Int) (a7 : Option Addr) (l7 c7 : Nat) (z7 : List Int) (w : World)
    (r0 : IsRow .u8 w a0 l0 c0 z0) (r2 : IsRow .u8 w a2 l2 c2 z2) (r3 : IsRow .u8 w a3 l3 c3 z3) (r4 : IsRow .u8 w a4 l4 c4 z4) (w5 : (Lit.int .u8 a5).wf = true) (w6 : (Lit.int .u8 a6).wf = true) (r7 : IsRow .u8 w a7 l7 c7 z7) :
    Calls Try.prog 6 #[.slice a0 l0 c0, .bool a1, .slice a2 l2 c2, .slice a3 l3 c3, .slice a4 l4 c4, .int .u8 a5, .int .u8 a6, .slice a7 l7 c7] w fun e w' => e = .returned (.bool true) ∧ Below w.heap.size w w' := by
  by_cases h : l0 + l2 + l3 + l4 + l7 ≤ 1048576
  · exact walk6 a0 a2 a3 a4 a7 l0 l2 l3 l4 l7 c0 c2 c3 c4 c7 a1 a5 a6 z0 z2 z3 z4 z7 w r0 r2 r3 r4 r7 (bounds_u8 w5).1 (bounds_u8 w5).2 (bounds_u8 w6).1 (bounds_u8 w6).2 h
  · exact walk6_long a0 a2 a3 a4 a7 l0 l2 l3 l4 l7 c0 c2 c3 c4 c7 a1 a5 a6 w (by omega)

end Go.Proofs.Qxb6600660a
