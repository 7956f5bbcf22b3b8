import Derived.Test.Qxb6600660aJStr
namespace Go.Proofs.Qxb6600660a
open Go.RowKit

theorem lts_true : Lts [116, 114, 117, 101] := by intro c hc; simp at hc; exact lt_ok (by omega)
theorem lts_false : Lts [102, 97, 108, 115, 101] := by intro c hc; simp at hc; exact lt_ok (by omega)
theorem lts_null : Lts [110, 117, 108, 108] := by intro c hc; simp at hc; exact lt_ok (by omega)
theorem cells_true : Lib.strCells { data := #[116, 114, 117, 101] } = [116, 114, 117, 101].map (Value.int .u8) := rfl
theorem cells_false : Lib.strCells { data := #[102, 97, 108, 115, 101] } = [102, 97, 108, 115, 101].map (Value.int .u8) := rfl
theorem cells_null : Lib.strCells { data := #[110, 117, 108, 108] } = [110, 117, 108, 108].map (Value.int .u8) := rfl
theorem pl_comma : Seq [44] := Seq.one (by unfold Pl; omega)
theorem pl_colon : Seq [58] := Seq.one (by unfold Pl; omega)
theorem own_re {w0 w : World} {B g n cap : Nat} {A A' : List Int} (h : Own w0 B w g n cap A) (e : A = A') : Own w0 B w g n cap A' := e ▸ h

/-- What a call of 'jsonValue' leaves: a written value behind what was there. -/
def JPost (w0 : World) (xs : List Int) (n p len : Nat) (e : Ending) (w' : World) : Prop := ∃ (V : List Int) (g' n' cap' p' : Nat),
  e = .returned (.tuple #[.slice (some ⟨g', 0, none⟩) n' cap', .int .i64 (p' : Int)]) ∧ Own w0 w0.heap.size w' g' n' cap' (xs ++ V) ∧ Val V ∧ n' + 600 * p ≤ n + 100 + 600 * p' ∧ p ≤ p' ∧ p' ≤ len

/-- The contract of 'jsonValue' at one depth. -/
def JAt (a : Option Addr) (len acap : Nat) (w0 : World) (D : Int) : Prop := ∀ (p g n cap : Nat) (xs : List Int) (w : World), p ≤ len → Own w0 w0.heap.size w g n cap xs → n ≤ 70000 + 600 * p →
    Calls Try.prog 20 #[.slice a len acap, .int .i64 (p : Int), .int .i64 D, .slice (some ⟨g, 0, none⟩) n cap] w (JPost w0 xs n p len)

set_option maxHeartbeats 4000000 in
set_option maxRecDepth 10000 in
theorem jval_step (a : Option Addr) (len acap : Nat) (z : List Int) (w0 : World) (hr : IsRow .u8 w0 a len acap z) (hlen : len ≤ 4096) (depth : Nat) (hd : depth ≤ 64) (ih : depth < 64 → JAt a len acap w0 ((depth : Int) + 1)) : JAt a len acap w0 (depth : Int) := by
  intro p g n cap xs w hp H hn
  have IH : Hid (depth < 64 → JAt a len acap w0 ((depth : Int) + 1)) := ih
  clear ih
  go_enter Try.func20, Try.ntmps20
  go_upto_region 2 with (go_at_call 27; refine (next_any a len acap p z w0 _ hr H.bel hlen hp).mono ?_; rintro e w' ⟨x, q, rfl, hx0, hx1, hq3, hq4, hq5, hw⟩; replace hw := hw.symm; subst hw)
  have h8 : x % 8 = 0 ∨ (x % 8 = 1 ∨ x % 8 = 7) ∨ x % 8 = 2 ∨ (x % 8 = 3 ∨ x % 8 = 4) ∨ (x % 8 = 5 ∨ x % 8 = 6) := by omega
  rcases h8 with h | h | h | h | h
  · as_aux_lemma =>
    have t0 : (x % 8 == 0) = true := by rw [h]; rfl
    clear h hq5
    go_wp2_with (go_at_call 28; refine (jnum_any _ w0 _ _ g n cap xs H (by omega)).mono ?_; rintro e w' ⟨V, g', n', cap', rfl, H', hne, hV, hn'⟩)
    go_ret2
    exact ⟨V, g', n', cap', q, rfl, H', val_lit hne hV, by omega, hq3, hq4⟩
  · as_aux_lemma =>
    have t0 : (x % 8 == 0) = false := by simp; omega
    have t1 : (x % 8 == 1) = true ∨ ((x % 8 == 1) = false ∧ (x % 8 == 7) = true) := by rcases h with h | h <;> simp [h]
    clear h hq5
    rcases t1 with t1 | ⟨t1, t7⟩
    all_goals
      go_wp2_with (go_at_call 29; refine (jstr_any a len acap q _ z w0 _ hr hlen hq4 (by omega) (by omega) g n cap xs H (by omega)).mono ?_; rintro e w' ⟨S, g', n', cap', p', rfl, H', hS, hn', hp1, hp2⟩)
      go_ret2
      exact ⟨34 :: (S ++ [34]), g', n', cap', p', rfl, H', val_str hS, by omega, by omega, by omega⟩
  · as_aux_lemma =>
    have t0 : (x % 8 == 0) = false := by rw [h]; rfl
    have t1 : (x % 8 == 1) = false := by rw [h]; rfl
    have t7 : (x % 8 == 7) = false := by rw [h]; rfl
    have t2 : (x % 8 == 2) = true := by rw [h]; rfl
    have h3 : x / 8 % 3 = 0 ∨ x / 8 % 3 = 1 ∨ x / 8 % 3 = 2 := by omega
    clear h hq5
    rcases h3 with h | h | h
    · have u0 : (x / 8 % 3 == 0) = true := by rw [h]; rfl
      clear h
      go_wp2_with (at_builtin; refine wpl_apps rfl _ _ rfl H rfl _ rfl 4 [116, 114, 117, 101] rfl cells_true (by simp) (by omega) ?_; intro g' cap' w' H')
      go_ret2
      exact ⟨_, g', _, cap', q, rfl, H', val_lit (by simp) lts_true, by omega, hq3, hq4⟩
    · have u0 : (x / 8 % 3 == 0) = false := by rw [h]; rfl
      have u1 : (x / 8 % 3 == 1) = true := by rw [h]; rfl
      clear h
      go_wp2_with (at_builtin; refine wpl_apps rfl _ _ rfl H rfl _ rfl 5 [102, 97, 108, 115, 101] rfl cells_false (by simp) (by omega) ?_; intro g' cap' w' H')
      go_ret2
      exact ⟨_, g', _, cap', q, rfl, H', val_lit (by simp) lts_false, by omega, hq3, hq4⟩
    · have u0 : (x / 8 % 3 == 0) = false := by rw [h]; rfl
      have u1 : (x / 8 % 3 == 1) = false := by rw [h]; rfl
      clear h
      go_wp2_with (at_builtin; refine wpl_apps rfl _ _ rfl H rfl _ rfl 4 [110, 117, 108, 108] rfl cells_null (by simp) (by omega) ?_; intro g' cap' w' H')
      go_ret2
      exact ⟨_, g', _, cap', q, rfl, H', val_lit (by simp) lts_null, by omega, hq3, hq4⟩
  · as_aux_lemma =>
    have t0 : (x % 8 == 0) = false := by simp; omega
    have t1 : (x % 8 == 1) = false := by simp; omega
    have t7 : (x % 8 == 7) = false := by simp; omega
    have t2 : (x % 8 == 2) = false := by simp; omega
    have t3 : (x % 8 == 3) = true ∨ ((x % 8 == 3) = false ∧ (x % 8 == 4) = true) := by rcases h with h | h <;> simp [h]
    have hpq : p < q := by
      rcases Nat.lt_or_ge p q with h1 | h1
      · exact h1
      · have := hq5 (by omega); omega
    clear h hq5
    by_cases hdep : depth < 64
    · have hdi : (depth : Int) < 64 := by omega
      rcases t3 with t3 | ⟨t3, t4⟩
      all_goals
        as_aux_lemma =>
        go_wp2_with (at_builtin; refine wpl_app1 rfl _ _ rfl H rfl _ rfl (by omega) (by omega) (by omega) ?_; intro g1 cap1 w1 H1)
        clear H
        go_loopw [3, 11, 14] (fun v t u wr => ∃ (c r g m cap : Nat) (S : List Int), v = .slice (some ⟨g, 0, none⟩) m cap ∧ t = .int .i64 (r : Int) ∧ u = .int .i64 (c : Int) ∧ Own w0 w0.heap.size wr g m cap (xs ++ ([91] ++ S)) ∧ Seq S ∧ (c : Int) ≤ x / 8 % 4 ∧ m + 600 * q ≤ n + 1 + 194 * c + 600 * r ∧ q ≤ r ∧ r ≤ len) (fun _ _ u _ => 4 - (intOf u).toNat)
        case atStart => exact ⟨0, q, _, _, _, [], rfl, rfl, rfl, by simpa using H1, Seq.nil, by omega, by omega, by omega, hq4⟩
        case round => as_aux_lemma =>
          clear H1
          obtain ⟨c, r, g, m, cap, S, rfl, rfl, rfl, H, hS, hck, hm, hr1, hr2⟩ := hrel
          have HS : Hid (Seq S) := hS
          clear hS
          by_cases hlt : (c : Int) < x / 8 % 4
          · by_cases hc0 : 0 < c
            · go_upto_region 42 with (at_builtin; refine wpl_app1 rfl _ _ rfl H rfl _ rfl (by omega) (by omega) (by omega) ?_; intro g2 cap2 w2 H2)
              have C : Hid _ := IH.out hdep r g2 (m + 1) cap2 _ _ hr2 H2 (by omega)
              go_wp2_with (go_at_call 20; refine Calls.mono C.out ?_; rintro e w' ⟨V, g', n', cap', p', rfl, H', hV, hn', hp1, hp2⟩)
              have HV : Hid _ := hV.1
              clear hV C
              go_roundw
              case rel => exact ⟨c + 1, p', g', n', cap', S ++ ([44] ++ V), rfl, rfl, by go_num, own_re H' (by simp), HS.out.app (pl_comma.app HV.out), by omega, by omega, by omega, by omega⟩
              case measure => simp [intOf]; omega
            · have hcz : (c : Int) < 1 := by omega
              have C : Hid _ := IH.out hdep r g m cap _ _ hr2 H (by omega)
              clear hc0
              go_wp2_with (go_at_call 20; refine Calls.mono C.out ?_; rintro e w' ⟨V, g', n', cap', p', rfl, H', hV, hn', hp1, hp2⟩)
              have HV : Hid _ := hV.1
              clear hV C
              go_roundw
              case rel => exact ⟨c + 1, p', g', n', cap', S ++ V, rfl, rfl, by go_num, own_re H' (by simp), HS.out.app HV.out, by omega, by omega, by omega, by omega⟩
              case measure => simp [intOf]; omega
          · go_wp2_with (at_builtin; refine wpl_app1 rfl _ _ rfl H rfl _ rfl (by omega) (by omega) (by omega) ?_; intro g' cap' w' H')
            go_ret2
            exact ⟨91 :: (S ++ [93]), g', _, cap', r, rfl, own_re H' (by simp), val_box (.inr rfl) (.inr rfl) HS.out, by omega, by omega, by omega⟩
    · have hdi : (64 : Int) ≤ (depth : Int) := by omega
      rcases t3 with t3 | ⟨t3, t4⟩
      all_goals
        as_aux_lemma =>
        go_upto_region 43 with (at_builtin; refine wpl_app1 rfl _ _ rfl H rfl _ rfl (by omega) (by omega) (by omega) ?_; intro g1 cap1 w1 H1)
        clear H
        go_wp2_with (at_builtin; refine wpl_app1 rfl _ _ rfl H1 rfl _ rfl (by omega) (by omega) (by omega) ?_; intro g' cap' w' H')
        go_ret2
        exact ⟨91 :: ([] ++ [93]), g', _, cap', q, rfl, own_re H' (by simp), val_box (.inr rfl) (.inr rfl) Seq.nil, by omega, by omega, by omega⟩
  · as_aux_lemma =>
    have t0 : (x % 8 == 0) = false := by simp; omega
    have t1 : (x % 8 == 1) = false := by simp; omega
    have t7 : (x % 8 == 7) = false := by simp; omega
    have t2 : (x % 8 == 2) = false := by simp; omega
    have t3 : (x % 8 == 3) = false := by simp; omega
    have t4 : (x % 8 == 4) = false := by simp; omega
    have hpq : p < q := by
      rcases Nat.lt_or_ge p q with h1 | h1
      · exact h1
      · have := hq5 (by omega); omega
    clear h hq5
    by_cases hdep : depth < 64
    · as_aux_lemma =>
      have hdi : (depth : Int) < 64 := by omega
      go_wp2_with (at_builtin; refine wpl_app1 rfl _ _ rfl H rfl _ rfl (by omega) (by omega) (by omega) ?_; intro g1 cap1 w1 H1)
      clear H
      go_loopw [3, 11, 16] (fun v t u wr => ∃ (c r g m cap : Nat) (S : List Int), v = .slice (some ⟨g, 0, none⟩) m cap ∧ t = .int .i64 (r : Int) ∧ u = .int .i64 (c : Int) ∧ Own w0 w0.heap.size wr g m cap (xs ++ ([123] ++ S)) ∧ Seq S ∧ (c : Int) ≤ x / 8 % 4 ∧ m + 600 * q ≤ n + 1 + 194 * c + 600 * r ∧ q ≤ r ∧ r ≤ len) (fun _ _ u _ => 4 - (intOf u).toNat)
      case atStart => exact ⟨0, q, _, _, _, [], rfl, rfl, rfl, by simpa using H1, Seq.nil, by omega, by omega, by omega, hq4⟩
      case round => as_aux_lemma =>
        clear H1
        obtain ⟨c, r, g, m, cap, S, rfl, rfl, rfl, H, hS, hck, hm, hr1, hr2⟩ := hrel
        have HS : Hid (Seq S) := hS
        clear hS
        by_cases hlt : (c : Int) < x / 8 % 4
        · by_cases hc0 : 0 < c
          · as_aux_lemma =>
            go_upto_region 12 with (at_builtin; refine wpl_app1 rfl _ _ rfl H rfl _ rfl (by omega) (by omega) (by omega) ?_; intro g2 cap2 w2 H2)
            go_upto_region 14 with (go_at_call 27; refine (next_any a len acap r z w0 _ hr H2.bel hlen hr2).mono ?_; rintro e w' ⟨y, r', rfl, hy0, hy1, hr3, hr4, hr5, hw⟩; replace hw := hw.symm; subst hw)
            clear hr5
            go_upto_region 15 with (go_at_call 29; refine (jstr_any a len acap r' _ z w0 _ hr hlen hr4 (by omega) (by omega) _ _ _ _ H2 (by omega)).mono ?_; rintro e w3 ⟨U, g3, n3, cap3, r3, rfl, H3, hU, hn3, hr6, hr7⟩)
            have HU : Hid (Seq (34 :: (U ++ [34]))) := Seq.str hU
            clear hU
            go_upto_region 16 with (at_builtin; refine wpl_app1 rfl _ _ rfl H3 rfl _ rfl (by omega) (by omega) (by omega) ?_; intro g4 cap4 w4 H4)
            have C : Hid _ := IH.out hdep r3 g4 (n3 + 1) cap4 _ _ hr7 H4 (by omega)
            go_wp2_with (go_at_call 20; refine Calls.mono C.out ?_; rintro e w' ⟨V, g', n', cap', p', rfl, H', hV, hn', hp1, hp2⟩)
            have HV : Hid _ := hV.1
            clear hV C
            go_roundw
            case rel => exact ⟨c + 1, p', g', n', cap', S ++ ([44] ++ ((34 :: (U ++ [34])) ++ ([58] ++ V))), rfl, rfl, by go_num, own_re H' (by simp), HS.out.app (pl_comma.app (HU.out.app (pl_colon.app HV.out))), by omega, by omega, by omega, by omega⟩
            case measure => simp [intOf]; omega
          · as_aux_lemma =>
            have hcz : (c : Int) < 1 := by omega
            clear hc0
            go_upto_region 14 with (go_at_call 27; refine (next_any a len acap r z w0 _ hr H.bel hlen hr2).mono ?_; rintro e w' ⟨y, r', rfl, hy0, hy1, hr3, hr4, hr5, hw⟩; replace hw := hw.symm; subst hw)
            clear hr5
            go_upto_region 15 with (go_at_call 29; refine (jstr_any a len acap r' _ z w0 _ hr hlen hr4 (by omega) (by omega) _ _ _ _ H (by omega)).mono ?_; rintro e w3 ⟨U, g3, n3, cap3, r3, rfl, H3, hU, hn3, hr6, hr7⟩)
            have HU : Hid (Seq (34 :: (U ++ [34]))) := Seq.str hU
            clear hU
            go_upto_region 16 with (at_builtin; refine wpl_app1 rfl _ _ rfl H3 rfl _ rfl (by omega) (by omega) (by omega) ?_; intro g4 cap4 w4 H4)
            have C : Hid _ := IH.out hdep r3 g4 (n3 + 1) cap4 _ _ hr7 H4 (by omega)
            go_wp2_with (go_at_call 20; refine Calls.mono C.out ?_; rintro e w' ⟨V, g', n', cap', p', rfl, H', hV, hn', hp1, hp2⟩)
            have HV : Hid _ := hV.1
            clear hV C
            go_roundw
            case rel => exact ⟨c + 1, p', g', n', cap', S ++ ((34 :: (U ++ [34])) ++ ([58] ++ V)), rfl, rfl, by go_num, own_re H' (by simp), HS.out.app (HU.out.app (pl_colon.app HV.out)), by omega, by omega, by omega, by omega⟩
            case measure => simp [intOf]; omega
        · go_wp2_with (at_builtin; refine wpl_app1 rfl _ _ rfl H rfl _ rfl (by omega) (by omega) (by omega) ?_; intro g' cap' w' H')
          go_ret2
          exact ⟨123 :: (S ++ [125]), g', _, cap', r, rfl, own_re H' (by simp), val_box (.inl rfl) (.inl rfl) HS.out, by omega, by omega, by omega⟩
    · as_aux_lemma =>
      have hdi : (64 : Int) ≤ (depth : Int) := by omega
      go_upto_region 17 with (at_builtin; refine wpl_app1 rfl _ _ rfl H rfl _ rfl (by omega) (by omega) (by omega) ?_; intro g1 cap1 w1 H1)
      clear H
      go_wp2_with (at_builtin; refine wpl_app1 rfl _ _ rfl H1 rfl _ rfl (by omega) (by omega) (by omega) ?_; intro g' cap' w' H')
      go_ret2
      exact ⟨123 :: ([] ++ [125]), g', _, cap', q, rfl, own_re H' (by simp), val_box (.inl rfl) (.inl rfl) Seq.nil, by omega, by omega, by omega⟩

theorem jval_all (a : Option Addr) (len acap : Nat) (z : List Int) (w0 : World) (hr : IsRow .u8 w0 a len acap z) (hlen : len ≤ 4096) : ∀ (K depth : Nat), depth + K = 64 → JAt a len acap w0 (depth : Int)
  | 0, depth, h => jval_step a len acap z w0 hr hlen depth (by omega) (fun h' => by omega)
  | K + 1, depth, h => jval_step a len acap z w0 hr hlen depth (by omega) (fun _ => jval_all a len acap z w0 hr hlen K (depth + 1) (by omega))

end Go.Proofs.Qxb6600660a
