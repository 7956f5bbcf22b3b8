import Derived.Test.Qxb6600660aJNum
namespace Go.Proofs.Qxb6600660a
open Go.RowKit

theorem cells_u : Lib.strCells { data := #[92, 117, 48, 48, 52, 49] } = [92, 117, 48, 48, 52, 49].map (Value.int .u8) := rfl
theorem own_assoc {w0 w : World} {B g n cap : Nat} {xs S U : List Int} (h : Own w0 B w g n cap (xs ++ ([34] ++ S) ++ U)) : Own w0 B w g n cap (xs ++ ([34] ++ (S ++ U))) := by
  simpa using h
theorem body_one {c : Int} (h1 : c ≠ 92) (h2 : c ≠ 34) : body [c] = true := by rw [body_cons, if_neg h1]; simp [body, h2]

set_option maxHeartbeats 4000000 in
set_option maxRecDepth 10000 in
theorem jstr_any (a : Option Addr) (len acap p : Nat) (k : Int) (z : List Int) (w0 w : World) (hr : IsRow .u8 w0 a len acap z) (hlen : len ≤ 4096) (hp : p ≤ len) (hk0 : 0 ≤ k) (hk : k ≤ 15)
    (g n cap : Nat) (xs : List Int) (H : Own w0 w0.heap.size w g n cap xs) (hn : n ≤ 90000000) :
    Calls Try.prog 29 #[.slice a len acap, .int .i64 (p : Int), .int .u8 k, .slice (some ⟨g, 0, none⟩) n cap] w fun e w' => ∃ (S : List Int) (g' n' cap' p' : Nat),
      e = .returned (.tuple #[.slice (some ⟨g', 0, none⟩) n' cap', .int .i64 (p' : Int)]) ∧ Own w0 w0.heap.size w' g' n' cap' (xs ++ (34 :: (S ++ [34]))) ∧ body S = true ∧ n' ≤ n + 92 ∧ p ≤ p' ∧ p' ≤ len := by
  go_enter Try.func29, Try.ntmps29
  go_wp2_with (at_builtin; refine wpl_app1 rfl _ _ rfl H rfl _ rfl (by omega) (by omega) (by omega) ?_; intro g1 cap1 w1 H1)
  clear H
  go_loopw [3, 10, 11] (fun v t u wr => ∃ (c q g m cap : Nat) (S : List Int), v = .slice (some ⟨g, 0, none⟩) m cap ∧ t = .int .i64 (q : Int) ∧ u = .int .i64 (c : Int) ∧ Own w0 w0.heap.size wr g m cap (xs ++ ([34] ++ S)) ∧ body S = true ∧ (c : Int) ≤ k ∧ m ≤ n + 1 + 6 * c ∧ p ≤ q ∧ q ≤ len) (fun _ _ u _ => k.toNat - (intOf u).toNat)
  case atStart => exact ⟨0, p, _, _, _, [], rfl, rfl, rfl, by simpa using H1, rfl, by omega, by omega, by omega, hp⟩
  case round => as_aux_lemma =>
    clear H1
    obtain ⟨c, q, g, m, cap, S, rfl, rfl, rfl, H, hS, hck, hm, hq1, hq2⟩ := hrel
    have HS : Hid (body S = true) := hS
    clear hS
    by_cases hlt : (c : Int) < k
    · go_upto_region 8 with (go_at_call 27; refine (next_any a len acap q z w0 _ hr H.bel hlen hq2).mono ?_; rintro e w' ⟨x, q', rfl, hx0, hx1, hq3, hq4, hq5, hw⟩; replace hw := hw.symm; subst hw)
      clear hq5
      have h12 : x % 12 = 0 ∨ x % 12 = 1 ∨ x % 12 = 2 ∨ x % 12 = 3 ∨ x % 12 = 4 ∨ x % 12 = 5 ∨ x % 12 = 6 ∨ x % 12 = 7 ∨ x % 12 = 8 ∨ x % 12 = 9 ∨ x % 12 = 10 ∨ x % 12 = 11 := by omega
      rcases h12 with h | h | h | h | h | h | h | h | h | h | h | h
      · as_aux_lemma =>
        have t0 : (x % 12 == 0) = true := by rw [h]; rfl
        clear h
        go_wp2_with (at_builtin; refine wpl_app2 rfl _ _ rfl H rfl _ _ rfl (by omega) (by omega) (by omega) (by omega) (by omega) ?_; intro g' cap' w' H')
        go_roundw
        case rel => exact ⟨c + 1, q', g', _, cap', S ++ [92, 34], rfl, rfl, by go_num, own_assoc H', body_append HS.out (by decide), by omega, by omega, by omega, by omega⟩
        case measure => simp [intOf]; omega
      · as_aux_lemma =>
        have t0 : (x % 12 == 0) = false := by rw [h]; rfl
        have t1 : (x % 12 == 1) = true := by rw [h]; rfl
        clear h
        go_wp2_with (at_builtin; refine wpl_app2 rfl _ _ rfl H rfl _ _ rfl (by omega) (by omega) (by omega) (by omega) (by omega) ?_; intro g' cap' w' H')
        go_roundw
        case rel => exact ⟨c + 1, q', g', _, cap', S ++ [92, 92], rfl, rfl, by go_num, own_assoc H', body_append HS.out (by decide), by omega, by omega, by omega, by omega⟩
        case measure => simp [intOf]; omega
      · as_aux_lemma =>
        have t0 : (x % 12 == 0) = false := by rw [h]; rfl
        have t1 : (x % 12 == 1) = false := by rw [h]; rfl
        have t2 : (x % 12 == 2) = true := by rw [h]; rfl
        clear h
        go_wp2_with (at_builtin; refine wpl_app1 rfl _ _ rfl H rfl _ rfl (by omega) (by omega) (by omega) ?_; intro g' cap' w' H')
        go_roundw
        case rel => exact ⟨c + 1, q', g', _, cap', S ++ [93], rfl, rfl, by go_num, own_assoc H', body_append HS.out (by decide), by omega, by omega, by omega, by omega⟩
        case measure => simp [intOf]; omega
      · as_aux_lemma =>
        have t0 : (x % 12 == 0) = false := by rw [h]; rfl
        have t1 : (x % 12 == 1) = false := by rw [h]; rfl
        have t2 : (x % 12 == 2) = false := by rw [h]; rfl
        have t3 : (x % 12 == 3) = true := by rw [h]; rfl
        clear h
        go_wp2_with (at_builtin; refine wpl_app1 rfl _ _ rfl H rfl _ rfl (by omega) (by omega) (by omega) ?_; intro g' cap' w' H')
        go_roundw
        case rel => exact ⟨c + 1, q', g', _, cap', S ++ [125], rfl, rfl, by go_num, own_assoc H', body_append HS.out (by decide), by omega, by omega, by omega, by omega⟩
        case measure => simp [intOf]; omega
      · as_aux_lemma =>
        have t0 : (x % 12 == 0) = false := by rw [h]; rfl
        have t1 : (x % 12 == 1) = false := by rw [h]; rfl
        have t2 : (x % 12 == 2) = false := by rw [h]; rfl
        have t3 : (x % 12 == 3) = false := by rw [h]; rfl
        have t4 : (x % 12 == 4) = true := by rw [h]; rfl
        clear h
        go_wp2_with (at_builtin; refine wpl_app1 rfl _ _ rfl H rfl _ rfl (by omega) (by omega) (by omega) ?_; intro g' cap' w' H')
        go_roundw
        case rel => exact ⟨c + 1, q', g', _, cap', S ++ [44], rfl, rfl, by go_num, own_assoc H', body_append HS.out (by decide), by omega, by omega, by omega, by omega⟩
        case measure => simp [intOf]; omega
      · as_aux_lemma =>
        have t0 : (x % 12 == 0) = false := by rw [h]; rfl
        have t1 : (x % 12 == 1) = false := by rw [h]; rfl
        have t2 : (x % 12 == 2) = false := by rw [h]; rfl
        have t3 : (x % 12 == 3) = false := by rw [h]; rfl
        have t4 : (x % 12 == 4) = false := by rw [h]; rfl
        have t5 : (x % 12 == 5) = true := by rw [h]; rfl
        clear h
        go_wp2_with (at_builtin; refine wpl_app1 rfl _ _ rfl H rfl _ rfl (by omega) (by omega) (by omega) ?_; intro g' cap' w' H')
        go_roundw
        case rel => exact ⟨c + 1, q', g', _, cap', S ++ [91], rfl, rfl, by go_num, own_assoc H', body_append HS.out (by decide), by omega, by omega, by omega, by omega⟩
        case measure => simp [intOf]; omega
      · as_aux_lemma =>
        have t0 : (x % 12 == 0) = false := by rw [h]; rfl
        have t1 : (x % 12 == 1) = false := by rw [h]; rfl
        have t2 : (x % 12 == 2) = false := by rw [h]; rfl
        have t3 : (x % 12 == 3) = false := by rw [h]; rfl
        have t4 : (x % 12 == 4) = false := by rw [h]; rfl
        have t5 : (x % 12 == 5) = false := by rw [h]; rfl
        have t6 : (x % 12 == 6) = true := by rw [h]; rfl
        clear h
        go_wp2_with (at_builtin; refine wpl_app1 rfl _ _ rfl H rfl _ rfl (by omega) (by omega) (by omega) ?_; intro g' cap' w' H')
        go_roundw
        case rel => exact ⟨c + 1, q', g', _, cap', S ++ [123], rfl, rfl, by go_num, own_assoc H', body_append HS.out (by decide), by omega, by omega, by omega, by omega⟩
        case measure => simp [intOf]; omega
      · as_aux_lemma =>
        have t0 : (x % 12 == 0) = false := by rw [h]; rfl
        have t1 : (x % 12 == 1) = false := by rw [h]; rfl
        have t2 : (x % 12 == 2) = false := by rw [h]; rfl
        have t3 : (x % 12 == 3) = false := by rw [h]; rfl
        have t4 : (x % 12 == 4) = false := by rw [h]; rfl
        have t5 : (x % 12 == 5) = false := by rw [h]; rfl
        have t6 : (x % 12 == 6) = false := by rw [h]; rfl
        have t7 : (x % 12 == 7) = true := by rw [h]; rfl
        clear h
        go_wp2_with (at_builtin; refine wpl_app2 rfl _ _ rfl H rfl _ _ rfl (by omega) (by omega) (by omega) (by omega) (by omega) ?_; intro g' cap' w' H')
        go_roundw
        case rel => exact ⟨c + 1, q', g', _, cap', S ++ [92, 110], rfl, rfl, by go_num, own_assoc H', body_append HS.out (by decide), by omega, by omega, by omega, by omega⟩
        case measure => simp [intOf]; omega
      · as_aux_lemma =>
        have t0 : (x % 12 == 0) = false := by rw [h]; rfl
        have t1 : (x % 12 == 1) = false := by rw [h]; rfl
        have t2 : (x % 12 == 2) = false := by rw [h]; rfl
        have t3 : (x % 12 == 3) = false := by rw [h]; rfl
        have t4 : (x % 12 == 4) = false := by rw [h]; rfl
        have t5 : (x % 12 == 5) = false := by rw [h]; rfl
        have t6 : (x % 12 == 6) = false := by rw [h]; rfl
        have t7 : (x % 12 == 7) = false := by rw [h]; rfl
        have t8 : (x % 12 == 8) = true := by rw [h]; rfl
        clear h
        go_wp2_with (at_builtin; refine wpl_apps rfl _ _ rfl H rfl _ rfl 6 [92, 117, 48, 48, 52, 49] rfl cells_u (by simp) (by omega) ?_; intro g' cap' w' H')
        go_roundw
        case rel => exact ⟨c + 1, q', g', _, cap', S ++ [92, 117, 48, 48, 52, 49], rfl, rfl, by go_num, own_assoc H', body_append HS.out (by decide), by omega, by omega, by omega, by omega⟩
        case measure => simp [intOf]; omega
      · as_aux_lemma =>
        have t0 : (x % 12 == 0) = false := by rw [h]; rfl
        have t1 : (x % 12 == 1) = false := by rw [h]; rfl
        have t2 : (x % 12 == 2) = false := by rw [h]; rfl
        have t3 : (x % 12 == 3) = false := by rw [h]; rfl
        have t4 : (x % 12 == 4) = false := by rw [h]; rfl
        have t5 : (x % 12 == 5) = false := by rw [h]; rfl
        have t6 : (x % 12 == 6) = false := by rw [h]; rfl
        have t7 : (x % 12 == 7) = false := by rw [h]; rfl
        have t8 : (x % 12 == 8) = false := by rw [h]; rfl
        have t9 : (x % 12 == 9) = true := by rw [h]; rfl
        clear h
        go_wp2_with (at_builtin; refine wpl_app2 rfl _ _ rfl H rfl _ _ rfl (by omega) (by omega) (by omega) (by omega) (by omega) ?_; intro g' cap' w' H')
        go_roundw
        case rel => exact ⟨c + 1, q', g', _, cap', S ++ [195, 169], rfl, rfl, by go_num, own_assoc H', body_append HS.out (by decide), by omega, by omega, by omega, by omega⟩
        case measure => simp [intOf]; omega
      · as_aux_lemma =>
        have t0 : (x % 12 == 0) = false := by rw [h]; rfl
        have t1 : (x % 12 == 1) = false := by rw [h]; rfl
        have t2 : (x % 12 == 2) = false := by rw [h]; rfl
        have t3 : (x % 12 == 3) = false := by rw [h]; rfl
        have t4 : (x % 12 == 4) = false := by rw [h]; rfl
        have t5 : (x % 12 == 5) = false := by rw [h]; rfl
        have t6 : (x % 12 == 6) = false := by rw [h]; rfl
        have t7 : (x % 12 == 7) = false := by rw [h]; rfl
        have t8 : (x % 12 == 8) = false := by rw [h]; rfl
        have t9 : (x % 12 == 9) = false := by rw [h]; rfl
        have t10 : (x % 12 == 10) = true := by rw [h]; rfl
        clear h
        go_wp2_with (at_builtin; refine wpl_app1 rfl _ _ rfl H rfl _ rfl (by omega) (by omega) (by omega) ?_; intro g' cap' w' H')
        go_roundw
        case rel => exact ⟨c + 1, q', g', _, cap', S ++ [58], rfl, rfl, by go_num, own_assoc H', body_append HS.out (by decide), by omega, by omega, by omega, by omega⟩
        case measure => simp [intOf]; omega
      · as_aux_lemma =>
        have t0 : (x % 12 == 0) = false := by rw [h]; rfl
        have t1 : (x % 12 == 1) = false := by rw [h]; rfl
        have t2 : (x % 12 == 2) = false := by rw [h]; rfl
        have t3 : (x % 12 == 3) = false := by rw [h]; rfl
        have t4 : (x % 12 == 4) = false := by rw [h]; rfl
        have t5 : (x % 12 == 5) = false := by rw [h]; rfl
        have t6 : (x % 12 == 6) = false := by rw [h]; rfl
        have t7 : (x % 12 == 7) = false := by rw [h]; rfl
        have t8 : (x % 12 == 8) = false := by rw [h]; rfl
        have t9 : (x % 12 == 9) = false := by rw [h]; rfl
        have t10 : (x % 12 == 10) = false := by rw [h]; rfl
        clear h
        go_wp2_with (at_builtin; refine wpl_app1 rfl _ _ rfl H rfl _ rfl (by omega) (by omega) (by omega) ?_; intro g' cap' w' H')
        go_roundw
        case rel => exact ⟨c + 1, q', g', _, cap', S ++ [97 + x / 16 % 16], rfl, rfl, by go_num, own_assoc H', body_append HS.out (body_one (by omega) (by omega)), by omega, by omega, by omega, by omega⟩
        case measure => simp [intOf]; omega
    · go_wp2_with (at_builtin; refine wpl_app1 rfl _ _ rfl H rfl _ rfl (by omega) (by omega) (by omega) ?_; intro g' cap' w' H')
      go_ret2
      exact ⟨S, g', _, cap', q, rfl, by simpa using H', HS.out, by omega, hq1, hq2⟩

end Go.Proofs.Qxb6600660a
