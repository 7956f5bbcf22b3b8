import Derived.Test.Qxb6600660aJVal
import Derived.Test.Qxb6600660aValWalk
namespace Go.Proofs.Qxb6600660a
open Go.RowKit

theorem valueEnd_ve (b off n cap i r : Nat) (f : Nat → Int) (w : World) (hB : Bts w b off n f) (hn : n ≤ 100000000) (h : VE f n i r) :
    Calls Try.prog 30 #[.slice (some ⟨b, off, none⟩) n cap, .int .i64 (i : Int)] w fun e w' => e = .returned (.int .i64 (r : Int)) ∧ w' = w := by
  rcases h with ⟨hi, ⟨h1, h2, h3, h4⟩ | ⟨h1, m, h2⟩ | ⟨h1, m, h2⟩⟩
  · rw [← h4]; exact valueEnd_lit b off n cap i f w hB hn hi h1 h2 h3
  · exact valueEnd_str b off n cap i m r f w hB hn hi h1 h2
  · exact valueEnd_con b off n cap i m r f w hB hn hi h1 h2
theorem zzve (b off n cap i r : Nat) (f : Nat → Int) (w : World) (hB : Bts w b off n f) (hn : n ≤ 100000000) (h : VE f n i r) :
    Calls Try.prog 21 #[.slice (some ⟨b, off, none⟩) n cap, .int .i64 (i : Int)] w fun e w' => e = .returned (.int .i64 (r : Int)) ∧ w' = w := by
  have H : Hid _ := valueEnd_ve b off n cap i r f w hB hn h
  clear h
  go_enter Try.func21, Try.ntmps21
  go_wp2_with (go_at_call 30; refine Calls.mono H.out ?_; rintro e w' ⟨rfl, rfl⟩)
  go_ret
  exact ⟨rfl, rfl⟩

set_option maxHeartbeats 1000000 in
theorem zz19_no (a0 a1 a3 : Option Addr) (l0 l1 l3 c0 c1 c3 : Nat) (a2 : Int) (w : World) (h : 1048576 < l0 + l1 + l3) :
    Calls Try.prog 19 #[.slice a0 l0 c0, .slice a1 l1 c1, .int .u8 a2, .slice a3 l3 c3] w fun e w' => e = .returned (.bool false) ∧ w' = w := by
  go_enter Try.func19, Try.ntmps19
  go_wp2
  all_goals
    go_ret
    exact ⟨rfl, rfl⟩
set_option maxHeartbeats 1000000 in
theorem zz19_yes (a0 a1 a3 : Option Addr) (l0 l1 l3 c0 c1 c3 : Nat) (a2 : Int) (w : World) (h : l0 + l1 + l3 ≤ 1048576) :
    Calls Try.prog 19 #[.slice a0 l0 c0, .slice a1 l1 c1, .int .u8 a2, .slice a3 l3 c3] w fun e w' => e = .returned (.bool true) ∧ w' = w := by
  go_enter Try.func19, Try.ntmps19
  go_wp2
  go_ret
  exact ⟨rfl, rfl⟩
theorem walk8_long (a0 a1 a3 : Option Addr) (l0 l1 l3 c0 c1 c3 : Nat) (a2 : Int) (w : World) (h : 1048576 < l0 + l1 + l3) :
    Calls Try.prog 8 #[.slice a0 l0 c0, .slice a1 l1 c1, .int .u8 a2, .slice a3 l3 c3] w fun e w' => e = .returned (.bool true) ∧ Below w.heap.size w w' := by
  go_enter Try.func8, Try.ntmps8
  go_wp2_with (go_at_call 19; refine (zz19_no _ _ _ _ _ _ _ _ _ _ _ h).mono ?_; rintro e w' ⟨rfl, hw⟩; replace hw := hw.symm; subst hw)
  go_ret
  exact ⟨rfl, Below.refl _ _⟩
theorem walk8_big (a0 a1 a3 : Option Addr) (l0 l1 l3 c0 c1 c3 : Nat) (a2 : Int) (w : World) (h : l0 + l1 + l3 ≤ 1048576) (hb : 65536 < l0 ∨ (l0 ≤ 65536 ∧ 4096 < l1) ∨ (l0 ≤ 65536 ∧ l1 ≤ 4096 ∧ 65536 < l3)) :
    Calls Try.prog 8 #[.slice a0 l0 c0, .slice a1 l1 c1, .int .u8 a2, .slice a3 l3 c3] w fun e w' => e = .returned (.bool true) ∧ Below w.heap.size w w' := by
  rcases hb with hb | ⟨hb1, hb⟩ | ⟨hb1, hb2, hb⟩
  all_goals
    go_enter Try.func8, Try.ntmps8
    go_wp2_with (go_at_call 19; refine (zz19_yes _ _ _ _ _ _ _ _ _ _ _ h).mono ?_; rintro e w' ⟨rfl, hw⟩; replace hw := hw.symm; subst hw)
    go_ret
    exact ⟨rfl, Below.refl _ _⟩

theorem dlm_nil : Dlm [] := by intro c r e; cases e
theorem dlm_cons {c : Int} {R : List Int} (h : c = 44 ∨ c = 125 ∨ c = 93) : Dlm ([c] ++ R) := by
  intro c' r e
  simp at e
  rw [← e.1]
  exact h
theorem ve_none {X0 V : List Int} {l0 n : Nat} (h0 : X0.length = l0) (hV : Val V) (hn : (X0 ++ V).length = n) : VE (bt (X0 ++ V)) n l0 n := by
  subst h0 hn
  have := hV.2 (X0 ++ V) X0.length [] (by simpa using At.start X0 V) dlm_nil
  rw [List.length_append]
  rw [List.length_append] at this
  exact this
theorem ve_some {X0 V R : List Int} {c : Int} {l0 n n' : Nat} (h0 : X0.length = l0) (hV : Val V) (hc : c = 44 ∨ c = 125 ∨ c = 93) (hn : (X0 ++ V).length = n) (hn' : (X0 ++ V ++ [c] ++ R).length = n') : VE (bt (X0 ++ V ++ [c] ++ R)) n' l0 n := by
  subst h0 hn hn'
  have ha : At (X0 ++ V ++ [c] ++ R) X0.length (V ++ ([c] ++ R)) := by
    rw [show X0 ++ V ++ [c] ++ R = X0 ++ (V ++ ([c] ++ R)) by simp]
    exact At.start _ _
  have := hV.2 _ _ _ ha (dlm_cons hc)
  rw [show (X0 ++ V).length = X0.length + V.length from List.length_append]
  exact this

set_option maxHeartbeats 2000000 in
set_option maxRecDepth 10000 in
theorem walk8 (a0 a1 a3 : Option Addr) (l0 l1 l3 c0 c1 c3 : Nat) (a2 : Int) (z0 z1 z3 : List Int) (w : World) (r0 : IsRow .u8 w a0 l0 c0 z0) (r1 : IsRow .u8 w a1 l1 c1 z1) (r3 : IsRow .u8 w a3 l3 c3 z3)
    (w2 : 0 ≤ a2) (w2' : a2 ≤ 255) (h0 : l0 ≤ 65536) (h1 : l1 ≤ 4096) (h3 : l3 ≤ 65536) :
    Calls Try.prog 8 #[.slice a0 l0 c0, .slice a1 l1 c1, .int .u8 a2, .slice a3 l3 c3] w fun e w' => e = .returned (.bool true) ∧ Below w.heap.size w w' := by
  go_enter Try.func8, Try.ntmps8
  go_upto_region 8 with (first | (go_at_call 19; refine (zz19_yes _ _ _ _ _ _ _ _ _ _ _ (by omega)).mono ?_; rintro e w' ⟨rfl, hw⟩; replace hw := hw.symm; subst hw) | (at_make; refine wpl_make0 (w0 := w) (B := w.heap.size) rfl _ _ rfl rfl _ rfl l0 (by omega) (by omega) (Below.refl _ _) (Nat.le_refl _) ?_; intro w1 H1) | (at_builtin; refine wpl_app_in rfl _ _ rfl H1 rfl a0 l0 c0 rfl z0 r0 (by omega) ?_; intro g cap w2 H))
  simp only [Nat.zero_add, List.nil_append] at H
  clear H1
  have C : Hid (Calls Try.prog 20 #[.slice a1 l1 c1, .int .i64 0, .int .i64 0, .slice (some ⟨g, 0, none⟩) l0 cap] w2 (JPost w (z0.take l0) l0 0 l1)) := jval_all a1 l1 c1 z1 w r1 h1 64 0 rfl 0 g l0 cap _ _ (by omega) H (by omega)
  go_upto_region 10 with (go_at_call 20; refine Calls.mono C.out ?_; rintro e w' ⟨V, g1, n1, cap1, p1, rfl, H1, hV, hn1, hp1, hp2⟩)
  clear H C
  have HV : Hid (Val V) := hV
  have HL : Hid ((z0.take l0 ++ V).length = n1) := H1.len
  have h0l : Hid ((z0.take l0).length = l0) := r0.len_le
  clear hV
  have h4 : a2 % 4 = 0 ∨ a2 % 4 = 1 ∨ a2 % 4 = 2 ∨ a2 % 4 = 3 := by omega
  rcases h4 with h | h | h | h
  · as_aux_lemma =>
    have t1 : (a2 % 4 == 1) = false := by rw [h]; rfl
    have t2 : (a2 % 4 == 2) = false := by rw [h]; rfl
    have t3 : (a2 % 4 == 3) = false := by rw [h]; rfl
    have t0 : (a2 % 4 != 0) = false := by rw [h]; rfl
    clear h
    have C2 : Hid _ := zzve g1 0 n1 cap1 l0 n1 _ w' H1.bts (by omega) (ve_none h0l.out HV.out HL.out)
    go_wp2_with (go_at_call 21; refine Calls.mono C2.out ?_; rintro e w'' ⟨rfl, hw⟩; replace hw := hw.symm; subst hw)
    go_ret
    exact ⟨ret_true (by simp), H1.bel⟩
  · as_aux_lemma =>
    have t1 : (a2 % 4 == 1) = true := by rw [h]; rfl
    have t0 : (a2 % 4 != 0) = true := by rw [h]; rfl
    clear h
    go_upto_region 17 with (at_builtin; refine wpl_app1 rfl _ _ rfl H1 rfl _ rfl (by omega) (by omega) (by omega) ?_; intro g2 cap2 w3 H2)
    go_upto_region 19 with (at_builtin; refine wpl_app_in rfl _ _ rfl H2 rfl a3 l3 c3 rfl z3 r3 (by omega) ?_; intro g4 cap4 w4 H4)
    have C2 : Hid _ := zzve g4 0 (n1 + 1 + l3) cap4 l0 n1 _ w4 H4.bts (by omega) (ve_some h0l.out HV.out (.inl rfl) HL.out H4.len)
    go_wp2_with (go_at_call 21; refine Calls.mono C2.out ?_; rintro e w'' ⟨rfl, hw⟩; replace hw := hw.symm; subst hw)
    go_ret
    exact ⟨ret_true (by simp), H4.bel⟩
  · as_aux_lemma =>
    have t1 : (a2 % 4 == 1) = false := by rw [h]; rfl
    have t2 : (a2 % 4 == 2) = true := by rw [h]; rfl
    have t0 : (a2 % 4 != 0) = true := by rw [h]; rfl
    clear h
    go_upto_region 17 with (at_builtin; refine wpl_app1 rfl _ _ rfl H1 rfl _ rfl (by omega) (by omega) (by omega) ?_; intro g2 cap2 w3 H2)
    go_upto_region 19 with (at_builtin; refine wpl_app_in rfl _ _ rfl H2 rfl a3 l3 c3 rfl z3 r3 (by omega) ?_; intro g4 cap4 w4 H4)
    have C2 : Hid _ := zzve g4 0 (n1 + 1 + l3) cap4 l0 n1 _ w4 H4.bts (by omega) (ve_some h0l.out HV.out (.inr (.inr rfl)) HL.out H4.len)
    go_wp2_with (go_at_call 21; refine Calls.mono C2.out ?_; rintro e w'' ⟨rfl, hw⟩; replace hw := hw.symm; subst hw)
    go_ret
    exact ⟨ret_true (by simp), H4.bel⟩
  · as_aux_lemma =>
    have t1 : (a2 % 4 == 1) = false := by rw [h]; rfl
    have t2 : (a2 % 4 == 2) = false := by rw [h]; rfl
    have t3 : (a2 % 4 == 3) = true := by rw [h]; rfl
    have t0 : (a2 % 4 != 0) = true := by rw [h]; rfl
    clear h
    go_upto_region 17 with (at_builtin; refine wpl_app1 rfl _ _ rfl H1 rfl _ rfl (by omega) (by omega) (by omega) ?_; intro g2 cap2 w3 H2)
    go_upto_region 19 with (at_builtin; refine wpl_app_in rfl _ _ rfl H2 rfl a3 l3 c3 rfl z3 r3 (by omega) ?_; intro g4 cap4 w4 H4)
    have C2 : Hid _ := zzve g4 0 (n1 + 1 + l3) cap4 l0 n1 _ w4 H4.bts (by omega) (ve_some h0l.out HV.out (.inr (.inl rfl)) HL.out H4.len)
    go_wp2_with (go_at_call 21; refine Calls.mono C2.out ?_; rintro e w'' ⟨rfl, hw⟩; replace hw := hw.symm; subst hw)
    go_ret
    exact ⟨ret_true (by simp), H4.bel⟩

theorem walk8_all (a0 : Option Addr) (l0 c0 : Nat) (z0 : List Int) (a1 : Option Addr) (l1 c1 : Nat) (z1 : List Int) (a2 : Int) (a3 : Option Addr) (l3 c3 : Nat) (z3 : List Int) (w : World) (r0 : IsRow .u8 w a0 l0 c0 z0) (r1 : IsRow .u8 w a1 l1 c1 z1) (w2 : (Lit.int .u8 a2).wf = true) (r3 : IsRow .u8 w a3 l3 c3 z3) :
    Calls Try.prog 8 #[.slice a0 l0 c0, .slice a1 l1 c1, .int .u8 a2, .slice a3 l3 c3] w fun e w' => e = .returned (.bool true) ∧ Below w.heap.size w w' := by
  by_cases h : l0 + l1 + l3 ≤ 1048576
  · by_cases hb : l0 ≤ 65536 ∧ l1 ≤ 4096 ∧ l3 ≤ 65536
    · exact walk8 a0 a1 a3 l0 l1 l3 c0 c1 c3 a2 z0 z1 z3 w r0 r1 r3 (bounds_u8 w2).1 (bounds_u8 w2).2 hb.1 hb.2.1 hb.2.2
    · exact walk8_big a0 a1 a3 l0 l1 l3 c0 c1 c3 a2 w h (by omega)
  · exact walk8_long a0 a1 a3 l0 l1 l3 c0 c1 c3 a2 w (by omega)

end Go.Proofs.Qxb6600660a
