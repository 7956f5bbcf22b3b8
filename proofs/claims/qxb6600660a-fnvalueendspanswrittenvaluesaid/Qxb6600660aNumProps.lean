import Derived.Test.Qxb6600660aNum
namespace Go.Proofs.Qxb6600660a

/-! ### 'number' read from another place on, and with its tail cut away (plain functions: no Go here) -/

/-- The bytes from place s on. -/
def sh (f : Nat → Int) (s : Nat) (k : Nat) : Int := f (k + s)
/-- -1 stays; a place moves by s. -/
def shI (s : Nat) (x : Int) : Int := if x = -1 then -1 else x + s

theorem dig_sh (f : Nat → Int) (s : Nat) : ∀ m j, dig f m (j + s) = dig (sh f s) m j + s
  | 0, j => rfl
  | m + 1, j => by
    rw [dig, dig]
    show (if 48 ≤ f (j + s) ∧ f (j + s) ≤ 57 then _ else _) = (if 48 ≤ f (j + s) ∧ f (j + s) ≤ 57 then _ else _) + s
    split
    · rw [show j + s + 1 = j + 1 + s by omega]; exact dig_sh f s m (j + 1)
    · rfl
theorem digE_sh (f : Nat → Int) (s n j : Nat) : digE f (n + s) (j + s) = digE (sh f s) n j + s := by
  unfold digE
  rw [show n + s - (j + s) = n - j by omega]
  exact dig_sh f s _ j
theorem shI_nat (s k : Nat) : shI s (k : Int) = ((k + s : Nat) : Int) := by unfold shI; rw [if_neg (by omega)]; omega
theorem shI_neg (s : Nat) : shI s (-1) = -1 := rfl
theorem expD_sh (f : Nat → Int) (s n j : Nat) : expD f (n + s) (j + s) = shI s (expD (sh f s) n j) := by
  unfold expD
  rw [digE_sh]
  by_cases h : digE (sh f s) n j = j
  · rw [if_pos h, if_pos (by omega)]; rfl
  · rw [if_neg h, if_neg (by omega), shI_nat]
theorem signF_sh (f : Nat → Int) (s n j : Nat) : signF f (n + s) (j + s) = signF (sh f s) n j + s := by
  unfold signF
  by_cases h : j < n ∧ (sh f s j = 43 ∨ sh f s j = 45)
  · rw [if_pos h, if_pos ⟨by omega, h.2⟩]; omega
  · rw [if_neg h, if_neg (fun h' => h ⟨by omega, h'.2⟩)]
theorem expF_sh (f : Nat → Int) (s n j : Nat) : expF f (n + s) (j + s) = shI s (expF (sh f s) n j) := by
  unfold expF
  by_cases h : j < n ∧ (sh f s j = 101 ∨ sh f s j = 69)
  · rw [if_pos h, if_pos ⟨by omega, h.2⟩, show j + s + 1 = j + 1 + s by omega, signF_sh, expD_sh]
  · rw [if_neg h, if_neg (fun h' => h ⟨by omega, h'.2⟩), shI_nat]
theorem fracF_sh (f : Nat → Int) (s n j : Nat) : fracF f (n + s) (j + s) = shI s (fracF (sh f s) n j) := by
  unfold fracF
  by_cases h : j < n ∧ sh f s j = 46
  · rw [if_pos h, if_pos ⟨by omega, h.2⟩, show j + s + 1 = j + 1 + s by omega, digE_sh]
    by_cases h2 : digE (sh f s) n (j + 1) = j + 1
    · rw [if_pos h2, if_pos (by omega)]; rfl
    · rw [if_neg h2, if_neg (by omega), expF_sh]
  · rw [if_neg h, if_neg (fun h' => h ⟨by omega, h'.2⟩), expF_sh]
theorem intF_sh (f : Nat → Int) (s n j : Nat) : intF f (n + s) (j + s) = shI s (intF (sh f s) n j) := by
  unfold intF
  by_cases h : j < n ∧ sh f s j = 48
  · rw [if_pos h, if_pos ⟨by omega, h.2⟩, show j + s + 1 = j + 1 + s by omega, fracF_sh]
  · rw [if_neg h, if_neg (fun h' => h ⟨by omega, h'.2⟩)]
    by_cases h2 : j < n ∧ 49 ≤ sh f s j ∧ sh f s j ≤ 57
    · rw [if_pos h2, if_pos ⟨by omega, h2.2⟩, digE_sh, fracF_sh]
    · rw [if_neg h2, if_neg (fun h' => h2 ⟨by omega, h'.2⟩)]; rfl
theorem numF_sh (f : Nat → Int) (s n j : Nat) : numF f (n + s) (j + s) = shI s (numF (sh f s) n j) := by
  unfold numF
  by_cases h : sh f s j = 45
  · rw [if_pos h, if_pos (show f (j + s) = 45 from h), show j + s + 1 = j + 1 + s by omega, intF_sh]
  · rw [if_neg h, if_neg (show ¬ f (j + s) = 45 from h), intF_sh]

/-- r is an end behind j: it lies in the text; the text cut at r gives r as well ('F f r j = r'). -/
theorem digE_cut {f : Nat → Int} {n p : Nat} : digE f (digE f n p) p = digE f n p :=
  digE_eq (Nat.le_refl _) (fun h => absurd h (Nat.lt_irrefl _)) (digE f n p - p) p (by have := digE_ge f n p; omega) (fun j h1 h2 => digE_all h1 h2)
theorem signF_le (f : Nat → Int) (n k : Nat) : k ≤ signF f n k ∧ signF f n k ≤ k + 1 := by unfold signF; split <;> omega
theorem signF_n {f : Nat → Int} {n k : Nat} (h : k ≤ n) : signF f n k ≤ n := by unfold signF; split <;> omega

theorem expF_cut {f : Nat → Int} {n j : Nat} (hj : j ≤ n) : expF f n j = -1 ∨ ∃ r : Nat, expF f n j = r ∧ j ≤ r ∧ r ≤ n ∧ expF f r j = r ∧ (r = j ∨ 48 ≤ f (r - 1) ∧ f (r - 1) ≤ 57) := by
  by_cases h : j < n ∧ (f j = 101 ∨ f j = 69)
  · have hs := signF_le f n (j + 1)
    have hsn := signF_n (f := f) (show j + 1 ≤ n by omega)
    obtain ⟨p, hp⟩ : ∃ p, p = signF f n (j + 1) := ⟨_, rfl⟩
    have e : expF f n j = expD f n p := by unfold expF; rw [if_pos h, hp]
    rw [← hp] at hs hsn
    by_cases hd : digE f n p = p
    · exact .inl (by rw [e]; unfold expD; rw [if_pos hd])
    · refine .inr ⟨digE f n p, by rw [e]; unfold expD; rw [if_neg hd], ?_, digE_le hsn, ?_, .inr (digE_last hd)⟩
      · have := digE_ge f n p; omega
      · have hge := digE_ge f n p
        have hp2 : signF f (digE f n p) (j + 1) = p := by
          by_cases hs2 : j + 1 < n ∧ (f (j + 1) = 43 ∨ f (j + 1) = 45)
          · have : p = j + 2 := by rw [hp]; unfold signF; rw [if_pos hs2]
            unfold signF
            rw [if_pos ⟨by omega, hs2.2⟩, this]
          · have hpj : p = j + 1 := by rw [hp]; unfold signF; rw [if_neg hs2]
            have hle := digE_le (f := f) (n := n) (i := p) hsn
            unfold signF
            rw [if_neg (fun h' => hs2 ⟨by omega, h'.2⟩), hpj]
        unfold expF
        rw [if_pos ⟨by omega, h.2⟩, hp2]
        unfold expD
        rw [digE_cut, if_neg hd]
  · refine .inr ⟨j, by unfold expF; rw [if_neg h], Nat.le_refl _, hj, ?_, .inl rfl⟩
    unfold expF; rw [if_neg (by omega)]

theorem fracF_cut {f : Nat → Int} {n j : Nat} (hj : j ≤ n) : fracF f n j = -1 ∨ ∃ r : Nat, fracF f n j = r ∧ j ≤ r ∧ r ≤ n ∧ fracF f r j = r ∧ (r = j ∨ 48 ≤ f (r - 1) ∧ f (r - 1) ≤ 57) := by
  by_cases h : j < n ∧ f j = 46
  · by_cases hd : digE f n (j + 1) = j + 1
    · exact .inl (by unfold fracF; rw [if_pos h, if_pos hd])
    · have hge := digE_ge f n (j + 1)
      have e : fracF f n j = expF f n (digE f n (j + 1)) := by unfold fracF; rw [if_pos h, if_neg hd]
      rcases expF_cut (f := f) (n := n) (j := digE f n (j + 1)) (digE_le (by omega)) with hx | ⟨r, h1, h2, h3, h4, h5⟩
      · exact .inl (by rw [e, hx])
      · refine .inr ⟨r, by rw [e, h1], by omega, h3, ?_, .inr ?_⟩
        · have hq : digE f r (j + 1) = digE f n (j + 1) := by
            refine digE_eq h2 (fun hlt => ?_) (digE f n (j + 1) - (j + 1)) (j + 1) (by omega) (fun k a b => digE_all a b)
            exact digE_end (by omega)
          unfold fracF
          rw [if_pos ⟨by omega, h.2⟩, hq, if_neg hd, h4]
        · rcases h5 with h5 | h5
          · rw [h5]; exact digE_last hd
          · exact h5
  · have e : fracF f n j = expF f n j := by unfold fracF; rw [if_neg h]
    rcases expF_cut (f := f) hj with hx | ⟨r, h1, h2, h3, h4, h5⟩
    · exact .inl (by rw [e, hx])
    · refine .inr ⟨r, by rw [e, h1], h2, h3, ?_, h5⟩
      unfold fracF
      rw [if_neg (fun h' => h ⟨by omega, h'.2⟩), h4]

theorem intF_cut {f : Nat → Int} {n j : Nat} : intF f n j = -1 ∨ ∃ r : Nat, intF f n j = r ∧ j < r ∧ r ≤ n ∧ intF f r j = r ∧ 48 ≤ f (r - 1) ∧ f (r - 1) ≤ 57 := by
  by_cases h : j < n ∧ f j = 48
  · have e : intF f n j = fracF f n (j + 1) := by unfold intF; rw [if_pos h]
    rcases fracF_cut (f := f) (show j + 1 ≤ n by omega) with hx | ⟨r, h1, h2, h3, h4, h5⟩
    · exact .inl (by rw [e, hx])
    · refine .inr ⟨r, by rw [e, h1], by omega, h3, ?_, ?_⟩
      · unfold intF; rw [if_pos ⟨by omega, h.2⟩, h4]
      · rcases h5 with h5 | h5
        · rw [h5, show j + 1 - 1 = j by omega, h.2]; omega
        · exact h5
  · by_cases h2 : j < n ∧ 49 ≤ f j ∧ f j ≤ 57
    · have e : intF f n j = fracF f n (digE f n j) := by unfold intF; rw [if_neg h, if_pos h2]
      have hd : digE f n j ≠ j := by
        rw [digE_yes h2.1 (by omega)]
        have := digE_ge f n (j + 1); omega
      have hge := digE_ge f n j
      rcases fracF_cut (f := f) (n := n) (j := digE f n j) (digE_le (by omega)) with hx | ⟨r, h1, h2', h3, h4, h5⟩
      · exact .inl (by rw [e, hx])
      · refine .inr ⟨r, by rw [e, h1], by omega, h3, ?_, ?_⟩
        · have hq : digE f r j = digE f n j := by
            refine digE_eq h2' (fun hlt => ?_) (digE f n j - j) j (by omega) (fun k a b => digE_all a b)
            exact digE_end (by omega)
          unfold intF
          rw [if_neg (fun h' => h ⟨h2.1, h'.2⟩), if_pos ⟨by omega, h2.2⟩, hq, h4]
        · rcases h5 with h5 | h5
          · rw [h5]; exact digE_last hd
          · exact h5
    · exact .inl (by unfold intF; rw [if_neg h, if_neg h2])

theorem numF_cut (f : Nat → Int) (n i : Nat) : numF f n i = -1 ∨ ∃ r : Nat, numF f n i = r ∧ i < r ∧ r ≤ n ∧ numF f r i = r ∧ 48 ≤ f (r - 1) ∧ f (r - 1) ≤ 57 := by
  unfold numF
  by_cases h : f i = 45
  · rw [if_pos h]
    rcases intF_cut (f := f) (n := n) (j := i + 1) with hx | ⟨r, h1, h2, h3, h4, h5⟩
    · exact .inl hx
    · exact .inr ⟨r, h1, by omega, h3, h4, h5⟩
  · rw [if_neg h]
    rcases intF_cut (f := f) (n := n) (j := i) with hx | ⟨r, h1, h2, h3, h4, h5⟩
    · exact .inl hx
    · exact .inr ⟨r, h1, h2, h3, h4, h5⟩

end Go.Proofs.Qxb6600660a
