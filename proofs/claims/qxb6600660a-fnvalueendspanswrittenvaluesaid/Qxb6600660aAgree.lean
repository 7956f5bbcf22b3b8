import Derived.Test.Qxb6600660aNumProps
import Derived.Test.Qxb6600660aVal
namespace Go.Proofs.Qxb6600660a

/-! ### A number's own bytes hold no delimiter (plain functions: no Go here) -/
def NC (c : Int) : Prop := (48 ≤ c ∧ c ≤ 57) ∨ c = 45 ∨ c = 46 ∨ c = 101 ∨ c = 69 ∨ c = 43

section
variable {f : Nat → Int} {n : Nat}
theorem dig_nc {p j : Nat} (h1 : p ≤ j) (h2 : j < digE f n p) : NC (f j) := .inl (digE_all h1 h2)
theorem exp_nc {j r : Nat} (h : expF f n j = (r : Int)) : ∀ k, j ≤ k → k < r → NC (f k) := by
  intro k hk hr
  by_cases c : j < n ∧ (f j = 101 ∨ f j = 69)
  · have e : expF f n j = expD f n (signF f n (j + 1)) := by unfold expF; rw [if_pos c]
    rw [e] at h
    unfold expD at h
    by_cases hd : digE f n (signF f n (j + 1)) = signF f n (j + 1)
    · rw [if_pos hd] at h; omega
    · rw [if_neg hd] at h
      by_cases e1 : k = j
      · rw [e1]; unfold NC; omega
      · by_cases s : j + 1 < n ∧ (f (j + 1) = 43 ∨ f (j + 1) = 45)
        · have es : signF f n (j + 1) = j + 2 := by unfold signF; rw [if_pos s]
          rw [es] at h
          by_cases e2 : k = j + 1
          · rw [e2]; unfold NC; omega
          · exact dig_nc (p := j + 2) (n := n) (by omega) (by omega)
        · have es : signF f n (j + 1) = j + 1 := by unfold signF; rw [if_neg s]
          rw [es] at h
          exact dig_nc (p := j + 1) (n := n) (by omega) (by omega)
  · unfold expF at h
    rw [if_neg c] at h
    omega
theorem frac_nc {j r : Nat} (h : fracF f n j = (r : Int)) : ∀ k, j ≤ k → k < r → NC (f k) := by
  intro k hk hr
  by_cases c : j < n ∧ f j = 46
  · unfold fracF at h
    rw [if_pos c] at h
    by_cases hd : digE f n (j + 1) = j + 1
    · rw [if_pos hd] at h; omega
    · rw [if_neg hd] at h
      by_cases e1 : k = j
      · rw [e1]; unfold NC; omega
      · by_cases e2 : k < digE f n (j + 1)
        · exact dig_nc (p := j + 1) (n := n) (by omega) e2
        · exact exp_nc h k (by omega) hr
  · unfold fracF at h
    rw [if_neg c] at h
    exact exp_nc h k hk hr
theorem int_nc {j r : Nat} (h : intF f n j = (r : Int)) : ∀ k, j ≤ k → k < r → NC (f k) := by
  intro k hk hr
  by_cases c : j < n ∧ f j = 48
  · unfold intF at h
    rw [if_pos c] at h
    by_cases e1 : k = j
    · rw [e1]; unfold NC; omega
    · exact frac_nc h k (by omega) hr
  · unfold intF at h
    rw [if_neg c] at h
    by_cases c2 : j < n ∧ 49 ≤ f j ∧ f j ≤ 57
    · rw [if_pos c2] at h
      by_cases e2 : k < digE f n j
      · exact dig_nc (p := j) (n := n) hk e2
      · exact frac_nc h k (by omega) hr
    · rw [if_neg c2] at h; omega
theorem num_nc {i r : Nat} (h : numF f n i = (r : Int)) : ∀ k, i ≤ k → k < r → NC (f k) := by
  intro k hk hr
  unfold numF at h
  by_cases c : f i = 45
  · rw [if_pos c] at h
    by_cases e1 : k = i
    · rw [e1]; unfold NC; omega
    · exact int_nc h k (by omega) hr
  · rw [if_neg c] at h
    exact int_nc h k hk hr
theorem lit_eq {r : Nat} (hr : r ≤ n) (hend : r < n → f r = 44 ∨ f r = 125 ∨ f r = 93) : ∀ (m i : Nat), i + m = r → (∀ k, i ≤ k → k < r → ¬ (f k = 44 ∨ f k = 125 ∨ f k = 93)) → litR f n i = r
  | 0, i, hm, _ => by
    obtain rfl : i = r := by omega
    by_cases h : i < n
    · exact lit_here (hend h)
    · exact lit_stop (by omega)
  | m + 1, i, hm, h => by
    rw [lit_next (by omega) (h i (by omega) (by omega))]
    exact lit_eq hr hend m (i + 1) (by omega) (fun k h1 h2 => h k (by omega) h2)
/-- THE LAW. -/
theorem agree {i r : Nat} (hi : i < r) (h : numF f n i = (r : Int)) (hr : r ≤ n) (hend : r < n → f r = 44 ∨ f r = 125 ∨ f r = 93) : litR f n i = r ∧ f i ≠ 34 ∧ f i ≠ 123 ∧ f i ≠ 91 := by
  refine ⟨lit_eq hr hend (r - i) i (by omega) (fun k h1 h2 => ?_), ?_⟩
  · have := num_nc h k h1 h2
    unfold NC at this; omega
  · have := num_nc h i (Nat.le_refl _) hi
    unfold NC at this; omega
end

end Go.Proofs.Qxb6600660a
