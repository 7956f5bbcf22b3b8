import Derived.Test.Qxb6600660aBase
namespace Go.Proofs.Qxb6600660a

/-! ### What Go's 'number' computes, over the bytes f 0 .. f (n-1) -/
def expD (f : Nat → Int) (n k : Nat) : Int := if digE f n k = k then -1 else (digE f n k : Nat)
def signF (f : Nat → Int) (n k : Nat) : Nat := if k < n ∧ (f k = 43 ∨ f k = 45) then k + 1 else k
def expF (f : Nat → Int) (n j : Nat) : Int := if j < n ∧ (f j = 101 ∨ f j = 69) then expD f n (signF f n (j + 1)) else (j : Int)
def fracF (f : Nat → Int) (n j : Nat) : Int := if j < n ∧ f j = 46 then (if digE f n (j + 1) = j + 1 then -1 else expF f n (digE f n (j + 1))) else expF f n j
def intF (f : Nat → Int) (n j : Nat) : Int := if j < n ∧ f j = 48 then fracF f n (j + 1) else if j < n ∧ 49 ≤ f j ∧ f j ≤ 57 then fracF f n (digE f n j) else -1
def numF (f : Nat → Int) (n i : Nat) : Int := intF f n (if f i = 45 then i + 1 else i)

theorem dig_ge (f : Nat → Int) : ∀ m i, i ≤ dig f m i
  | 0, i => Nat.le_refl i
  | m + 1, i => by
    rw [dig]; split
    · exact Nat.le_trans (Nat.le_succ i) (dig_ge f m (i + 1))
    · exact Nat.le_refl i
theorem dig_le (f : Nat → Int) : ∀ m i, dig f m i ≤ i + m
  | 0, i => Nat.le_refl i
  | m + 1, i => by
    rw [dig]; split
    · have := dig_le f m (i + 1); omega
    · omega
theorem dig_all (f : Nat → Int) : ∀ m i j, i ≤ j → j < dig f m i → 48 ≤ f j ∧ f j ≤ 57
  | 0, i, j, h1, h2 => by rw [dig] at h2; omega
  | m + 1, i, j, h1, h2 => by
    rw [dig] at h2
    by_cases h : 48 ≤ f i ∧ f i ≤ 57
    · rw [if_pos h] at h2
      by_cases e : j = i
      · rw [e]; exact h
      · exact dig_all f m (i + 1) j (by omega) h2
    · rw [if_neg h] at h2; omega
theorem digE_ge (f : Nat → Int) (n i : Nat) : i ≤ digE f n i := dig_ge f _ i
theorem digE_le {f : Nat → Int} {n i : Nat} (h : i ≤ n) : digE f n i ≤ n := by have := dig_le f (n - i) i; unfold digE; omega
theorem digE_all {f : Nat → Int} {n i j : Nat} (h1 : i ≤ j) (h2 : j < digE f n i) : 48 ≤ f j ∧ f j ≤ 57 := dig_all f _ i j h1 h2
/-- Where it stops short of n there is no digit. -/
theorem dig_end (f : Nat → Int) : ∀ m i, dig f m i < i + m → ¬ (48 ≤ f (dig f m i) ∧ f (dig f m i) ≤ 57)
  | 0, i, h => by rw [dig] at h; omega
  | m + 1, i, h => by
    rw [dig] at h ⊢
    by_cases c : 48 ≤ f i ∧ f i ≤ 57
    · rw [if_pos c] at h ⊢; exact dig_end f m (i + 1) (by omega)
    · rw [if_neg c]; exact c
theorem digE_end {f : Nat → Int} {n i : Nat} (h : digE f n i < n) : ¬ (48 ≤ f (digE f n i) ∧ f (digE f n i) ≤ 57) := by
  have hg := digE_ge f n i
  exact dig_end f (n - i) i (by unfold digE at h hg; omega)
/-- The last byte that was read behind 'digits' is a digit, unless none was. -/
theorem digE_last {f : Nat → Int} {n i : Nat} (h : digE f n i ≠ i) : 48 ≤ f (digE f n i - 1) ∧ f (digE f n i - 1) ≤ 57 := by
  have := digE_ge f n i
  exact digE_all (i := i) (n := n) (by omega) (by omega)
/-- What 'digits' finds is fixed by: digits from i to e, no digit at e. -/
theorem digE_eq {f : Nat → Int} {n e : Nat} (he : e ≤ n) (hx : e < n → ¬ (48 ≤ f e ∧ f e ≤ 57)) : ∀ m i, i + m = e → (∀ j, i ≤ j → j < e → 48 ≤ f j ∧ f j ≤ 57) → digE f n i = e
  | 0, i, hm, _ => by
    obtain rfl : i = e := by omega
    by_cases h : i < n
    · exact digE_no (hx h)
    · exact digE_stop (by omega)
  | m + 1, i, hm, h => by
    rw [digE_yes (by omega) (h i (by omega) (by omega))]
    exact digE_eq he hx m (i + 1) (by omega) (fun j h1 h2 => h j (by omega) h2)

end Go.Proofs.Qxb6600660a
