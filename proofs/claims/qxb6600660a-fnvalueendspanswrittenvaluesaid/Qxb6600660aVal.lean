import Derived.Test.Qxb6600660aBase
namespace Go.Proofs.Qxb6600660a

/-! ### What Go's 'stringEnd' and 'valueEnd' compute, over the bytes f 0 .. f (n-1), where they come to an end (plain functions: no Go here) -/

/-- Inside a string, at place i: the place behind its closing quote. -/
def strE (f : Nat → Int) (n : Nat) : Nat → Nat → Option Nat
  | 0, _ => none
  | m + 1, i => if n ≤ i then none else if f i = 92 then strE f n m (i + 2) else if f i = 34 then some (i + 1) else strE f n m (i + 1)
/-- Inside d open containers, at place i: the place behind the outermost's close. -/
def conE (f : Nat → Int) (n : Nat) : Nat → Nat → Nat → Option Nat
  | 0, _, _ => none
  | m + 1, i, d => if n ≤ i then none else if f i = 34 then (strE f n n (i + 1)).bind fun r => conE f n m r d
      else if f i = 123 ∨ f i = 91 then conE f n m (i + 1) (d + 1)
      else if f i = 125 ∨ f i = 93 then (if d = 0 then none else if d = 1 then some (i + 1) else conE f n m (i + 1) (d - 1))
      else conE f n m (i + 1) d
/-- The first place from i on that holds a delimiter, or the text's end. -/
def litE (f : Nat → Int) : Nat → Nat → Nat
  | 0, i => i
  | m + 1, i => if f i = 44 ∨ f i = 125 ∨ f i = 93 then i else litE f m (i + 1)
def litR (f : Nat → Int) (n i : Nat) : Nat := litE f (n - i) i

section
variable {f : Nat → Int} {n : Nat}
theorem str_lt {m i r : Nat} (h : strE f n m i = some r) : i < n ∧ ∃ m', m = m' + 1 := by
  cases m with
  | zero => cases h
  | succ m =>
    rw [strE] at h
    by_cases c : n ≤ i
    · rw [if_pos c] at h; cases h
    · exact ⟨by omega, m, rfl⟩
theorem str_esc {m i r : Nat} (h : strE f n (m + 1) i = some r) (c : f i = 92) : strE f n m (i + 2) = some r := by
  have hl := (str_lt h).1
  rwa [strE, if_neg (by omega), if_pos c] at h
theorem str_end {m i r : Nat} (h : strE f n (m + 1) i = some r) (c : f i = 34) : r = i + 1 := by
  have hl := (str_lt h).1
  rw [strE, if_neg (by omega), if_neg (by omega), if_pos c] at h
  exact (Option.some.inj h).symm
theorem str_next {m i r : Nat} (h : strE f n (m + 1) i = some r) (c : ¬ f i = 92) (c' : ¬ f i = 34) : strE f n m (i + 1) = some r := by
  have hl := (str_lt h).1
  rwa [strE, if_neg (by omega), if_neg c, if_neg c'] at h
theorem str_le : ∀ {m i r : Nat}, strE f n m i = some r → i < r ∧ r ≤ n
  | 0, _, _, h => by cases h
  | m + 1, i, r, h => by
    have hl := (str_lt h).1
    by_cases c : f i = 92
    · have := str_le (str_esc h c); omega
    · by_cases c' : f i = 34
      · have := str_end h c'; omega
      · have := str_le (str_next h c c'); omega

theorem con_lt {m i d r : Nat} (h : conE f n m i d = some r) : i < n ∧ ∃ m', m = m' + 1 := by
  cases m with
  | zero => cases h
  | succ m =>
    rw [conE] at h
    by_cases c : n ≤ i
    · rw [if_pos c] at h; cases h
    · exact ⟨by omega, m, rfl⟩
theorem con_str {m i d r : Nat} (h : conE f n (m + 1) i d = some r) (c : f i = 34) : ∃ q, strE f n n (i + 1) = some q ∧ conE f n m q d = some r := by
  have hl := (con_lt h).1
  rw [conE, if_neg (by omega), if_pos c] at h
  exact Option.bind_eq_some_iff.1 h
theorem con_open {m i d r : Nat} (h : conE f n (m + 1) i d = some r) (c : f i = 123 ∨ f i = 91) : conE f n m (i + 1) (d + 1) = some r := by
  have hl := (con_lt h).1
  rwa [conE, if_neg (by omega), if_neg (by omega), if_pos c] at h
theorem con_close {m i d r : Nat} (h : conE f n (m + 1) i d = some r) (c : f i = 125 ∨ f i = 93) : (d = 1 ∧ r = i + 1) ∨ (2 ≤ d ∧ conE f n m (i + 1) (d - 1) = some r) := by
  have hl := (con_lt h).1
  rw [conE, if_neg (by omega), if_neg (by omega), if_neg (by omega), if_pos c] at h
  by_cases d0 : d = 0
  · rw [if_pos d0] at h; cases h
  · rw [if_neg d0] at h
    by_cases d1 : d = 1
    · rw [if_pos d1] at h; exact .inl ⟨d1, (Option.some.inj h).symm⟩
    · rw [if_neg d1] at h; exact .inr ⟨by omega, h⟩
theorem con_next {m i d r : Nat} (h : conE f n (m + 1) i d = some r) (c : ¬ f i = 34) (c1 : ¬ (f i = 123 ∨ f i = 91)) (c2 : ¬ (f i = 125 ∨ f i = 93)) : conE f n m (i + 1) d = some r := by
  have hl := (con_lt h).1
  rwa [conE, if_neg (by omega), if_neg c, if_neg c1, if_neg c2] at h

theorem lit_stop {i : Nat} (h : n ≤ i) : litR f n i = i := by unfold litR; rw [show n - i = 0 by omega]; rfl
theorem lit_here {i : Nat} (c : f i = 44 ∨ f i = 125 ∨ f i = 93) : litR f n i = i := by
  unfold litR
  cases n - i with
  | zero => rfl
  | succ m => rw [litE, if_pos c]
theorem lit_next {i : Nat} (h : i < n) (c : ¬ (f i = 44 ∨ f i = 125 ∨ f i = 93)) : litR f n i = litR f n (i + 1) := by
  unfold litR
  obtain ⟨m, hm⟩ : ∃ m, n - i = m + 1 := ⟨n - i - 1, by omega⟩
  rw [hm, litE, if_neg c, show n - (i + 1) = m by omega]
end

end Go.Proofs.Qxb6600660a
