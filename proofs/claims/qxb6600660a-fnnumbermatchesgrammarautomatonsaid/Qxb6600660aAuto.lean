import Derived.Test.Qxb6600660aNum
namespace Go.Proofs.Qxb6600660a

/-! ### The automaton (plain functions: no Go here) -/
def IsD (b : Int) : Prop := 48 ≤ b ∧ b ≤ 57
def stepF (s : Nat) (b : Int) : Int :=
  match s with
  | 0 => if b = 45 then 1 else if b = 48 then 2 else if 48 ≤ b ∧ b ≤ 57 then 3 else -1
  | 1 => if b = 48 then 2 else if 48 ≤ b ∧ b ≤ 57 then 3 else -1
  | 2 => if b = 46 then 4 else if b = 101 ∨ b = 69 then 6 else -1
  | 3 => if 48 ≤ b ∧ b ≤ 57 then 3 else if b = 46 then 4 else if b = 101 ∨ b = 69 then 6 else -1
  | 4 => if 48 ≤ b ∧ b ≤ 57 then 5 else -1
  | 5 => if 48 ≤ b ∧ b ≤ 57 then 5 else if b = 101 ∨ b = 69 then 6 else -1
  | 6 => if b = 43 ∨ b = 45 then 7 else if 48 ≤ b ∧ b ≤ 57 then 8 else -1
  | _ => if 48 ≤ b ∧ b ≤ 57 then 8 else -1
theorem stepF_le (s : Nat) (b : Int) : stepF s b ≤ 8 := by
  unfold stepF
  split <;> (repeat' split) <;> omega
/-- What the automaton answers where it stops in state s at j. -/
def finF (s j : Nat) : Int := if s = 2 ∨ s = 3 ∨ s = 5 ∨ s = 8 then (j : Int) else -1
def modF (f : Nat → Int) : Nat → Nat → Nat → Int
  | 0, s, j => finF s j
  | m + 1, s, j => if stepF s (f j) < 0 then finF s j else modF f m (stepF s (f j)).toNat (j + 1)
/-- From state s at place j on. -/
def autM (f : Nat → Int) (n s j : Nat) : Int := modF f (n - j) s j

section
variable {f : Nat → Int} {n : Nat}
theorem aut_end {s j : Nat} (h : n ≤ j) : autM f n s j = finF s j := by unfold autM; rw [show n - j = 0 by omega]; rfl
theorem aut_no {s j : Nat} (h : stepF s (f j) < 0) : autM f n s j = finF s j := by
  unfold autM
  cases n - j with
  | zero => rfl
  | succ m => rw [modF, if_pos h]
theorem aut_step {s j t : Nat} (hj : j < n) (h : stepF s (f j) = (t : Int)) : autM f n s j = autM f n t (j + 1) := by
  unfold autM
  obtain ⟨m, hm⟩ : ∃ m, n - j = m + 1 := ⟨n - j - 1, by omega⟩
  rw [hm, modF, if_neg (by omega), h, show n - (j + 1) = m by omega]
  rfl

theorem aut8 : ∀ (m j : Nat), n - j = m → autM f n 8 j = (digE f n j : Nat)
  | 0, j, hm => by rw [aut_end (by omega), digE_stop (by omega)]; rfl
  | m + 1, j, hm => by
    by_cases h : 48 ≤ f j ∧ f j ≤ 57
    · rw [aut_step (t := 8) (by omega) (by simp [stepF, h]), digE_yes (by omega) h]; exact aut8 m (j + 1) (by omega)
    · rw [aut_no (by simp [stepF, h]), digE_no h]; rfl
theorem aut7 (j : Nat) : autM f n 7 j = expD f n j := by
  unfold expD
  by_cases hj : j < n
  · by_cases h : 48 ≤ f j ∧ f j ≤ 57
    · rw [aut_step (t := 8) hj (by simp [stepF, h]), aut8 _ _ rfl, digE_yes hj h, if_neg (by have := digE_ge f n (j + 1); omega)]
    · rw [aut_no (by simp [stepF, h]), digE_no h, if_pos rfl]; rfl
  · rw [aut_end (by omega), digE_stop (by omega), if_pos rfl]; rfl
theorem aut6 (j : Nat) : autM f n 6 j = expD f n (signF f n j) := by
  unfold signF
  by_cases hj : j < n
  · by_cases hs : f j = 43 ∨ f j = 45
    · rw [if_pos ⟨hj, hs⟩, aut_step (t := 7) hj (by simp [stepF, hs]), aut7]
    · rw [if_neg (fun h => hs h.2)]
      by_cases h : 48 ≤ f j ∧ f j ≤ 57
      · rw [aut_step (t := 8) hj (by simp [stepF, hs, h]), aut8 _ _ rfl]
        unfold expD
        rw [digE_yes hj h, if_neg (by have := digE_ge f n (j + 1); omega)]
      · rw [aut_no (by simp [stepF, hs, h])]
        unfold expD
        rw [digE_no h, if_pos rfl]; rfl
  · rw [if_neg (fun h => hj h.1), aut_end (by omega)]
    unfold expD
    rw [digE_stop (by omega), if_pos rfl]; rfl
theorem aut5 : ∀ (m j : Nat), n - j = m → autM f n 5 j = expF f n (digE f n j)
  | 0, j, hm => by
    rw [aut_end (by omega), digE_stop (by omega)]
    unfold expF
    rw [if_neg (by omega)]; rfl
  | m + 1, j, hm => by
    by_cases h : 48 ≤ f j ∧ f j ≤ 57
    · rw [aut_step (t := 5) (by omega) (by simp [stepF, h]), digE_yes (by omega) h]; exact aut5 m (j + 1) (by omega)
    · rw [digE_no h]
      unfold expF
      by_cases he : f j = 101 ∨ f j = 69
      · rw [aut_step (t := 6) (by omega) (by simp [stepF, h, he]), aut6, if_pos ⟨by omega, he⟩]
      · rw [aut_no (by simp [stepF, h, he]), if_neg (fun x => he x.2)]; rfl
theorem aut4 (j : Nat) : autM f n 4 j = if digE f n j = j then -1 else expF f n (digE f n j) := by
  by_cases hj : j < n
  · by_cases h : 48 ≤ f j ∧ f j ≤ 57
    · rw [aut_step (t := 5) hj (by simp [stepF, h]), aut5 _ _ rfl, digE_yes hj h, if_neg (by have := digE_ge f n (j + 1); omega)]
    · rw [aut_no (by simp [stepF, h]), digE_no h, if_pos rfl]; rfl
  · rw [aut_end (by omega), digE_stop (by omega), if_pos rfl]; rfl
theorem aut2 (j : Nat) : autM f n 2 j = fracF f n j := by
  unfold fracF
  by_cases hj : j < n
  · by_cases hp : f j = 46
    · rw [if_pos ⟨hj, hp⟩, aut_step (t := 4) hj (by simp [stepF, hp]), aut4]
    · rw [if_neg (fun h => hp h.2)]
      unfold expF
      by_cases he : f j = 101 ∨ f j = 69
      · rw [aut_step (t := 6) hj (by simp [stepF, hp, he]), aut6, if_pos ⟨hj, he⟩]
      · rw [aut_no (by simp [stepF, hp, he]), if_neg (fun x => he x.2)]; rfl
  · rw [aut_end (by omega), if_neg (fun h => hj h.1)]
    unfold expF
    rw [if_neg (fun h => hj h.1)]; rfl
theorem aut3 : ∀ (m j : Nat), n - j = m → autM f n 3 j = fracF f n (digE f n j)
  | 0, j, hm => by
    rw [aut_end (by omega), digE_stop (by omega)]
    unfold fracF expF
    rw [if_neg (by omega), if_neg (by omega)]; rfl
  | m + 1, j, hm => by
    by_cases h : 48 ≤ f j ∧ f j ≤ 57
    · rw [aut_step (t := 3) (by omega) (by simp [stepF, h]), digE_yes (by omega) h]; exact aut3 m (j + 1) (by omega)
    · rw [digE_no h, ← aut2]
      by_cases hp : f j = 46
      · rw [aut_step (t := 4) (s := 3) (by omega) (by simp [stepF, hp]), aut_step (t := 4) (s := 2) (by omega) (by simp [stepF, hp])]
      · by_cases he : f j = 101 ∨ f j = 69
        · rw [aut_step (t := 6) (s := 3) (by omega) (by simp [stepF, h, hp, he]), aut_step (t := 6) (s := 2) (by omega) (by simp [stepF, hp, he])]
        · rw [aut_no (s := 3) (by simp [stepF, h, hp, he]), aut_no (s := 2) (by simp [stepF, hp, he])]; rfl
theorem aut1 (j : Nat) : autM f n 1 j = intF f n j := by
  unfold intF
  by_cases hj : j < n
  · by_cases hz : f j = 48
    · rw [if_pos ⟨hj, hz⟩, aut_step (t := 2) hj (by simp [stepF, hz]), aut2]
    · rw [if_neg (fun h => hz h.2)]
      by_cases h : 48 ≤ f j ∧ f j ≤ 57
      · rw [aut_step (t := 3) hj (by simp [stepF, hz, h]), aut3 _ _ rfl, if_pos ⟨hj, by omega⟩, digE_yes hj h]
      · rw [aut_no (by simp [stepF, hz, h]), if_neg (fun x => h (by omega))]; rfl
  · rw [aut_end (by omega), if_neg (fun h => hj h.1), if_neg (fun h => hj h.1)]; rfl
/-- THE LAW: the automaton answers what 'number' answers. -/
theorem aut0 {i : Nat} (hi : i < n) : autM f n 0 i = numF f n i := by
  unfold numF
  by_cases hm : f i = 45
  · rw [if_pos hm, aut_step (t := 1) hi (by simp [stepF, hm]), aut1]
  · rw [if_neg hm, ← aut1]
    by_cases hz : f i = 48
    · rw [aut_step (t := 2) (s := 0) hi (by simp [stepF, hz]), aut_step (t := 2) (s := 1) hi (by simp [stepF, hz])]
    · by_cases h : 48 ≤ f i ∧ f i ≤ 57
      · rw [aut_step (t := 3) (s := 0) hi (by simp [stepF, hm, hz, h]), aut_step (t := 3) (s := 1) hi (by simp [stepF, hz, h])]
      · rw [aut_no (s := 0) (by simp [stepF, hm, hz, h]), aut_no (s := 1) (by simp [stepF, hz, h])]; rfl
end

end Go.Proofs.Qxb6600660a
