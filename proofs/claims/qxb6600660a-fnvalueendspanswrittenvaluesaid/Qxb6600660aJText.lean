import Derived.Test.Qxb6600660aText
import Derived.Test.Qxb6600660aAgree
namespace Go.Proofs.Qxb6600660a

/-! ### Written JSON values, and what 'valueEnd' makes of them (plain lists: no Go here) -/

/-- No quote, no bracket. -/
def Pl (c : Int) : Prop := c ≠ 34 ∧ c ≠ 91 ∧ c ≠ 93 ∧ c ≠ 123 ∧ c ≠ 125
/-- Read inside d open containers it is passed over, whatever stands behind it. -/
def Seq (S : List Int) : Prop := ∀ (X : List Int) (q d : Nat) (T : List Int), 1 ≤ d → At X q (S ++ T) → ∃ c, ∀ m, conE (bt X) X.length (m + c) q d = conE (bt X) X.length m (q + S.length) d
/-- A string's inside: a backslash takes the next byte with it; no bare quote. -/
def body : List Int → Bool
  | [] => true
  | c :: r => if c = 92 then (match r with | [] => false | _ :: r' => body r') else (c != 34) && body r

theorem body_cons (c : Int) (r : List Int) : body (c :: r) = if c = 92 then (match r with | [] => false | _ :: r' => body r') else (c != 34) && body r := by
  cases r with
  | nil => rw [body.eq_def]
  | cons d r' => rw [body.eq_def]
theorem body_app : ∀ (k : Nat) (A B : List Int), A.length ≤ k → body A = true → body B = true → body (A ++ B) = true
  | 0, [], _, _, _, hB => hB
  | _ + 1, [], _, _, _, hB => hB
  | k + 1, c :: r, B, hk, hA, hB => by
    rw [List.cons_append, body_cons]
    rw [body_cons] at hA
    by_cases h : c = 92
    · rw [if_pos h] at hA ⊢
      cases r with
      | nil => cases hA
      | cons d r' =>
        simp only [List.cons_append]
        exact body_app k r' B (by simp at hk; omega) hA hB
    · rw [if_neg h] at hA ⊢
      simp only [Bool.and_eq_true] at hA ⊢
      exact ⟨hA.1, body_app k r B (by simp at hk; omega) hA.2 hB⟩
theorem body_append {A B : List Int} (hA : body A = true) (hB : body B = true) : body (A ++ B) = true := body_app _ A B (Nat.le_refl _) hA hB

theorem str_body {X T : List Int} : ∀ (k : Nat) (S : List Int) (q m : Nat), S.length ≤ k → body S = true → At X q (S ++ 34 :: T) → S.length + 1 ≤ m → strE (bt X) X.length m q = some (q + S.length + 1)
  | _, [], q, m, _, _, h, hm => by
    obtain ⟨m', rfl⟩ : ∃ m', m = m' + 1 := ⟨m - 1, by simp at hm; omega⟩
    have h' := At.cons (show At X q (34 :: T) from h)
    rw [strE, if_neg (by omega), h'.2.1, if_neg (by omega), if_pos rfl]
    rfl
  | 0, c :: r, q, m, hk, _, _, _ => by simp at hk
  | k + 1, c :: r, q, m, hk, hb, h, hm => by
    obtain ⟨m', rfl⟩ : ∃ m', m = m' + 1 := ⟨m - 1, by simp at hm; omega⟩
    have h' := At.cons (show At X q (c :: (r ++ 34 :: T)) from h)
    rw [body_cons] at hb
    rw [strE, if_neg (by omega), h'.2.1]
    by_cases hc : c = 92
    · rw [if_pos hc] at hb ⊢
      cases r with
      | nil => cases hb
      | cons d r' =>
        have h2 := At.cons (show At X (q + 1) (d :: (r' ++ 34 :: T)) from h'.2.2)
        have := str_body k r' (q + 2) m' (by simp at hk; omega) hb h2.2.2 (by simp at hm; omega)
        rw [this]
        simp
        omega
    · rw [if_neg hc] at hb ⊢
      simp only [Bool.and_eq_true, bne_iff_ne, ne_eq] at hb
      rw [if_neg hb.1, str_body k r (q + 1) m' (by simp at hk; omega) hb.2 h'.2.2 (by simp at hm; omega)]
      simp
      omega

theorem Seq.nil : Seq [] := fun _ _ _ _ _ _ => ⟨0, fun _ => rfl⟩
theorem Seq.app {A B : List Int} (hA : Seq A) (hB : Seq B) : Seq (A ++ B) := by
  intro X q d T hd h
  rw [List.append_assoc] at h
  obtain ⟨c1, h1⟩ := hA X q d (B ++ T) hd h
  obtain ⟨c2, h2⟩ := hB X (q + A.length) d T hd h.app
  refine ⟨c2 + c1, fun m => ?_⟩
  rw [← Nat.add_assoc, h1, h2, List.length_append, Nat.add_assoc]
theorem Seq.one {c : Int} (hc : Pl c) : Seq [c] := by
  intro X q d T hd h
  have h' := At.cons (show At X q (c :: T) from h)
  unfold Pl at hc
  refine ⟨1, fun m => ?_⟩
  rw [conE, if_neg (by omega), h'.2.1, if_neg (by omega), if_neg (by omega), if_neg (by omega)]
  rfl
theorem Seq.all : ∀ {S : List Int}, (∀ c ∈ S, Pl c) → Seq S
  | [], _ => Seq.nil
  | c :: r, h => by
    have := (Seq.one (h c (by simp))).app (Seq.all (S := r) (fun x hx => h x (by simp [hx])))
    simpa using this
theorem Seq.str {S : List Int} (hS : body S = true) : Seq (34 :: (S ++ [34])) := by
  intro X q d T hd h
  have e : 34 :: (S ++ [34]) ++ T = 34 :: (S ++ 34 :: T) := by simp
  rw [e] at h
  have h' := At.cons h
  have hl := h.length
  simp at hl
  have hs := str_body (X := X) (T := T) S.length S (q + 1) X.length (Nat.le_refl _) hS h'.2.2 (by omega)
  refine ⟨1, fun m => ?_⟩
  rw [conE, if_neg (by omega), h'.2.1, if_pos rfl, hs]
  simp only [Option.bind_some, List.length_cons, List.length_append, List.length_nil]
  rw [show q + 1 + S.length + 1 = q + (S.length + (0 + 1) + 1) by omega]
theorem Seq.box {S : List Int} {o k : Int} (ho : o = 123 ∨ o = 91) (hk : k = 125 ∨ k = 93) (hS : Seq S) : Seq (o :: (S ++ [k])) := by
  intro X q d T hd h
  have e : o :: (S ++ [k]) ++ T = o :: (S ++ (k :: T)) := by simp
  rw [e] at h
  have h' := At.cons h
  obtain ⟨c, hc⟩ := hS X (q + 1) (d + 1) (k :: T) (by omega) h'.2.2
  have h2 := At.cons h'.2.2.app
  refine ⟨1 + c + 1, fun m => ?_⟩
  rw [show m + (1 + c + 1) = m + 1 + c + 1 by omega, conE, if_neg (by omega), h'.2.1, if_neg (by omega), if_pos ho, hc, conE, if_neg (by omega), h2.2.1, if_neg (by omega), if_neg (by omega), if_pos hk, if_neg (by omega), if_neg (by omega)]
  rw [show q + 1 + S.length + 1 = q + (o :: (S ++ [k])).length by simp; omega, show d + 1 - 1 = d by omega]

/-- The answer of 'valueEnd'. -/
def VE (f : Nat → Int) (n i r : Nat) : Prop := i < n ∧
  ((f i ≠ 34 ∧ f i ≠ 123 ∧ f i ≠ 91 ∧ litR f n i = r) ∨ (f i = 34 ∧ ∃ m, strE f n m (i + 1) = some r) ∨ ((f i = 123 ∨ f i = 91) ∧ ∃ m, conE f n m i 0 = some r))
/-- Nothing, or a delimiter. -/
def Dlm (T : List Int) : Prop := ∀ c r, T = c :: r → c = 44 ∨ c = 125 ∨ c = 93
def Top (V : List Int) : Prop := ∀ (X : List Int) (q : Nat) (T : List Int), At X q (V ++ T) → Dlm T → VE (bt X) X.length q (q + V.length)
/-- A written value: passed over inside a container; found whole by itself. -/
def Val (V : List Int) : Prop := Seq V ∧ Top V

theorem At.get {X L : List Int} : ∀ {V : List Int} {q k : Nat}, At X q (V ++ L) → q ≤ k → k < q + V.length → bt X k ∈ V
  | [], q, k, _, h1, h2 => by simp at h2; omega
  | c :: r, q, k, h, h1, h2 => by
    have h' := At.cons (show At X q (c :: (r ++ L)) from h)
    by_cases e : k = q
    · rw [e, h'.2.1]; simp
    · have := At.get h'.2.2 (show q + 1 ≤ k by omega) (by simp at h2; omega)
      simp [this]
theorem val_lit {V : List Int} (hne : V ≠ []) (h : ∀ c ∈ V, Pl c ∧ c ≠ 44) : Val V := by
  refine ⟨Seq.all (fun c hc => (h c hc).1), fun X q T ha hT => ?_⟩
  have hl := ha.length
  simp at hl
  have hpos : 0 < V.length := List.length_pos_iff.2 hne
  have h0 := h _ (ha.get (Nat.le_refl q) (by omega))
  refine ⟨by omega, .inl ⟨h0.1.1, h0.1.2.2.2.1, h0.1.2.1, ?_⟩⟩
  refine lit_eq (by omega) (fun hlt => ?_) V.length q rfl (fun k h1 h2 => ?_)
  · have ht := ha.app
    cases T with
    | nil => have := ht.nil; omega
    | cons t r =>
      rw [(At.cons ht).2.1]
      exact hT t r rfl
  · have := h _ (ha.get h1 h2)
    unfold Pl at this
    omega
theorem val_str {S : List Int} (hS : body S = true) : Val (34 :: (S ++ [34])) := by
  refine ⟨Seq.str hS, fun X q T h hT => ?_⟩
  have e : 34 :: (S ++ [34]) ++ T = 34 :: (S ++ 34 :: T) := by simp
  rw [e] at h
  have h' := At.cons h
  have hs := str_body (X := X) (T := T) S.length S (q + 1) (S.length + 1) (Nat.le_refl _) hS h'.2.2 (Nat.le_refl _)
  refine ⟨h'.1, .inr (.inl ⟨h'.2.1, _, hs.trans ?_⟩)⟩
  simp
  omega
theorem val_box {S : List Int} {o k : Int} (ho : o = 123 ∨ o = 91) (hk : k = 125 ∨ k = 93) (hS : Seq S) : Val (o :: (S ++ [k])) := by
  refine ⟨Seq.box ho hk hS, fun X q T h hT => ?_⟩
  have e : o :: (S ++ [k]) ++ T = o :: (S ++ (k :: T)) := by simp
  rw [e] at h
  have h' := At.cons h
  obtain ⟨c, hc⟩ := hS X (q + 1) 1 (k :: T) (by omega) h'.2.2
  have h2 := At.cons h'.2.2.app
  refine ⟨h'.1, .inr (.inr ⟨by rw [h'.2.1]; exact ho, 1 + c + 1, ?_⟩)⟩
  rw [conE, if_neg (by omega), h'.2.1, if_neg (by omega), if_pos ho, hc, conE, if_neg (by omega), h2.2.1, if_neg (by omega), if_neg (by omega), if_pos hk, if_neg (by omega), if_pos (by omega)]
  simp
  omega

end Go.Proofs.Qxb6600660a
