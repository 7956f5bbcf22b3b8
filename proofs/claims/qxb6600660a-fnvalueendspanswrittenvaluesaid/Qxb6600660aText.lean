import Derived.Test.Qxb6600660aNum
namespace Go.Proofs.Qxb6600660a

/-! ### A text read from a place on (plain lists: no Go here) -/

/-- From place q on the text X reads L. -/
def At (X : List Int) (q : Nat) (L : List Int) : Prop := q ≤ X.length ∧ X.drop q = L
theorem At.nil {X : List Int} {q : Nat} (h : At X q []) : q = X.length := by
  have := List.drop_eq_nil_iff.1 h.2; have := h.1; omega
theorem At.length {X L : List Int} {q : Nat} (h : At X q L) : q + L.length = X.length := by
  have := congrArg List.length h.2; simp at this; have := h.1; omega
theorem At.cons {X L : List Int} {q : Nat} {c : Int} (h : At X q (c :: L)) : q < X.length ∧ bt X q = c ∧ At X (q + 1) L := by
  have hl := h.length
  simp at hl
  have hq : q < X.length := by omega
  have hd := h.2
  rw [List.drop_eq_getElem_cons hq] at hd
  rw [List.cons.injEq] at hd
  refine ⟨hq, ?_, by omega, hd.2⟩
  unfold bt
  rw [List.getD_eq_getElem?_getD, List.getElem?_eq_getElem hq]
  exact hd.1
theorem At.app {X L : List Int} : ∀ {D : List Int} {q : Nat}, At X q (D ++ L) → At X (q + D.length) L
  | [], _, h => h
  | d :: D, q, h => by
    have h' : At X q (d :: (D ++ L)) := h
    have := At.app h'.cons.2.2
    rw [show q + (d :: D).length = q + 1 + D.length by simp; omega]
    exact this
theorem At.start (A B : List Int) : At (A ++ B) A.length B := ⟨by simp, by simp⟩

def Dg (c : Int) : Prop := 48 ≤ c ∧ c ≤ 57
/-- Its head, if it has one, is no digit. -/
def ND (L : List Int) : Prop := ∀ c r, L = c :: r → ¬ Dg c

theorem At.dig {X : List Int} {L : List Int} (hL : ND L) : ∀ {D : List Int} {q : Nat}, At X q (D ++ L) → (∀ d ∈ D, Dg d) → digE (bt X) X.length q = q + D.length
  | [], q, h, _ => by
    cases hl : L with
    | nil => rw [hl] at h; have := h.nil; rw [digE_stop (by omega)]; rfl
    | cons c r => rw [hl] at h; have := At.cons (by simpa using h); rw [digE_no (by rw [this.2.1]; exact hL c r hl)]; rfl
  | d :: D, q, h, hD => by
    have h' := At.cons (show At X q (d :: (D ++ L)) from h)
    rw [digE_yes h'.1 (by rw [h'.2.1]; exact hD d (by simp)), At.dig hL h'.2.2 (fun x hx => hD x (by simp [hx]))]
    simp; omega

/-- Nothing goes on here: the text's end, or a sign that is no part of a number. -/
def Stop (T : List Int) : Prop := ∀ c r, T = c :: r → ¬ Dg c ∧ c ≠ 46 ∧ c ≠ 101 ∧ c ≠ 69
theorem Stop.nd {T : List Int} (h : Stop T) : ND T := fun c r e => (h c r e).1

/-- An exponent: none, or e, a sign perhaps, digits. -/
def IsExp (E : List Int) : Prop := E = [] ∨ ∃ c S d D, E = c :: (S ++ d :: D) ∧ (c = 101 ∨ c = 69) ∧ (S = [] ∨ S = [43] ∨ S = [45]) ∧ (∀ x ∈ d :: D, Dg x)
/-- A fraction: none, or a point and digits. -/
def IsFrac (F : List Int) : Prop := F = [] ∨ ∃ d D, F = 46 :: d :: D ∧ ∀ x ∈ d :: D, Dg x
/-- An integer part: 0, or digits that do not open with 0. -/
def IsInt (I : List Int) : Prop := I = [48] ∨ ∃ d D, I = d :: D ∧ 49 ≤ d ∧ d ≤ 57 ∧ ∀ x ∈ D, Dg x
def IsSgn (S : List Int) : Prop := S = [] ∨ S = [45]

theorem exp_law {X E T : List Int} {q : Nat} (h : At X q (E ++ T)) (hE : IsExp E) (hT : Stop T) : expF (bt X) X.length q = (q + E.length : Nat) := by
  rcases hE with rfl | ⟨c, S, d, D, rfl, hc, hS, hD⟩
  · unfold expF
    rw [if_neg]
    · rfl
    · intro hh
      cases T with
      | nil => have := h.nil; omega
      | cons t r =>
        have h' := At.cons (by simpa using h)
        have := hT t r rfl
        rw [h'.2.1] at hh
        omega
  · have h1 := At.cons (show At X q (c :: ((S ++ d :: D) ++ T)) from h)
    have key : ∀ s, At X s (d :: D ++ T) → expD (bt X) X.length s = (s + (d :: D).length : Nat) := by
      intro s hs
      have e := hs.dig hT.nd hD
      unfold expD
      rw [e, if_neg (by simp)]
    unfold expF
    rw [if_pos ⟨h1.1, by rw [h1.2.1]; exact hc⟩]
    have hd : Dg d := hD d (by simp)
    rcases hS with rfl | rfl | rfl
    · have h2 := At.cons (show At X (q + 1) (d :: (D ++ T)) from h1.2.2)
      unfold signF
      rw [if_neg (by rw [h2.2.1]; unfold Dg at hd; omega), key _ h1.2.2]
      simp; omega
    · have h2 := At.cons (show At X (q + 1) (43 :: (d :: D ++ T)) from h1.2.2)
      unfold signF
      rw [if_pos ⟨h2.1, by rw [h2.2.1]; omega⟩, key _ h2.2.2]
      simp; omega
    · have h2 := At.cons (show At X (q + 1) (45 :: (d :: D ++ T)) from h1.2.2)
      unfold signF
      rw [if_pos ⟨h2.1, by rw [h2.2.1]; omega⟩, key _ h2.2.2]
      simp; omega

theorem nd_exp {E T : List Int} (hE : IsExp E) (hT : Stop T) : ND (E ++ T) := by
  intro c r e
  rcases hE with rfl | ⟨c', S, d, D, rfl, hc, _, _⟩
  · exact hT.nd c r (by simpa using e)
  · simp at e
    unfold Dg; omega
theorem frac_law {X F E T : List Int} {q : Nat} (h : At X q (F ++ (E ++ T))) (hF : IsFrac F) (hE : IsExp E) (hT : Stop T) : fracF (bt X) X.length q = (q + F.length + E.length : Nat) := by
  rcases hF with rfl | ⟨d, D, rfl, hD⟩
  · unfold fracF
    have h0 : At X q (E ++ T) := h
    rw [if_neg, exp_law h0 hE hT]
    · rfl
    · intro hh
      rcases hE with rfl | ⟨c', S, d, D, rfl, hc, _, _⟩
      · cases T with
        | nil => have := h0.nil; omega
        | cons t r =>
          have h' := At.cons (by simpa using h0)
          have := hT t r rfl
          rw [h'.2.1] at hh
          omega
      · have h' := At.cons (show At X q (c' :: ((S ++ d :: D) ++ T)) from h0)
        rw [h'.2.1] at hh
        omega
  · have h1 := At.cons (show At X q (46 :: ((d :: D) ++ (E ++ T))) from h)
    have e := h1.2.2.dig (nd_exp hE hT) hD
    have h2 := h1.2.2.app
    unfold fracF
    rw [if_pos ⟨h1.1, h1.2.1⟩, e, if_neg (by simp), exp_law h2 hE hT]
    simp; omega
theorem nd_frac {F E T : List Int} (hF : IsFrac F) (hE : IsExp E) (hT : Stop T) : ND (F ++ (E ++ T)) := by
  intro c r e
  rcases hF with rfl | ⟨d, D, rfl, hD⟩
  · exact nd_exp hE hT c r e
  · simp at e
    unfold Dg; omega
theorem int_law {X I F E T : List Int} {q : Nat} (h : At X q (I ++ (F ++ (E ++ T)))) (hI : IsInt I) (hF : IsFrac F) (hE : IsExp E) (hT : Stop T) :
    intF (bt X) X.length q = (q + I.length + F.length + E.length : Nat) := by
  rcases hI with rfl | ⟨d, D, rfl, h1, h2, hD⟩
  · have h1 := At.cons (show At X q (48 :: (F ++ (E ++ T))) from h)
    unfold intF
    rw [if_pos ⟨h1.1, h1.2.1⟩, frac_law h1.2.2 hF hE hT]
    rfl
  · have h3 := At.cons (show At X q (d :: (D ++ (F ++ (E ++ T)))) from h)
    have e := h.dig (nd_frac hF hE hT) (fun x hx => by
      rcases List.mem_cons.1 hx with rfl | hx
      · unfold Dg; omega
      · exact hD x hx)
    unfold intF
    rw [h3.2.1, if_neg (by omega), if_pos ⟨h3.1, h1, h2⟩, e, frac_law h.app hF hE hT]
/-- THE LAW: a written number is found whole. -/
theorem num_law {X S I F E T : List Int} {q : Nat} (h : At X q (S ++ (I ++ (F ++ (E ++ T))))) (hS : IsSgn S) (hI : IsInt I) (hF : IsFrac F) (hE : IsExp E) (hT : Stop T) :
    numF (bt X) X.length q = (q + S.length + I.length + F.length + E.length : Nat) := by
  rcases hS with rfl | rfl
  · have hne : bt X q ≠ 45 := by
      rcases hI with rfl | ⟨d, D, rfl, h1, h2, hD⟩
      · rw [(At.cons (show At X q (48 :: (F ++ (E ++ T))) from h)).2.1]; omega
      · rw [(At.cons (show At X q (d :: (D ++ (F ++ (E ++ T)))) from h)).2.1]; omega
    unfold numF
    rw [if_neg hne, int_law (show At X q (I ++ (F ++ (E ++ T))) from h) hI hF hE hT]
    rfl
  · have h1 := At.cons (show At X q (45 :: (I ++ (F ++ (E ++ T)))) from h)
    unfold numF
    rw [if_pos h1.2.1, int_law h1.2.2 hI hF hE hT]
    rfl

end Go.Proofs.Qxb6600660a
