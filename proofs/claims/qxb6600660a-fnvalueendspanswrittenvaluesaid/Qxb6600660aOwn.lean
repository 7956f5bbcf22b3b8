import Derived.Test.Qxb6600660aBase
import Derived.Lib.AppendStr
import Derived.Laws.AppendOwnNone
import Derived.OpenShut
namespace Go.Proofs.Qxb6600660a
open Go.RowKit

theorem info5 : (Try.prog.info? 5).map (fun i => (i.zero, i.size, i.bytes)) = some (some (.int .u8 0), 1, 1) := by kernel_rfl

/-- A slice of bytes that the call itself made: n elements, at the head of block g, the bytes xs; below B the world is as w0 was. -/
structure Own (w0 : World) (B : Nat) (w : World) (g n cap : Nat) (xs : List Int) : Prop where
  row : w.ownsRow B 5 1 (.slice (some ⟨g, 0, none⟩) n cap) n (xs.map (Value.int .u8))
  bel : Below B w0 w
  byte : ∀ x ∈ xs, 0 ≤ x ∧ x ≤ 255

section
variable {w0 w : World} {B g n cap : Nat} {xs : List Int}
theorem Own.len (h : Own w0 B w g n cap xs) : xs.length = n := by simpa using h.row.1
theorem Own.lt (h : Own w0 B w g n cap xs) : B ≤ g ∧ g < w.heap.size := h.row.lt g rfl
theorem Own.size (h : Own w0 B w g n cap xs) : B ≤ w.heap.size := by have := h.lt; omega
theorem Own.cap_ge (h : Own w0 B w g n cap xs) : n ≤ cap := by
  rcases h.row.2 with ⟨h1, _⟩ | ⟨g', cap', cur, hv, _, _, hn, _⟩
  · simp at h1
  · simp at hv; omega
theorem Own.alloc (h : Own w0 B w g n cap xs) (o : Obj) : Own w0 B (w.alloc o) g n cap xs := ⟨h.row.alloc o, h.bel.alloc h.size o, h.byte⟩
theorem getD_byte {xs : List Int} (h : ∀ x ∈ xs, 0 ≤ x ∧ x ≤ 255) (k : Nat) : 0 ≤ xs.getD k 0 ∧ xs.getD k 0 ≤ 255 := by
  by_cases hk : k < xs.length
  · rw [List.getD_eq_getElem?_getD, List.getElem?_eq_getElem hk]; exact h _ (List.getElem_mem hk)
  · rw [List.getD_eq_getElem?_getD, List.getElem?_eq_none (by omega)]; simp
theorem Own.bts (h : Own w0 B w g n cap xs) : Bts w g 0 n (bt xs) := by
  intro k hk
  unfold bt
  have hl := h.len
  refine ⟨?_, getD_byte h.byte k⟩
  rw [Nat.zero_add, h.row.cellAt k (by omega), List.getElem?_map, List.getElem?_eq_getElem (by omega)]
  simp [List.getElem?_eq_getElem (show k < xs.length by omega)]

/-- What 'wpList_make_own' leaves. -/
theorem own_made {W : World} (hrow : w.ownsRow B 5 1 (.slice (some ⟨g, 0, none⟩) 0 cap) 0 []) (hg : W.grownBy w none) (hb : Below B w0 W) (hB : B ≤ W.heap.size) : Own w0 B w g 0 cap [] :=
  ⟨hrow, hb.grown hg hB (by intro k hk; cases hk), by simp⟩

theorem own_shape {W : World} {v' : Value} {m : Nat} {ys : List Value} (h : W.ownsRow B 5 1 v' m ys) (hne : v' ≠ .slice none 0 0) : ∃ g' cap', v' = .slice (some ⟨g', 0, none⟩) m cap' := by
  rcases h.2 with ⟨h1, _⟩ | ⟨g', cap', cur, hv, _⟩
  · exact absurd h1 hne
  · exact ⟨g', cap', hv⟩

theorem own_next {W : World} {v' : Value} {m : Nat} {news : List Int} (h : Own w0 B w g n cap xs) (hb : ∀ x ∈ news, 0 ≤ x ∧ x ≤ 255)
    (hrow : W.ownsRow B 5 1 v' (n + m) (xs.map (Value.int .u8) ++ news.map (Value.int .u8))) (hg : w.grownBy W (some g)) (hne : v' ≠ .slice none 0 0) :
    ∃ g' cap', v' = .slice (some ⟨g', 0, none⟩) (n + m) cap' ∧ Own w0 B W g' (n + m) cap' (xs ++ news) := by
  obtain ⟨g', cap', rfl⟩ := own_shape hrow hne
  refine ⟨g', cap', rfl, by rw [List.map_append]; exact hrow, h.bel.grown hg h.size ?_, ?_⟩
  · intro k hk
    have := h.lt
    simp at hk
    omega
  · intro x hx
    rcases List.mem_append.1 hx with hx | hx
    · exact h.byte x hx
    · exact hb x hx
end

section
variable {ops : Array Oper} {rest : List Oper} {o : Oper} {a : Act} {Q : Exit → Act → World → Prop} {w0 w : World} {B g n cap : Nat} {xs : List Int}

/-- 'buf = append(buf, src...)', src at an address, its m bytes 'news'. -/
theorem wpl_app (hgd : o.guard = none) (s x : Operand) (ho : o.op = .call { callee := .builtin .append, args := #[s, x], argTypes := #[22, 22] })
    (H : Own w0 B w g n cap xs) (hs : a.eval s = .slice (some ⟨g, 0, none⟩) n cap) (ad : Addr) (m c : Nat) (hx : a.eval x = .slice (some ad) m c) (news : List Int)
    (hm : news.length = m) (hcell : ∀ j, j < m → w.cell? (ad.add j) = some (.int .u8 (news.getD j 0))) (hb : ∀ x ∈ news, 0 ≤ x ∧ x ≤ 255) (hlen : n + m ≤ 100000000)
    (h : ∀ g' cap' w', Own w0 B w' g' (n + m) cap' (xs ++ news) → wpList Try.prog ops Q rest (a.put o.dst (.slice (some ⟨g', 0, none⟩) (n + m) cap')) w') : wpList Try.prog ops Q (o :: rest) a w := by
  obtain ⟨i0, hi, hz0, hz1, hz2⟩ := info_parts info5
  refine wpList_append_own w hgd s x 22 ho B 5 i0 (.int .u8 0) 1 1 Try.underlying22 hi hz0 hz1 hz2 rfl (by decide) _ n _ hs H.row ad m c (news.map (Value.int .u8)) hx (by simp [hm]) ?_ ?_ (by unfold maxLen; omega) (by omega) H.size ?_
  · intro j u hj
    rw [List.getElem?_map] at hj
    by_cases hjm : j < m
    · rw [List.getElem?_eq_getElem (by omega)] at hj
      simp at hj
      rw [hcell j hjm, ← hj, List.getD_eq_getElem?_getD, List.getElem?_eq_getElem (by omega)]
      rfl
    · rw [List.getElem?_eq_none (by omega)] at hj
      simp at hj
  · exact ints_oneCell .u8 news
  · intro v' w' hown hgrow hiff
    obtain ⟨g', cap', rfl, H'⟩ := own_next H hb hown hgrow (by intro e; have := (hiff.1 e).1; simp at this)
    exact h g' cap' w' H'

/-- One byte, laid in a new block first. -/
theorem wpl_app1 (hgd : o.guard = none) (s x : Operand) (ho : o.op = .call { callee := .builtin .append, args := #[s, x], argTypes := #[22, 22] })
    (H : Own w0 B w g n cap xs) (hs : a.eval s = .slice (some ⟨g, 0, none⟩) n cap) (y : Int) (hx : a.eval x = .slice (some ⟨w.heap.size, 0, none⟩) 1 1)
    (h0 : 0 ≤ y) (h1 : y ≤ 255) (hlen : n + 1 ≤ 100000000)
    (h : ∀ g' cap' w', Own w0 B w' g' (n + 1) cap' (xs ++ [y]) → wpList Try.prog ops Q rest (a.put o.dst (.slice (some ⟨g', 0, none⟩) (n + 1) cap')) w') : wpList Try.prog ops Q (o :: rest) a (w.alloc (.cells #[.int .u8 y] 5)) := by
  refine wpl_app hgd s x ho (H.alloc _) hs ⟨w.heap.size, 0, none⟩ 1 1 hx [y] rfl ?_ (by simp; omega) hlen h
  intro j hj
  obtain rfl : j = 0 := by omega
  exact cell_one_new _ _ _ 0 _ rfl

/-- Two bytes, laid in a new block first. -/
theorem wpl_app2 (hgd : o.guard = none) (s x : Operand) (ho : o.op = .call { callee := .builtin .append, args := #[s, x], argTypes := #[22, 22] })
    (H : Own w0 B w g n cap xs) (hs : a.eval s = .slice (some ⟨g, 0, none⟩) n cap) (y z : Int) (hx : a.eval x = .slice (some ⟨w.heap.size, 0, none⟩) 2 2)
    (h0 : 0 ≤ y) (h1 : y ≤ 255) (h2 : 0 ≤ z) (h3 : z ≤ 255) (hlen : n + 2 ≤ 100000000)
    (h : ∀ g' cap' w', Own w0 B w' g' (n + 2) cap' (xs ++ [y, z]) → wpList Try.prog ops Q rest (a.put o.dst (.slice (some ⟨g', 0, none⟩) (n + 2) cap')) w') : wpList Try.prog ops Q (o :: rest) a (w.alloc (.cells #[.int .u8 y, .int .u8 z] 5)) := by
  refine wpl_app hgd s x ho (H.alloc _) hs ⟨w.heap.size, 0, none⟩ 2 2 hx [y, z] rfl ?_ (by simp; omega) hlen h
  intro j hj
  have : j = 0 ∨ j = 1 := by omega
  rcases this with rfl | rfl
  · exact cell_two_new _ _ _ _ 0 _ rfl
  · exact cell_two_new _ _ _ _ 1 _ rfl

/-- A nil source. -/
theorem wpl_app_none (hgd : o.guard = none) (s x : Operand) (ho : o.op = .call { callee := .builtin .append, args := #[s, x], argTypes := #[22, 22] })
    (H : Own w0 B w g n cap xs) (hs : a.eval s = .slice (some ⟨g, 0, none⟩) n cap) (hx : a.eval x = .slice none 0 0)
    (h : wpList Try.prog ops Q rest (a.put o.dst (.slice (some ⟨g, 0, none⟩) n cap)) w) : wpList Try.prog ops Q (o :: rest) a w := by
  obtain ⟨i0, hi, hz0, hz1, hz2⟩ := info_parts info5
  exact wpList_append_own_none hgd s x 22 ho B 5 i0 1 Try.underlying22 hi _ n _ hs H.row hx h

/-- A constant string. -/
theorem wpl_apps (hgd : o.guard = none) (s x : Operand) (ho : o.op = .call { callee := .builtin .append, args := #[s, x], argTypes := #[22, 9] })
    (H : Own w0 B w g n cap xs) (hs : a.eval s = .slice (some ⟨g, 0, none⟩) n cap) (t : ByteArray) (hx : a.eval x = .string t) (m : Nat) (news : List Int) (hm : t.size = m) (hn : Lib.strCells t = news.map (Value.int .u8))
    (hb : ∀ x ∈ news, 0 ≤ x ∧ x ≤ 255) (hlen : n + m ≤ 100000000)
    (h : ∀ g' cap' w', Own w0 B w' g' (n + m) cap' (xs ++ news) → wpList Try.prog ops Q rest (a.put o.dst (.slice (some ⟨g', 0, none⟩) (n + m) cap')) w') : wpList Try.prog ops Q (o :: rest) a w := by
  subst hm
  obtain ⟨i0, hi, hz0, hz1, hz2⟩ := info_parts info5
  refine Lib.wpList_append_own_string w hgd s x 22 9 ho B 5 i0 Try.underlying22 Try.underlying9 hi hz0 hz1 hz2 _ n _ hs H.row t hx (by unfold maxLen; omega) (by omega) H.size ?_
  intro v' w' hown hgrow hiff
  rw [hn] at hown
  obtain ⟨g', cap', rfl, H'⟩ := own_next H hb hown hgrow (by intro e; have := (hiff.1 e).1; simp at this)
  exact h g' cap' w' H'

/-- 'make([]byte, 0, n)'. -/
theorem wpl_make0 (hgd : o.guard = none) (l c : Operand) (ho : o.op = Op.makeSlice 22 l c) (hl : a.eval l = .int .i64 0) (C : Int) (hc : a.eval c = .int .i64 C) (m : Nat) (hC : C = (m : Int)) (hm : m ≤ 100000000)
    (hbel : Below B w0 w) (hB : B ≤ w.heap.size)
    (h : ∀ w', Own w0 B w' w.heap.size 0 m [] → wpList Try.prog ops Q rest (a.put o.dst (.slice (some ⟨w.heap.size, 0, none⟩) 0 m)) w') : wpList Try.prog ops Q (o :: rest) a w := by
  obtain ⟨i0, hi, hz0, hz1, hz2⟩ := info_parts info5
  refine wpList_make_own w hgd l c 22 ho B 5 i0 (.int .u8 0) 1 Try.underlying22 hi hz0 hz1 .i64 .i64 C m hl hc hC (by rw [hz2]; omega) (by unfold maxLen; omega) hB ?_
  intro w' hown hgrow
  exact h w' (own_made hown hgrow hbel hB)
end

/-! ### A slice that came in -/

/-- WHAT THE WALK IS TOLD OF A SLICE OF INTEGERS THAT CAME IN (the shells' own word). -/
def IsRow (k : IntKind) (w : World) (a : Option Addr) (len cap : Nat) (zs : List Int) : Prop :=
  (a = none ∧ len = 0 ∧ cap = 0 ∧ zs = []) ∨
  ∃ x, a = some x ∧ len ≤ cap ∧ cap ≤ maxLen ∧ zs.length = cap ∧ (∀ i, i < zs.length → w.cell? (x.add i) = some (.int k (zs.getD i 0))) ∧ ∀ n ∈ zs, (Lit.int k n).wf = true

section
variable {w0 w : World} {a : Option Addr} {len cap : Nat} {zs : List Int}
theorem IsRow.len_le (h : IsRow .u8 w a len cap zs) : (zs.take len).length = len := by
  rcases h with ⟨_, rfl, _, rfl⟩ | ⟨x, _, hl, _, hz, _⟩
  · rfl
  · rw [List.length_take]; omega
theorem IsRow.byte (h : IsRow .u8 w a len cap zs) : ∀ n ∈ zs, 0 ≤ n ∧ n ≤ 255 := by
  rcases h with ⟨_, rfl, _, rfl⟩ | ⟨x, _, hl, _, hz, _, hw⟩
  · simp
  · exact fun n hn => bounds_u8 (hw n hn)
theorem IsRow.byte_take (h : IsRow .u8 w a len cap zs) : ∀ n ∈ zs.take len, 0 ≤ n ∧ n ≤ 255 := fun n hn => h.byte n (List.mem_of_mem_take hn)
theorem getD_take {zs : List Int} {len j : Nat} (h : j < len) : (zs.take len).getD j 0 = zs.getD j 0 := by
  rw [List.getD_eq_getElem?_getD, List.getD_eq_getElem?_getD, List.getElem?_take, if_pos h]
/-- It is nil; or its bytes lie at an address, in every later world. -/
theorem IsRow.view (h : IsRow .u8 w a len cap zs) : (a = none ∧ len = 0 ∧ cap = 0 ∧ zs = []) ∨
    ∃ x, a = some x ∧ len ≤ cap ∧ ∀ w', Below w.heap.size w w' → ∀ j, j < len → w'.cell? (x.add j) = some (.int .u8 ((zs.take len).getD j 0)) := by
  rcases h with h | ⟨x, hx, hl, _, hz, hc, _⟩
  · exact .inl h
  · refine .inr ⟨x, hx, hl, fun w' hb j hj => ?_⟩
    have h1 := hc j (by omega)
    rw [hb.cell (World.block_lt_of_cell? _ _ h1), h1, getD_take hj]
end

section
variable {ops : Array Oper} {rest : List Oper} {o : Oper} {a : Act} {Q : Exit → Act → World → Prop} {w0 w : World} {g n cap : Nat} {xs : List Int}
/-- 'buf = append(buf, src...)', src a slice that came in, nil or not. -/
theorem wpl_app_in (hgd : o.guard = none) (s x : Operand) (ho : o.op = .call { callee := .builtin .append, args := #[s, x], argTypes := #[22, 22] })
    (H : Own w0 w0.heap.size w g n cap xs) (hs : a.eval s = .slice (some ⟨g, 0, none⟩) n cap) (a2 : Option Addr) (len2 cap2 : Nat) (hx : a.eval x = .slice a2 len2 cap2) (z2 : List Int) (hrow : IsRow .u8 w0 a2 len2 cap2 z2)
    (hlen : n + len2 ≤ 100000000)
    (h : ∀ g' cap' w', Own w0 w0.heap.size w' g' (n + len2) cap' (xs ++ z2.take len2) → wpList Try.prog ops Q rest (a.put o.dst (.slice (some ⟨g', 0, none⟩) (n + len2) cap')) w') : wpList Try.prog ops Q (o :: rest) a w := by
  rcases hrow.view with ⟨rfl, rfl, rfl, rfl⟩ | ⟨ad, rfl, hlc, hc⟩
  · refine wpl_app_none hgd s x ho H hs hx ?_
    have := h g cap w (by simpa using H)
    simpa using this
  · exact wpl_app hgd s x ho H hs ad len2 cap2 hx (z2.take len2) hrow.len_le (hc w H.bel) hrow.byte_take hlen h
end

end Go.Proofs.Qxb6600660a
