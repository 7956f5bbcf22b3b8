import Derived.Test.Qxb6600660aRow
import Derived.Laws.CopyOwn
namespace Go.Proofs.Qxb6600660a
open Go.RowKit

section
variable {ops : Array Oper} {rest : List Oper} {o : Oper} {a : Act} {Q : Exit → Act → World → Prop} {w0 w : World} {B g n : Nat} {xs : List Int}

/-- 'make([]byte, n)': n zero bytes. -/
theorem wpl_makefull (hgd : o.guard = none) (l c : Operand) (ho : o.op = Op.makeSlice 22 l c) (m : Nat) (L C : Int) (hl : a.eval l = .int .i64 L) (hc : a.eval c = .int .i64 C) (hL : L = (m : Int)) (hC : C = (m : Int)) (hm : m ≤ 100000000)
    (hbel : Below B w0 w) (hB : B ≤ w.heap.size)
    (h : ∀ w', Own w0 B w' w.heap.size m m (List.replicate m 0) → wpList Try.prog ops Q rest (a.put o.dst (.slice (some ⟨w.heap.size, 0, none⟩) m m)) w') : wpList Try.prog ops Q (o :: rest) a w := by
  obtain ⟨i0, hi, hz0, hz1, hz2⟩ := info_parts info5
  refine wpList_make_full w hgd l c 22 ho B 5 i0 (.int .u8 0) 1 Try.underlying22 hi hz0 hz1 .i64 .i64 L C m hl hc hL hC (by rw [hz2]; omega) (by unfold maxLen; omega) hB ?_
  intro w' hown hgrow
  refine h w' ⟨?_, hbel.grown hgrow hB (by intro k hk; cases hk), ?_⟩
  · have e : (madeCells (Value.int IntKind.u8 0).cells (m * 1)).toList = (List.replicate m (0 : Int)).map (Value.int .u8) := by
      rw [Nat.mul_one]
      show (madeCells #[Value.int IntKind.u8 0] m).toList = _
      rw [toList_madeCells_one, List.map_replicate]
    rw [e] at hown
    exact hown
  · intro x hx
    have := List.eq_of_mem_replicate hx
    omega

/-- 'copy(dst, src)': dst whole, of src's length; src came in. -/
theorem wpl_copy (hgd : o.guard = none) (d s : Operand) (ho : o.op = .call { callee := .builtin .copy, args := #[d, s], argTypes := #[22, 22] })
    (H : Own w0 w0.heap.size w g n n xs) (hd : a.eval d = .slice (some ⟨g, 0, none⟩) n n) (a2 : Option Addr) (cap2 : Nat) (hs : a.eval s = .slice a2 n cap2) (z2 : List Int) (hrow : IsRow .u8 w0 a2 n cap2 z2)
    (h : ∀ w', Own w0 w0.heap.size w' g n n (z2.take n) → wpList Try.prog ops Q rest (a.put o.dst (.int .i64 (n : Int))) w') : wpList Try.prog ops Q (o :: rest) a w := by
  rcases H.row.2 with ⟨hnil, _⟩ | ⟨g', cap', cur, hv, hbg, hg, hnc, hcm, hcs, htake⟩
  · simp at hnil
  obtain ⟨rfl, rfl⟩ : g = g' ∧ n = cap' := by simpa using hv
  have hlen := hrow.len_le
  have hcl : cur.toList.length = n := by simpa using hcs
  refine wpList_copy_splice hgd d s 22 22 ho 5 Try.underlying22 (by kernel_rfl) (some ⟨g, 0, none⟩) a2 n n n cap2 hd hs g 0 cur.toList 5 (by simpa using hg) ((z2.take n).map (Value.int .u8)) (by rw [List.length_map, hlen]; exact (Nat.min_self n).symm) ?_ (by simp; omega) (ints_oneCell .u8 _) w0.heap.size w0 H.bel hbg ?_
  · intro hpos
    refine ⟨rfl, ?_⟩
    rcases hrow.view with ⟨_, h0, _⟩ | ⟨x, rfl, hlc, hc⟩
    · simp at hpos; omega
    · refine ⟨x, rfl, fun j v hj => ?_⟩
      rw [List.getElem?_map] at hj
      by_cases hjn : j < n
      · rw [List.getElem?_eq_getElem (by omega)] at hj
        rw [hc w H.bel j hjn, ← Option.some.inj hj, List.getD_eq_getElem?_getD, List.getElem?_eq_getElem (by omega)]
        rfl
      · rw [List.getElem?_eq_none (by omega)] at hj
        cases hj
  · intro w' hg' hb'
    have e : splice cur.toList 0 ((z2.take n).map (Value.int .u8)) = (z2.take n).map (Value.int .u8) := by
      unfold splice
      rw [List.take_zero, List.nil_append, List.drop_eq_nil_of_le (by simp only [List.length_map]; omega), List.append_nil]
    have hg2 := hg'.out
    rw [e] at hg2
    have hgo : goInt (((z2.take n).map (Value.int .u8)).length : Nat) = .int .i64 (n : Int) := by simp only [List.length_map, hlen]; rfl
    rw [hgo]
    refine h w' ⟨⟨by simp only [List.length_map]; omega, .inr ⟨g, n, _, rfl, hbg, hg2, Nat.le_refl _, hcm, by simp only [List.size_toArray, List.length_map]; omega, ?_⟩⟩, hb', hrow.byte_take⟩
    exact List.take_of_length_le (by simp only [List.length_map]; omega)
end

/-- 's != nil'. -/
theorem neq_nil : ∀ (w : World) (a : Option Addr) (n c n' c' : Nat), (binOp .neq 22 (.slice a n c) (.slice none n' c')).run Try.prog w = .ok (.bool (!a.isNone)) w :=
  fun w a n c n' c' => run_neq_slice_nil_any w 22 5 a n c n' c' Try.underlying22

end Go.Proofs.Qxb6600660a
