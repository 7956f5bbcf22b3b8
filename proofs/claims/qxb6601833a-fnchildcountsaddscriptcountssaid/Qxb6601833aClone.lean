import Derived.Test.Qxb6601833aStrs
namespace Go.Proofs.Qxb6601833a
open Go.RowKit

theorem info9 : (Try.prog.info? 9).map (fun i => (i.zero, i.size, i.bytes)) = some (some (.string ByteArray.empty), 1, 16) := by kernel_rfl
theorem eql_nil : ∀ (w : World) (a : Option Addr) (n c n' c' : Nat), (binOp .eql 22 (.slice a n c) (.slice none n' c')).run Try.prog w = .ok (.bool a.isNone) w :=
  fun w a n c n' c' => Lib.run_eql_slice_nil w 22 9 a n c n' c' Try.underlying22

/-- What 'cloneStrings' leaves: as many strings; the same ones, in memory of the call's own. -/
def Cloned (w : World) (n : Nat) (st : Nat → ByteArray) (e : Ending) (w' : World) : Prop := ∃ (a' : Option Addr) (c' : Nat), e = .returned (.slice a' n c') ∧ Below w.heap.size w w' ∧
  (0 < n → ∃ g, a' = some ⟨g, 0, none⟩ ∧ w.heap.size ≤ g ∧ g < w'.heap.size ∧ Sts w' g 0 n st)

theorem clone_nil (st : Nat → ByteArray) (w : World) : Calls Try.prog 7 #[.slice none 0 0] w (Cloned w 0 st) := by
  have hq := eql_nil
  go_enter Try.func7, Try.ntmps7
  go_wp2
  go_ret
  exact ⟨_, _, rfl, Below.refl _ _, fun h => absurd h (Nat.lt_irrefl _)⟩

theorem set_upto {xs : List Value} {k n : Nat} {st : Nat → ByteArray} (hk : k < n) (hl : xs.length = n) (h : ∀ j, j < k → xs[j]? = some (.string (st j))) : ∀ j, j < k + 1 → (xs.set k (.string (st k)))[j]? = some (.string (st j)) := by
  intro j hj
  by_cases e : j = k
  · subst e; rw [List.getElem?_set_self (by omega)]
  · rw [List.getElem?_set_ne (by omega)]; exact h j (by omega)
theorem set_all {xs : List Value} {k n : Nat} {s : ByteArray} (hk : k < n) (hl : xs.length = n) (h : ∀ j, j < n → ∃ s, xs[j]? = some (.string s)) : ∀ j, j < n → ∃ s', (xs.set k (.string s))[j]? = some (.string s') := by
  intro j hj
  by_cases e : j = k
  · subst e; exact ⟨s, by rw [List.getElem?_set_self (by omega)]⟩
  · rw [List.getElem?_set_ne (by omega)]; exact h j hj

set_option maxHeartbeats 1000000 in
theorem clone_some (x : Addr) (n cap : Nat) (st : Nat → ByteArray) (w : World) (r0 : IsStrs w (some x) n cap st) (hn : n ≤ 65536) :
    Calls Try.prog 7 #[.slice (some x) n cap] w (Cloned w n st) := by
  have hq := eql_nil
  obtain ⟨i0, hi, hz0, hz1, hz2⟩ := info_parts info9
  go_enter Try.func7, Try.ntmps7
  go_wp2_with (at_make; refine wpList_make_full _ rfl _ _ 22 rfl w.heap.size 9 i0 (.string ByteArray.empty) 1 Try.underlying22 hi hz0 hz1 .i64 .i64 _ _ n rfl rfl rfl rfl (by rw [hz2]; omega) (by unfold maxLen; omega) (Nat.le_refl _) ?_; intro w1 hown hgrow)
  go_loopw [4] (fun u wr => ∃ (k : Nat) (xs : List Value), u = .int .i64 k ∧ k ≤ n ∧ wr.ownsRow w.heap.size 9 1 (.slice (some ⟨w.heap.size, 0, none⟩) n n) n xs ∧ Hid (∀ j, j < k → xs[j]? = some (.string (st j))) ∧ (∀ j, j < n → ∃ s, xs[j]? = some (.string s)) ∧ Below w.heap.size w wr) (fun u _ => n - (intOf u).toNat)
  case atStart =>
    refine ⟨0, _, rfl, by omega, hown, fun j hj => absurd hj (Nat.not_lt_zero _), fun j hj => ⟨ByteArray.empty, ?_⟩, (Below.refl _ _).grown hgrow (Nat.le_refl _) (by intro k hk; cases hk)⟩
    rw [Nat.mul_one]
    show (madeCells #[Value.string ByteArray.empty] n).toList[j]? = _
    rw [toList_madeCells_one, List.getElem?_replicate, if_pos hj]
  case round =>
    clear hown hgrow
    obtain ⟨k, xs, rfl, hk, hown, hd, hall, hbel⟩ := hrel
    by_cases hlt : k < n
    · obtain ⟨b, off, hxe, hs, _⟩ := r0.plain (by omega)
      obtain rfl : x = ⟨b, off, none⟩ := by simpa using hxe
      have hc := hs wr hbel k hlt
      obtain ⟨s, hs'⟩ := hall k hlt
      have hc2 : wr.cell? ⟨w.heap.size, k, none⟩ = some (.string s) := (hown.cellAt k (by omega)).trans hs'
      have hf2 := hown.frozenAt k
      have hl : xs.length = n := by simpa using hown.1
      have hst := hown.stored k (.string (st k))
      have H1 : Hid _ := hst.1
      have H2 : Hid _ := set_upto hlt hl hd.out
      have H3 : Hid _ := set_all (s := st k) hlt hl hall
      have H4 : Hid _ := hbel.setCell (p := ⟨w.heap.size, k, none⟩) (Nat.le_refl _) (.string (st k))
      clear hs hxe hst hall hl
      go_wp2
      go_roundw
      case rel => exact ⟨k + 1, _, by go_num, by omega, H1, H2, H3, H4⟩
      case measure => simp [intOf]; omega
    · obtain rfl : k = n := by omega
      have hg := (hown.lt w.heap.size rfl).2
      have HC : Hid (Sts wr w.heap.size 0 k st) := fun j hj => by rw [Nat.zero_add, hown.cellAt j (by omega)]; exact hd.out j hj
      clear hd hall
      go_wp2
      go_ret
      exact ⟨_, _, rfl, hbel, fun _ => ⟨_, rfl, Nat.le_refl _, hg, HC⟩⟩

theorem clone_any (a : Option Addr) (n cap : Nat) (st : Nat → ByteArray) (w : World) (r0 : IsStrs w a n cap st) (hn : n ≤ 65536) : Calls Try.prog 7 #[.slice a n cap] w (Cloned w n st) := by
  have r := r0
  rcases r with ⟨rfl, rfl, rfl⟩ | ⟨x, rfl, _⟩
  · exact clone_nil st w
  · exact clone_some x n cap st w r0 hn

/-! ### The counter -/
/-- Block b holds the four counts. -/
def Cnt (w : World) (b : Nat) (A B C D : Int) : Prop := w.heap[b]? = some (.cells #[.int .i64 A, .int .i64 B, .int .i64 C, .int .i64 D] 27 (0, 0))

def rn (s : ByteArray) : Int := if (s.toList == [114, 117, 110, 110, 105, 110, 103]) = true then 1 else 0
def sp (k : ByteArray) : Int := if (k.toList == [115, 117, 112, 101, 114, 118, 105, 115, 111, 114]) = true then 1 else 0
theorem rn_t {s : ByteArray} (h : (s.toList == [114, 117, 110, 110, 105, 110, 103]) = true) : rn s = 1 := if_pos h
theorem rn_f {s : ByteArray} (h : (s.toList == [114, 117, 110, 110, 105, 110, 103]) = false) : rn s = 0 := if_neg (by rw [h]; decide)
theorem sp_t {k : ByteArray} (h : (k.toList == [115, 117, 112, 101, 114, 118, 105, 115, 111, 114]) = true) : sp k = 1 := if_pos h
theorem sp_f {k : ByteArray} (h : (k.toList == [115, 117, 112, 101, 114, 118, 105, 115, 111, 114]) = false) : sp k = 0 := if_neg (by rw [h]; decide)
theorem rn_b (s : ByteArray) : 0 ≤ rn s ∧ rn s ≤ 1 := by unfold rn; split <;> omega
theorem sp_b (k : ByteArray) : 0 ≤ sp k ∧ sp k ≤ 1 := by unfold sp; split <;> omega

theorem upd_set {w w' : World} {b : Nat} (h : w.grownBy w' (some b)) (j : Nat) (u : Value) : w.grownBy (w'.setCell ⟨b, j, none⟩ u) (some b) :=
  ⟨h.os, h.tape, h.output, by simpa using h.size, fun k hk hne => (heap_setCell_other w' ⟨b, j, none⟩ k u (fun e => hne (by simp [e]))).trans (h.block k hk hne)⟩
theorem cnt_set {w : World} {b : Nat} {A B C D : Int} (h : Cnt w b A B C D) :
    (∀ x, Cnt (w.setCell ⟨b, 0, none⟩ (.int .i64 x)) b x B C D) ∧ (∀ x, Cnt (w.setCell ⟨b, 1, none⟩ (.int .i64 x)) b A x C D) ∧ (∀ x, Cnt (w.setCell ⟨b, 2, none⟩ (.int .i64 x)) b A B x D) ∧ (∀ x, Cnt (w.setCell ⟨b, 3, none⟩ (.int .i64 x)) b A B C x) :=
  ⟨fun x => heap_setCell_same w b 0 _ 27 (.int .i64 x) h, fun x => heap_setCell_same w b 1 _ 27 (.int .i64 x) h, fun x => heap_setCell_same w b 2 _ 27 (.int .i64 x) h, fun x => heap_setCell_same w b 3 _ 27 (.int .i64 x) h⟩

/-- What 'add' leaves. -/
def Added (w : World) (b : Nat) (A B C D : Int) (k s : ByteArray) (e : Ending) (w' : World) : Prop :=
  e = .returned (.tuple #[]) ∧ Cnt w' b (A + 1) (B + rn s) (C + sp k) (D + (1 - sp k)) ∧ w.grownBy w' (some b)

set_option maxHeartbeats 1000000 in
theorem add_any (b : Nat) (A B C D : Int) (k s : ByteArray) (w : World) (H : Cnt w b A B C D) (hA : 0 ≤ A ∧ A ≤ 100000) (hB : 0 ≤ B ∧ B ≤ 100000) (hC : 0 ≤ C ∧ C ≤ 100000) (hD : 0 ≤ D ∧ D ≤ 100000) :
    Calls Try.prog 12 #[.pointer (some ⟨b, 0, none⟩), .string k, .string s] w (Added w b A B C D k s) := by
  have c0 : w.cell? ⟨b, 0, none⟩ = some (.int .i64 A) := by rw [cell_of_row w b 0 _ 27 (0, 0) H]; rfl
  have c1 : w.cell? ⟨b, 1, none⟩ = some (.int .i64 B) := by rw [cell_of_row w b 1 _ 27 (0, 0) H]; rfl
  have c2 : w.cell? ⟨b, 2, none⟩ = some (.int .i64 C) := by rw [cell_of_row w b 2 _ 27 (0, 0) H]; rfl
  have c3 : w.cell? ⟨b, 3, none⟩ = some (.int .i64 D) := by rw [cell_of_row w b 3 _ 27 (0, 0) H]; rfl
  have f0 : w.frozen? ⟨b, 0, none⟩ = false := frozen_of_row w b 0 _ 27 H
  have f1 : w.frozen? ⟨b, 1, none⟩ = false := frozen_of_row w b 1 _ 27 H
  have f2 : w.frozen? ⟨b, 2, none⟩ = false := frozen_of_row w b 2 _ 27 H
  have f3 : w.frozen? ⟨b, 3, none⟩ = false := frozen_of_row w b 3 _ 27 H
  obtain ⟨a0, a1⟩ := hA
  obtain ⟨b0, b1⟩ := hB
  obtain ⟨e0, e1⟩ := hC
  obtain ⟨d0, d1⟩ := hD
  have HH : Hid (Cnt w b A B C D) := H
  clear H
  have hg := World.grownBy.refl w (some b)
  by_cases hs : (s.toList == [114, 117, 110, 110, 105, 110, 103]) = true
  · have HR : Hid (rn s = 1) := rn_t hs
    by_cases hk : (k.toList == [115, 117, 112, 101, 114, 118, 105, 115, 111, 114]) = true
    · have HS : Hid (sp k = 1) := sp_t hk
      have HF : Hid _ := ((cnt_set ((cnt_set ((cnt_set HH.out).1 (A + 1))).2.1 (B + 1))).2.2.1 (C + 1))
      have HG : Hid _ := upd_set (upd_set (upd_set hg 0 (.int .i64 (A + 1))) 1 (.int .i64 (B + 1))) 2 (.int .i64 (C + 1))
      clear hg
      go_enter Try.func12, Try.ntmps12
      go_wp2
      go_end0
      exact ⟨rfl, by rw [HR.out, HS.out, show D + (1 - 1) = D by omega]; exact HF.out, HG.out⟩
    · have hk' : (k.toList == [115, 117, 112, 101, 114, 118, 105, 115, 111, 114]) = false := by simpa using hk
      have HS : Hid (sp k = 0) := sp_f hk'
      have HF : Hid _ := ((cnt_set ((cnt_set ((cnt_set HH.out).1 (A + 1))).2.1 (B + 1))).2.2.2 (D + 1))
      have HG : Hid _ := upd_set (upd_set (upd_set hg 0 (.int .i64 (A + 1))) 1 (.int .i64 (B + 1))) 3 (.int .i64 (D + 1))
      clear hg hk
      go_enter Try.func12, Try.ntmps12
      go_wp2
      go_end0
      exact ⟨rfl, by rw [HR.out, HS.out, show C + 0 = C by omega, show D + (1 - 0) = D + 1 by omega]; exact HF.out, HG.out⟩
  · have hs' : (s.toList == [114, 117, 110, 110, 105, 110, 103]) = false := by simpa using hs
    have HR : Hid (rn s = 0) := rn_f hs'
    clear hs
    by_cases hk : (k.toList == [115, 117, 112, 101, 114, 118, 105, 115, 111, 114]) = true
    · have HS : Hid (sp k = 1) := sp_t hk
      have HF : Hid _ := ((cnt_set ((cnt_set HH.out).1 (A + 1))).2.2.1 (C + 1))
      have HG : Hid _ := upd_set (upd_set hg 0 (.int .i64 (A + 1))) 2 (.int .i64 (C + 1))
      clear hg
      go_enter Try.func12, Try.ntmps12
      go_wp2
      go_end0
      exact ⟨rfl, by rw [HR.out, HS.out, show B + 0 = B by omega, show D + (1 - 1) = D by omega]; exact HF.out, HG.out⟩
    · have hk' : (k.toList == [115, 117, 112, 101, 114, 118, 105, 115, 111, 114]) = false := by simpa using hk
      have HS : Hid (sp k = 0) := sp_f hk'
      have HF : Hid _ := ((cnt_set ((cnt_set HH.out).1 (A + 1))).2.2.2 (D + 1))
      have HG : Hid _ := upd_set (upd_set hg 0 (.int .i64 (A + 1))) 3 (.int .i64 (D + 1))
      clear hg hk
      go_enter Try.func12, Try.ntmps12
      go_wp2
      go_end0
      exact ⟨rfl, by rw [HR.out, HS.out, show B + 0 = B by omega, show C + 0 = C by omega, show D + (1 - 0) = D + 1 by omega]; exact HF.out, HG.out⟩

theorem zzadd_any (b : Nat) (A B C D : Int) (k s : ByteArray) (w : World) (H : Cnt w b A B C D) (hA : 0 ≤ A ∧ A ≤ 100000) (hB : 0 ≤ B ∧ B ≤ 100000) (hC : 0 ≤ C ∧ C ≤ 100000) (hD : 0 ≤ D ∧ D ≤ 100000) :
    Calls Try.prog 8 #[.pointer (some ⟨b, 0, none⟩), .string k, .string s] w (Added w b A B C D k s) := by
  have HC : Hid _ := add_any b A B C D k s w H hA hB hC hD
  clear H hA hB hC hD
  go_enter Try.func8, Try.ntmps8
  go_wp2_with (go_at_call 12; refine Calls.mono HC.out ?_; rintro e w' ⟨rfl, hF, hG⟩)
  go_end0
  exact ⟨rfl, hF, hG⟩

end Go.Proofs.Qxb6601833a
