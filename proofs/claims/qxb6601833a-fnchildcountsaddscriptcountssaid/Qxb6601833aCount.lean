import Derived.Test.Qxb6601833aClone
import Derived.Deep.DeepCutAuto
import Derived.Deep.CutBlock
import Derived.Deep.QuietTactic
import Derived.BigQuiet
import Derived.Deep.RegionHeld3
namespace Go.Proofs.Qxb6601833a
open Go.RowKit

theorem IsStrs.below {w w' : World} {a : Option Addr} {len cap : Nat} {st : Nat → ByteArray} (h : IsStrs w a len cap st) (hb : Below w.heap.size w w') : IsStrs w' a len cap st := by
  rcases h with h | ⟨x, hx, hl, hm, hc⟩
  · exact .inl h
  · refine .inr ⟨x, hx, hl, hm, fun i hi => ⟨?_, (hc i hi).2⟩⟩
    have h1 := (hc i hi).1
    rw [hb.cell (World.block_lt_of_cell? _ _ h1), h1]
theorem Sts.below {w w' : World} {g off n B : Nat} {st : Nat → ByteArray} (h : Sts w g off n st) (hg : g < B) (hb : Below B w w') : Sts w' g off n st := fun k hk => (hb.cell (p := ⟨g, off + k, none⟩) hg).trans (h k hk)

/-- What the sums come to. -/
def csum (f : Nat → Int) : Nat → Int
  | 0 => 0
  | k + 1 => csum f k + f k

theorem csum_b {f : Nat → Int} (h : ∀ j, 0 ≤ f j ∧ f j ≤ 1) : ∀ k : Nat, 0 ≤ csum f k ∧ csum f k ≤ k
  | 0 => by simp [csum]
  | k + 1 => by
    have h1 := csum_b h k
    have h2 := h k
    rw [csum]; omega
/-- The counts behind k children. -/
def CntK (w : World) (b : Nat) (s0 s1 : Nat → ByteArray) (k : Nat) : Prop := Cnt w b k (csum (fun j => rn (s1 j)) k) (csum (fun j => sp (s0 j)) k) ((k : Int) - csum (fun j => sp (s0 j)) k)
theorem cnt_new (w : World) : Cnt (w.alloc (.cells #[.int .i64 0, .int .i64 0, .int .i64 0, .int .i64 0] 27)) w.heap.size 0 0 0 0 := heap_alloc_new w _
theorem cntK_next {w : World} {b : Nat} {s0 s1 : Nat → ByteArray} {k : Nat}
    (h : Cnt w b ((k : Int) + 1) (csum (fun j => rn (s1 j)) k + rn (s1 k)) (csum (fun j => sp (s0 j)) k + sp (s0 k)) ((k : Int) - csum (fun j => sp (s0 j)) k + (1 - sp (s0 k)))) : CntK w b s0 s1 (k + 1) := by
  unfold CntK
  rw [csum, csum]
  have e1 : (((k + 1 : Nat)) : Int) = (k : Int) + 1 := by omega
  rw [e1, show (k : Int) + 1 - (csum (fun j => sp (s0 j)) k + sp (s0 k)) = (k : Int) - csum (fun j => sp (s0 j)) k + (1 - sp (s0 k)) by omega]
  exact h
theorem zzaddK {w : World} {b : Nat} {s0 s1 : Nat → ByteArray} {k : Nat} (H : CntK w b s0 s1 k) (hk : k ≤ 65536) :
    Calls Try.prog 8 #[.pointer (some ⟨b, 0, none⟩), .string (s0 k), .string (s1 k)] w fun e w' => e = .returned (.tuple #[]) ∧ CntK w' b s0 s1 (k + 1) ∧ w.grownBy w' (some b) := by
  have h1 := csum_b (f := fun j => rn (s1 j)) (fun j => rn_b _) k
  have h2 := csum_b (f := fun j => sp (s0 j)) (fun j => sp_b _) k
  exact (zzadd_any b _ _ _ _ (s0 k) (s1 k) w H (by omega) (by omega) (by omega) (by omega)).mono fun e w' ⟨a, b, c⟩ => ⟨a, cntK_next b, c⟩

/-- The counts of the children from M down, j of them still to come. -/
def CntB (w : World) (b : Nat) (s0 s1 : Nat → ByteArray) (M j : Nat) : Prop :=
  Cnt w b ((M : Int) - j) (csum (fun j => rn (s1 j)) M - csum (fun j => rn (s1 j)) j) (csum (fun j => sp (s0 j)) M - csum (fun j => sp (s0 j)) j) (((M : Int) - j) - (csum (fun j => sp (s0 j)) M - csum (fun j => sp (s0 j)) j))
theorem cntB_new (w : World) (s0 s1 : Nat → ByteArray) (M : Nat) : CntB (w.alloc (.cells #[.int .i64 0, .int .i64 0, .int .i64 0, .int .i64 0] 27)) w.heap.size s0 s1 M M := by
  unfold CntB
  rw [Int.sub_self, Int.sub_self, Int.sub_self, Int.sub_self]
  exact cnt_new w
theorem csum_mono {f : Nat → Int} (h : ∀ j, 0 ≤ f j ∧ f j ≤ 1) : ∀ (m j : Nat), 0 ≤ csum f (j + m) - csum f j ∧ csum f (j + m) - csum f j ≤ m
  | 0, j => by simp
  | m + 1, j => by
    have h1 := csum_mono h m j
    have h2 := h (j + m)
    rw [← Nat.add_assoc, csum]; omega
theorem zzaddB {w : World} {b : Nat} {s0 s1 : Nat → ByteArray} {M j : Nat} (H : CntB w b s0 s1 M (j + 1)) (hj : j + 1 ≤ M) (hM : M ≤ 65536) :
    Calls Try.prog 8 #[.pointer (some ⟨b, 0, none⟩), .string (s0 j), .string (s1 j)] w fun e w' => e = .returned (.tuple #[]) ∧ CntB w' b s0 s1 M j ∧ w.grownBy w' (some b) := by
  have h1 := csum_mono (f := fun j => rn (s1 j)) (fun j => rn_b _) (M - (j + 1)) (j + 1)
  have h2 := csum_mono (f := fun j => sp (s0 j)) (fun j => sp_b _) (M - (j + 1)) (j + 1)
  rw [show j + 1 + (M - (j + 1)) = M by omega] at h1 h2
  refine (zzadd_any b _ _ _ _ (s0 j) (s1 j) w H (by omega) (by omega) (by omega) (by omega)).mono fun e w' ⟨a, hc, c⟩ => ⟨a, ?_, c⟩
  unfold CntB
  have e1 : csum (fun j => rn (s1 j)) (j + 1) = csum (fun j => rn (s1 j)) j + rn (s1 j) := rfl
  have e2 : csum (fun j => sp (s0 j)) (j + 1) = csum (fun j => sp (s0 j)) j + sp (s0 j) := rfl
  have f1 : (M : Int) - ((j + 1 : Nat) : Int) + 1 = (M : Int) - j := by omega
  have f2 : csum (fun j => rn (s1 j)) M - csum (fun j => rn (s1 j)) (j + 1) + rn (s1 j) = csum (fun j => rn (s1 j)) M - csum (fun j => rn (s1 j)) j := by rw [e1]; omega
  have f3 : csum (fun j => sp (s0 j)) M - csum (fun j => sp (s0 j)) (j + 1) + sp (s0 j) = csum (fun j => sp (s0 j)) M - csum (fun j => sp (s0 j)) j := by rw [e2]; omega
  have f4 : (M : Int) - ((j + 1 : Nat) : Int) - (csum (fun j => sp (s0 j)) M - csum (fun j => sp (s0 j)) (j + 1)) + (1 - sp (s0 j)) = (M : Int) - j - (csum (fun j => sp (s0 j)) M - csum (fun j => sp (s0 j)) j) := by rw [e2]; omega
  rw [f1, f2, f3, f4] at hc
  exact hc
theorem cntB_zero {w : World} {b : Nat} {s0 s1 : Nat → ByteArray} {M : Nat} (h : CntB w b s0 s1 M 0) : CntK w b s0 s1 M := by
  unfold CntB at h
  unfold CntK
  simp only [csum, Int.sub_zero, Int.natCast_zero] at h
  exact h

theorem cnt_cells {w : World} {b : Nat} {A B C D : Int} (H : Cnt w b A B C D) : w.cell? ⟨b, 0, none⟩ = some (.int .i64 A) ∧ w.cell? ⟨b, 1, none⟩ = some (.int .i64 B) ∧ w.cell? ⟨b, 2, none⟩ = some (.int .i64 C) ∧ w.cell? ⟨b, 3, none⟩ = some (.int .i64 D) :=
  ⟨by rw [cell_of_row w b 0 _ 27 (0, 0) H]; rfl, by rw [cell_of_row w b 1 _ 27 (0, 0) H]; rfl, by rw [cell_of_row w b 2 _ 27 (0, 0) H]; rfl, by rw [cell_of_row w b 3 _ 27 (0, 0) H]; rfl⟩
theorem und27 : Try.prog.underlying 27 = some (.struct (Try.prog.fieldsOf 27)) := by kernel_rfl
theorem held27 : Try.prog.stoodInHeld 27 = false := by kernel_rfl
theorem guard27 : Try.prog.eqGuardType Try.prog.depth 27 = false := by kernel_rfl
theorem in27 (w : World) (A B C D : Int) : (Op.equalIn 10000 27 (.agg #[.int .i64 A, .int .i64 B, .int .i64 C, .int .i64 D]) (.agg #[.int .i64 A, .int .i64 B, .int .i64 C, .int .i64 D])).run Try.prog w = .ok true w := by
  rw [run_equalIn_agg w 9999 27 _ _ und27 held27]
  simp [Op.eqFields, Program.fieldsOf, Try.underlying27, go_sem]
theorem eq27 (w : World) (A B C D : Int) : (binOp .eql 27 (.agg #[.int .i64 A, .int .i64 B, .int .i64 C, .int .i64 D]) (.agg #[.int .i64 A, .int .i64 B, .int .i64 C, .int .i64 D])).run Try.prog w = .ok (.bool true) w := by
  rw [run_eql_struct, in27]; rfl
theorem eq27g (w : World) (op : BinOp) (x y : Operand) (xs ys : Array Value) : (eqGuard op 27 x y (.agg xs) (.agg ys)).run Try.prog w = .ok () w := run_eqGuard_agg w op 27 x y xs ys guard27
theorem Cnt.later {w w' : World} {b Bd : Nat} {A B C D : Int} (H : Cnt w b A B C D) (hb : Below Bd w w') (hlt : b < Bd) : Cnt w' b A B C D := (hb.block b hlt).trans H

set_option maxHeartbeats 4000000 in
set_option maxRecDepth 10000 in
theorem walk3 (a0 a1 : Option Addr) (l0 l1 c0 c1 : Nat) (s0 s1 : Nat → ByteArray) (w : World) (r0 : IsStrs w a0 l0 c0 s0) (r1 : IsStrs w a1 l1 c1 s1) (h0 : l0 ≤ 65536) (h1 : l1 ≤ 65536) (ht : 16 * l0 + 16 * l1 ≤ 1048576) :
    Calls Try.prog 3 #[.slice a0 l0 c0, .slice a1 l1 c1] w fun e w' => e = .returned (.bool true) ∧ Below w.heap.size w w' := by
  have C0 : Hid _ := zz6_any a0 a1 l0 l1 c0 c1 s0 s1 w r0 r1
  go_enter Try.func3, Try.ntmps3
  go_upto_if 20 with (go_at_call 6; refine Calls.mono C0.out ?_; rintro e w' ⟨b, rfl, hw⟩; replace hw := hw.symm; subst hw)
  clear C0
  cases b with
  | false =>
    go_wp2_with fail
    go_ret
    exact ⟨rfl, Below.refl _ _⟩
  | true =>
    go_wp2_with fail
    go_loop [5, 6] (fun t u => ∃ (m : Int) (k : Nat), t = .int .i64 m ∧ u = .int .i64 k ∧ 0 ≤ m ∧ m ≤ 1048576 ∧ k ≤ l0) (fun _ u => l0 - (intOf u).toNat)
    case atStart => exact ⟨_, 0, rfl, rfl, by omega, by omega, by omega⟩
    case round => as_aux_lemma =>
      obtain ⟨m, k, rfl, rfl, hm0, hm1, hk⟩ := hrel
      by_cases hlt : k < l0
      · obtain ⟨b, off, rfl, hs, hz⟩ := r0.plain (by omega)
        have hc := hs w (Below.refl _ _) k hlt
        have hsz := hz k hlt
        clear hs hz
        by_cases hb : 1048576 < (s0 k).size
        · go_wp2_with fail
          go_ret
          exact ⟨rfl, Below.refl _ _⟩
        · by_cases hb2 : 1048576 < m + (s0 k).size
          · go_wp2_with fail
            go_ret
            exact ⟨rfl, Below.refl _ _⟩
          · go_wp2_with fail
            go_round
            case rel => exact ⟨_, k + 1, rfl, by go_num, by omega, by omega, by omega⟩
            case measure => simp [intOf]; omega
      · go_wp2_with fail
        go_loop [5, 7] (fun t u => ∃ (m : Int) (k : Nat), t = .int .i64 m ∧ u = .int .i64 k ∧ 0 ≤ m ∧ m ≤ 1048576 ∧ k ≤ l1) (fun _ u => l1 - (intOf u).toNat)
        case atStart => exact ⟨_, 0, rfl, rfl, by omega, by omega, by omega⟩
        case round => as_aux_lemma =>
          obtain ⟨m, k, rfl, rfl, hm0, hm1, hk⟩ := hrel
          by_cases hlt : k < l1
          · obtain ⟨b, off, rfl, hs, hz⟩ := r1.plain (by omega)
            have hc := hs w (Below.refl _ _) k hlt
            have hsz := hz k hlt
            clear hs hz
            by_cases hb : 1048576 < (s1 k).size
            · go_wp2_with fail
              go_ret
              exact ⟨rfl, Below.refl _ _⟩
            · by_cases hb2 : 1048576 < m + (s1 k).size
              · go_wp2_with fail
                go_ret
                exact ⟨rfl, Below.refl _ _⟩
              · go_wp2_with fail
                go_round
                case rel => exact ⟨_, k + 1, rfl, by go_num, by omega, by omega, by omega⟩
                case measure => simp [intOf]; omega
          · go_upto_region 25 with (go_at_call 7; refine (clone_any a0 l0 c0 s0 w r0 h0).mono ?_; rintro e w1 ⟨x0, d0, rfl, hb1, hs1⟩)
            go_upto_region 26 with (go_at_call 7; refine (clone_any a1 l1 c1 s1 w1 (r1.below hb1) h1).mono ?_; rintro e w2 ⟨x1, d1, rfl, hb2, hs2⟩)
            have hbel : Below w.heap.size w w2 := hb1.trans (hb2.mono hb1.size)
            have hsz1 := hb1.size
            have hs1' : 0 < l0 → ∃ g, x0 = some ⟨g, 0, none⟩ ∧ g < w2.heap.size ∧ Sts w2 g 0 l0 s0 := fun h => by
              obtain ⟨g, e1, _, e3, e4⟩ := hs1 h
              exact ⟨g, e1, by have := hb2.size; omega, e4.below e3 hb2⟩
            have hs2' : 0 < l1 → ∃ g, x1 = some ⟨g, 0, none⟩ ∧ g < w2.heap.size ∧ Sts w2 g 0 l1 s1 := fun h => by
              obtain ⟨g, e1, _, e3, e4⟩ := hs2 h
              exact ⟨g, e1, e3, e4⟩
            have HS1 : Hid _ := hs1'
            have HS2 : Hid _ := hs2'
            clear hs1 hs2 hs1' hs2' hb1 hb2 r0 r1 hsz1 hlt hm0 hm1 hk
            go_upto_if 89 with fail
            go_cut [8, 89] (fun v _ wx => ∃ M : Nat, v = .int .i64 M ∧ M ≤ l0 ∧ M ≤ l1 ∧ wx = w2)
            case first => as_aux_lemma =>
              by_cases hll : (l1 : Int) < l0
              · go_wp2_with fail
                go_meet
                case rel => exact ⟨l1, rfl, by omega, by omega, rfl⟩
              · go_wp2_with fail
                go_meet
                case rel => exact ⟨l0, rfl, by omega, by omega, rfl⟩
            case rest => as_aux_lemma =>
              obtain ⟨M, rfl, hM0, hM1, hw⟩ := hcut
              replace hw := hw.symm
              subst hw
              go_wp2_with fail
              go_loopw [10] (fun u wr => ∃ k : Nat, u = .int .i64 k ∧ k ≤ M ∧ CntK wr w2.heap.size s0 s1 k ∧ Below w2.heap.size w2 wr ∧ w2.heap.size < wr.heap.size) (fun u _ => M - (intOf u).toNat)
              case atStart => exact ⟨0, rfl, by omega, cnt_new w2, (Below.refl _ _).alloc (Nat.le_refl _) _, by simp⟩
              case round => as_aux_lemma =>
                obtain ⟨k, rfl, hk, hC, hb, hsz⟩ := hrel
                by_cases hlt : k < M
                · obtain ⟨g0, rfl, hg0, t0⟩ := HS1.out (by omega)
                  obtain ⟨g1, rfl, hg1, t1⟩ := HS2.out (by omega)
                  have q0 := t0.below hg0 hb k (by omega)
                  have q1 := t1.below hg1 hb k (by omega)
                  rw [Nat.zero_add] at q0 q1
                  have C : Hid _ := zzaddK (w := wr.drew) hC (by omega)
                  clear t0 t1 HS1 HS2 hC
                  go_upto_block 5 with fail
                  go_cut [] from 99 to 108 (fun wx => CntK wx w2.heap.size s0 s1 (k + 1) ∧ wr.grownBy wx (some w2.heap.size))
                  case first => as_aux_lemma =>
                    have n0 : k < l0 := by omega
                    have n1 : k < l1 := by omega
                    go_wp2_with fail
                    go_region_held3 (fun wx => wx.cell? ⟨g0, k, none⟩ = some (.string (s0 k)) ∧ wx.cell? ⟨g1, k, none⟩ = some (.string (s1 k))) (first | go_keep | exact ⟨hG.cell q0 (by simp; omega), hG.cell q1 (by simp; omega)⟩) (first | (go_at_call 8; refine Calls.mono C.out ?_; rintro e w' ⟨rfl, hF, hG⟩))
                    all_goals
                      go_wp2_with fail
                      go_meet
                      case rel => exact ⟨hF, ⟨hG.os, hG.tape, hG.output, hG.size, hG.block⟩⟩
                  case rest => as_aux_lemma =>
                    obtain ⟨hF, hG⟩ := hcut
                    have hb2 : Hid _ := hb.grown hG (by omega) (by intro j hj; simp at hj; omega)
                    have hsz2 := hG.size
                    clear hb hG C
                    go_wp2_with fail
                    go_roundw
                    case rel => exact ⟨k + 1, by go_num, by omega, hF, hb2, by omega⟩
                    case measure => simp [intOf]; omega
                · obtain rfl : k = M := by omega
                  obtain ⟨wo, hwo⟩ : ∃ wo : World, wo = wr := ⟨_, rfl⟩
                  subst hwo
                  have HC : Hid (CntK wo w2.heap.size s0 s1 k) := hC
                  clear hC
                  go_wp2_with fail
                  go_loopw [12] (fun u wq => ∃ (i : Int) (j : Nat), u = .int .i64 i ∧ i + 1 = (j : Int) ∧ j ≤ k ∧ CntB wq wo.heap.size s0 s1 k j ∧ Below wo.heap.size wo wq ∧ wo.heap.size < wq.heap.size) (fun u _ => (intOf u + 1).toNat)
                  case atStart => exact ⟨_, k, rfl, by omega, by omega, cntB_new wo s0 s1 k, (Below.refl _ _).alloc (Nat.le_refl _) _, by simp⟩
                  case round => as_aux_lemma =>
                    obtain ⟨i, j, rfl, hij, hjk, hB, hb4, hsz4⟩ := hrel
                    cases j with
                    | succ j =>
                      obtain rfl : i = (j : Int) := by omega
                      obtain ⟨g0, rfl, hg0, t0⟩ := HS1.out (by omega)
                      obtain ⟨g1, rfl, hg1, t1⟩ := HS2.out (by omega)
                      have q0 := (t0.below hg0 hb).below (show g0 < wo.heap.size by omega) hb4 j (by omega)
                      have q1 := (t1.below hg1 hb).below (show g1 < wo.heap.size by omega) hb4 j (by omega)
                      rw [Nat.zero_add] at q0 q1
                      have C : Hid _ := zzaddB (w := wr.drew) hB hjk (by omega)
                      clear t0 t1 HS1 HS2 hB hij HC
                      go_upto_block 7 with fail
                      go_cut [] from 117 to 126 (fun wx => CntB wx wo.heap.size s0 s1 k j ∧ wr.grownBy wx (some wo.heap.size))
                      case first => as_aux_lemma =>
                        have n0 : j < l0 := by omega
                        have n1 : j < l1 := by omega
                        go_wp2_with fail
                        go_region_held3 (fun wx => wx.cell? ⟨g0, j, none⟩ = some (.string (s0 j)) ∧ wx.cell? ⟨g1, j, none⟩ = some (.string (s1 j))) (first | go_keep | exact ⟨hG.cell q0 (by simp; omega), hG.cell q1 (by simp; omega)⟩) (first | (go_at_call 8; refine Calls.mono C.out ?_; rintro e w' ⟨rfl, hF, hG⟩))
                        all_goals
                          go_wp2_with fail
                          go_meet
                          case rel => exact ⟨hF, ⟨hG.os, hG.tape, hG.output, hG.size, hG.block⟩⟩
                      case rest => as_aux_lemma =>
                        obtain ⟨hF, hG⟩ := hcut
                        have hb5 : Hid _ := hb4.grown hG (by omega) (by intro i hi; simp at hi; omega)
                        have hsz5 := hG.size
                        clear hb4 hG C
                        go_wp2_with fail
                        go_roundw
                        case rel => exact ⟨_, j, rfl, by omega, by omega, hF, hb5, by omega⟩
                        case measure => simp [intOf]
                    | zero =>
                      obtain rfl : i = -1 := by omega
                      have HB : Hid (CntK wr wo.heap.size s0 s1 k) := cntB_zero hB
                      clear hB hij
                      go_wp2_with fail
                      go_loop [13, 14, 15] (fun u v t => ∃ c : Nat, t = .int .i64 c ∧ c ≤ k ∧ u = .int .i64 (csum (fun j => sp (s0 j)) c) ∧ v = .int .i64 (csum (fun j => rn (s1 j)) c)) (fun _ _ t => k - (intOf t).toNat)
                      case atStart => exact ⟨0, rfl, by omega, rfl, rfl⟩
                      case round => as_aux_lemma =>
                        obtain ⟨c, rfl, hck, rfl, rfl⟩ := hrel
                        have b1 := csum_b (f := fun j => rn (s1 j)) (fun j => rn_b _) c
                        have b2 := csum_b (f := fun j => sp (s0 j)) (fun j => sp_b _) c
                        by_cases hlt : c < k
                        · obtain ⟨g0, rfl, hg0, t0⟩ := HS1.out (by omega)
                          obtain ⟨g1, rfl, hg1, t1⟩ := HS2.out (by omega)
                          have q0 := (t0.below hg0 hb).below (show g0 < wo.heap.size by omega) hb4 c (by omega)
                          have q1 := (t1.below hg1 hb).below (show g1 < wo.heap.size by omega) hb4 c (by omega)
                          rw [Nat.zero_add] at q0 q1
                          clear t0 t1 HS1 HS2 HC HB
                          have E1 : Hid (csum (fun j => rn (s1 j)) (c + 1) = csum (fun j => rn (s1 j)) c + rn (s1 c)) := rfl
                          have E2 : Hid (csum (fun j => sp (s0 j)) (c + 1) = csum (fun j => sp (s0 j)) c + sp (s0 c)) := rfl
                          obtain ⟨R, hR⟩ : ∃ R, R = csum (fun j => rn (s1 j)) c := ⟨_, rfl⟩
                          obtain ⟨S, hS⟩ : ∃ S, S = csum (fun j => sp (s0 j)) c := ⟨_, rfl⟩
                          rw [← hR] at b1 E1
                          rw [← hS] at b2 E2
                          rw [← hR, ← hS]
                          clear hR hS
                          by_cases hs : ((s1 c).toList == [114, 117, 110, 110, 105, 110, 103]) = true
                          · have HR : Hid (rn (s1 c) = 1) := rn_t hs
                            by_cases hk' : ((s0 c).toList == [115, 117, 112, 101, 114, 118, 105, 115, 111, 114]) = true
                            · have HS : Hid (sp (s0 c) = 1) := sp_t hk'
                              go_wp2_with fail
                              go_round
                              case rel => exact ⟨c + 1, by go_num, by omega, by rw [E2.out, HS.out], by rw [E1.out, HR.out]⟩
                              case measure => simp [intOf]; omega
                            · have hk2 : ((s0 c).toList == [115, 117, 112, 101, 114, 118, 105, 115, 111, 114]) = false := by simpa using hk'
                              have HS : Hid (sp (s0 c) = 0) := sp_f hk2
                              clear hk'
                              go_wp2_with fail
                              go_round
                              case rel => exact ⟨c + 1, by go_num, by omega, by rw [E2.out, HS.out, Int.add_zero], by rw [E1.out, HR.out]⟩
                              case measure => simp [intOf]; omega
                          · have hs2 : ((s1 c).toList == [114, 117, 110, 110, 105, 110, 103]) = false := by simpa using hs
                            have HR : Hid (rn (s1 c) = 0) := rn_f hs2
                            clear hs
                            by_cases hk' : ((s0 c).toList == [115, 117, 112, 101, 114, 118, 105, 115, 111, 114]) = true
                            · have HS : Hid (sp (s0 c) = 1) := sp_t hk'
                              go_wp2_with fail
                              go_round
                              case rel => exact ⟨c + 1, by go_num, by omega, by rw [E2.out, HS.out], by rw [E1.out, HR.out, Int.add_zero]⟩
                              case measure => simp [intOf]; omega
                            · have hk2 : ((s0 c).toList == [115, 117, 112, 101, 114, 118, 105, 115, 111, 114]) = false := by simpa using hk'
                              have HS : Hid (sp (s0 c) = 0) := sp_f hk2
                              clear hk'
                              go_wp2_with fail
                              go_round
                              case rel => exact ⟨c + 1, by go_num, by omega, by rw [E2.out, HS.out, Int.add_zero], by rw [E1.out, HR.out, Int.add_zero]⟩
                              case measure => simp [intOf]; omega
                        · obtain rfl : c = k := by omega
                          have HC' := HC.out
                          have HB' := HB.out
                          unfold CntK at HC' HB'
                          obtain ⟨R, hR⟩ : ∃ R, R = csum (fun j => rn (s1 j)) c := ⟨_, rfl⟩
                          obtain ⟨S, hS⟩ : ∃ S, S = csum (fun j => sp (s0 j)) c := ⟨_, rfl⟩
                          rw [← hR] at b1 HC' HB'
                          rw [← hS] at b2 HC' HB'
                          rw [← hR, ← hS]
                          clear hR hS HS1 HS2 HC HB
                          have cF := fun o => cnt_cells ((HC'.later hb4 hsz).later ((Below.refl wr.heap.size wr).alloc (Nat.le_refl _) o) (show w2.heap.size < wr.heap.size by omega))
                          have cG := fun o => cnt_cells (HB'.later ((Below.refl wr.heap.size wr).alloc (Nat.le_refl _) o) hsz4)
                          obtain ⟨R0, R1⟩ := b1
                          obtain ⟨S0, S1⟩ := b2
                          have p0 := fun o => (cF o).1
                          have p1 := fun o => (cF o).2.1
                          have p2 := fun o => (cF o).2.2.1
                          have p3 := fun o => (cF o).2.2.2
                          have g0 := fun o => (cG o).1
                          have g1 := fun o => (cG o).2.1
                          have g2 := fun o => (cG o).2.2.1
                          have g3 := fun o => (cG o).2.2.2
                          have hbelF : Hid (Below w.heap.size w wr) := hbel.trans ((hb.mono hbel.size).trans (hb4.mono (by have := hbel.size; omega)))
                          clear cF cG HC' HB' hb hb4 hbel
                          have e1 := eq27g
                          have e2 := eq27
                          have e3 := in27
                          have e4 : (S + ((c : Int) - S) == (c : Int)) = true := by simp; omega
                          go_upto_region 49 with fail
                          go_quiet (fail)
                          go_wp2_with fail
                          go_ret
                          exact ⟨rfl, below_drewN (hbelF.out.alloc hbelF.out.size _) nq⟩

set_option maxHeartbeats 1000000 in
set_option maxRecDepth 10000 in
theorem walk3_big (a0 a1 : Option Addr) (l0 l1 c0 c1 : Nat) (s0 s1 : Nat → ByteArray) (w : World) (r0 : IsStrs w a0 l0 c0 s0) (r1 : IsStrs w a1 l1 c1 s1)
    (h : 65536 < l0 ∨ (l0 ≤ 65536 ∧ 65536 < l1) ∨ (l0 ≤ 65536 ∧ l1 ≤ 65536 ∧ 1048576 < 16 * l0 + 16 * l1)) :
    Calls Try.prog 3 #[.slice a0 l0 c0, .slice a1 l1 c1] w fun e w' => e = .returned (.bool true) ∧ Below w.heap.size w w' := by
  have C0 : Hid _ := zz6_any a0 a1 l0 l1 c0 c1 s0 s1 w r0 r1
  clear r0 r1
  rcases h with h | ⟨h1, h⟩ | ⟨h1, h2, h⟩
  all_goals
    go_enter Try.func3, Try.ntmps3
    go_upto_if 20 with (go_at_call 6; refine Calls.mono C0.out ?_; rintro e w' ⟨b, rfl, hw⟩; replace hw := hw.symm; subst hw)
    clear C0
    cases b with
    | false =>
      go_wp2_with fail
      go_ret
      exact ⟨rfl, Below.refl _ _⟩
    | true =>
      go_wp2_with fail
      go_ret
      exact ⟨rfl, Below.refl _ _⟩

theorem walk3_all (a0 a1 : Option Addr) (l0 l1 c0 c1 : Nat) (s0 s1 : Nat → ByteArray) (w : World) (r0 : IsStrs w a0 l0 c0 s0) (r1 : IsStrs w a1 l1 c1 s1) :
    Calls Try.prog 3 #[.slice a0 l0 c0, .slice a1 l1 c1] w fun e w' => e = .returned (.bool true) ∧ Below w.heap.size w w' := by
  by_cases h : l0 ≤ 65536 ∧ l1 ≤ 65536 ∧ 16 * l0 + 16 * l1 ≤ 1048576
  · exact walk3 a0 a1 l0 l1 c0 c1 s0 s1 w r0 r1 h.1 h.2.1 h.2.2
  · exact walk3_big a0 a1 l0 l1 c0 c1 s0 s1 w r0 r1 (by omega)

end Go.Proofs.Qxb6601833a
