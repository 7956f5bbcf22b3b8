import Derived.Test.Qxb6600660aJText
import Derived.Test.Qxb6600660aRow
import Derived.Deep.DeepCutAuto
import Derived.Deep.CutBlock
namespace Go.Proofs.Qxb6600660a
open Go.RowKit

/-- The next script byte: 0, and no step, once the script is spent. -/
theorem next_any (a : Option Addr) (len cap p : Nat) (z : List Int) (w0 w : World) (hr : IsRow .u8 w0 a len cap z) (hb : Below w0.heap.size w0 w) (hlen : len ≤ 4096) (hp : p ≤ len) :
    Calls Try.prog 27 #[.slice a len cap, .int .i64 (p : Int)] w fun e w' => ∃ (x : Int) (p' : Nat), e = .returned (.tuple #[.int .u8 x, .int .i64 (p' : Int)]) ∧ 0 ≤ x ∧ x ≤ 255 ∧ p ≤ p' ∧ p' ≤ len ∧ (p' = p → x = 0) ∧ w' = w := by
  by_cases h : p < len
  · obtain ⟨b, off, rfl, hB⟩ := hr.plain (by omega)
    obtain ⟨hc, h0, h1⟩ := hB w hb p h
    go_enter Try.func27, Try.ntmps27
    go_wp2
    go_ret2
    exact ⟨_, p + 1, rfl, h0, h1, by omega, by omega, by omega, rfl⟩
  · go_enter Try.func27, Try.ntmps27
    go_wp2
    go_ret2
    exact ⟨_, p, rfl, by omega, by omega, by omega, hp, fun _ => rfl, rfl⟩

/-- The bytes of a number or a literal. -/
def Lt (c : Int) : Prop := Pl c ∧ c ≠ 44
theorem lt_ok {c : Int} (h : c ≠ 34 ∧ c ≠ 91 ∧ c ≠ 93 ∧ c ≠ 123 ∧ c ≠ 125 ∧ c ≠ 44) : Lt c := by unfold Lt Pl; omega
def Lts (V : List Int) : Prop := ∀ c ∈ V, Lt c
theorem Lts.app {A B : List Int} (hA : Lts A) (hB : Lts B) : Lts (A ++ B) := by
  intro c hc
  rcases List.mem_append.1 hc with h | h
  · exact hA c h
  · exact hB c h
theorem lts_nil : Lts [] := by intro c hc; cases hc
theorem lts_sg : Lts [45] := by intro c hc; simp at hc; subst hc; exact lt_ok (by omega)
theorem lts_zero : Lts [48] := by intro c hc; simp at hc; subst hc; exact lt_ok (by omega)
theorem lts_907 : Lts [57, 48, 55] := by intro c hc; simp at hc; exact lt_ok (by omega)
theorem lts_25 : Lts [46, 50, 53] := by intro c hc; simp at hc; exact lt_ok (by omega)
theorem lts_E : Lts [69, 43, 49, 48] := by intro c hc; simp at hc; exact lt_ok (by omega)
theorem lts_e : Lts [101, 45, 55] := by intro c hc; simp at hc; exact lt_ok (by omega)
theorem cells_907 : Lib.strCells { data := #[57, 48, 55] } = [57, 48, 55].map (Value.int .u8) := rfl
theorem cells_25 : Lib.strCells { data := #[46, 50, 53] } = [46, 50, 53].map (Value.int .u8) := rfl
theorem cells_E : Lib.strCells { data := #[69, 43, 49, 48] } = [69, 43, 49, 48].map (Value.int .u8) := rfl
theorem cells_e : Lib.strCells { data := #[101, 45, 55] } = [101, 45, 55].map (Value.int .u8) := rfl

set_option maxHeartbeats 2000000 in
set_option maxRecDepth 10000 in
theorem jnum_any (form : Int) (w0 w : World) (B g n cap : Nat) (xs : List Int) (H : Own w0 B w g n cap xs) (hn : n ≤ 90000000) :
    Calls Try.prog 28 #[.int .u8 form, .slice (some ⟨g, 0, none⟩) n cap] w fun e w' => ∃ (V : List Int) (g' n' cap' : Nat), e = .returned (.slice (some ⟨g', 0, none⟩) n' cap') ∧ Own w0 B w' g' n' cap' (xs ++ V) ∧ V ≠ [] ∧ Lts V ∧ n' ≤ n + 11 := by
  go_enter Try.func28, Try.ntmps28
  go_upto_if 7 with fail
  go_cut [1, 7] (fun v _ wx => ∃ (V : List Int) (g' n' cap' : Nat), v = .slice (some ⟨g', 0, none⟩) n' cap' ∧ Own w0 B wx g' n' cap' (xs ++ V) ∧ Lts V ∧ n' ≤ n + 1)
  case first => as_aux_lemma =>
    by_cases c : (bits BinOp.and IntKind.u8 form 1 != 0) = true
    · go_wp2_with (at_builtin; refine wpl_app1 rfl _ _ rfl H rfl _ rfl (by omega) (by omega) (by omega) ?_; intro g' cap' w' H')
      go_meet
      case rel => exact ⟨[45], _, _, _, rfl, H', lts_sg, by omega⟩
    · have c' : (bits BinOp.and IntKind.u8 form 1 != 0) = false := by simpa using c
      clear c
      go_wp2_with fail
      go_meet
      case rel => exact ⟨[], _, _, _, rfl, by simpa using H, lts_nil, by omega⟩
  case rest => as_aux_lemma =>
    obtain ⟨V, g1, n1, cap1, rfl, H1, hV, hn1⟩ := hcut
    clear H
    go_upto_if 13 with fail
    go_cut [1, 13] (fun v _ wx => ∃ (V : List Int) (g' n' cap' : Nat), v = .slice (some ⟨g', 0, none⟩) n' cap' ∧ Own w0 B wx g' n' cap' (xs ++ V) ∧ V ≠ [] ∧ Lts V ∧ n' ≤ n + 4)
    case first => as_aux_lemma =>
      by_cases c : (bits BinOp.and IntKind.u8 form 2 != 0) = true
      · go_wp2_with (at_builtin; refine wpl_app1 rfl _ _ rfl H1 rfl _ rfl (by omega) (by omega) (by omega) ?_; intro g' cap' w' H')
        go_meet
        case rel => exact ⟨V ++ [48], _, _, _, rfl, by rw [← List.append_assoc]; exact H', by simp, hV.app lts_zero, by omega⟩
      · have c' : (bits BinOp.and IntKind.u8 form 2 != 0) = false := by simpa using c
        clear c
        go_wp2_with (at_builtin; refine wpl_apps rfl _ _ rfl H1 rfl _ rfl 3 [57, 48, 55] rfl cells_907 (by simp) (by omega) ?_; intro g' cap' w' H')
        go_meet
        case rel => exact ⟨V ++ [57, 48, 55], _, _, _, rfl, by rw [← List.append_assoc]; exact H', by simp, hV.app lts_907, by omega⟩
    case rest => as_aux_lemma =>
      clear H1 hV hn1
      obtain ⟨V, g1, n1, cap1, rfl, H1, hne, hV, hn1⟩ := hcut
      go_upto_if 21 with fail
      go_cut [1, 21] (fun v _ wx => ∃ (V : List Int) (g' n' cap' : Nat), v = .slice (some ⟨g', 0, none⟩) n' cap' ∧ Own w0 B wx g' n' cap' (xs ++ V) ∧ V ≠ [] ∧ Lts V ∧ n' ≤ n + 7)
      case first => as_aux_lemma =>
        by_cases c : (bits BinOp.and IntKind.u8 form 4 != 0) = true
        · go_wp2_with (at_builtin; refine wpl_apps rfl _ _ rfl H1 rfl _ rfl 3 [46, 50, 53] rfl cells_25 (by simp) (by omega) ?_; intro g' cap' w' H')
          go_meet
          case rel => exact ⟨V ++ [46, 50, 53], _, _, _, rfl, by rw [← List.append_assoc]; exact H', by simp, hV.app lts_25, by omega⟩
        · have c' : (bits BinOp.and IntKind.u8 form 4 != 0) = false := by simpa using c
          clear c
          go_wp2_with fail
          go_meet
          case rel => exact ⟨V, _, _, _, rfl, H1, hne, hV, by omega⟩
      case rest => as_aux_lemma =>
        clear H1 hV hn1 hne
        obtain ⟨V, g1, n1, cap1, rfl, H1, hne, hV, hn1⟩ := hcut
        by_cases c : (bits BinOp.and IntKind.u8 form 8 != 0) = true
        · by_cases d : (bits BinOp.and IntKind.u8 form 16 != 0) = true
          · go_wp2_with (at_builtin; refine wpl_apps rfl _ _ rfl H1 rfl _ rfl 4 [69, 43, 49, 48] rfl cells_E (by simp) (by omega) ?_; intro g' cap' w' H')
            go_ret
            exact ⟨V ++ [69, 43, 49, 48], _, _, _, rfl, by rw [← List.append_assoc]; exact H', by simp, hV.app lts_E, by omega⟩
          · have d' : (bits BinOp.and IntKind.u8 form 16 != 0) = false := by simpa using d
            clear d
            go_wp2_with (at_builtin; refine wpl_apps rfl _ _ rfl H1 rfl _ rfl 3 [101, 45, 55] rfl cells_e (by simp) (by omega) ?_; intro g' cap' w' H')
            go_ret
            exact ⟨V ++ [101, 45, 55], _, _, _, rfl, by rw [← List.append_assoc]; exact H', by simp, hV.app lts_e, by omega⟩
        · have c' : (bits BinOp.and IntKind.u8 form 8 != 0) = false := by simpa using c
          clear c
          go_wp2_with fail
          go_ret
          exact ⟨V, _, _, _, rfl, H1, hne, hV, by omega⟩

end Go.Proofs.Qxb6600660a
