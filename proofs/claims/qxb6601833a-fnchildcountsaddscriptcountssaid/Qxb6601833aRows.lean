/-
  No cell of these rows narrows 'for every input' (looked for: loops, veiled, ifaces, maps, wideKeys, modest, calm, conditions, laid).
  DERIVED. THE GIVEN ROWS OF THIS SEAT. 3 by the template 'for every input the law returns true; each argument reads behind the call as it read before'; 0 by the template 'total and deterministic' (their statements: Qxb6601833aTotals.lean).
  GIVEN WITH THE SEED: the statements are not yours to turn. If you find one false, say at which input.
  Laid BY PROGRAM, IN A SANDBOX (cutbox-rows.mjs): the forced cells as the released guide's own fill.sh prints them over the translation 35e4626a5604cc7d… (all of the seat's roots in one cut). By AI agents, Wed Nov 11 2026. No macro, syntax, notation, axiom, sorry.
-/
import Derived.Test.Qxb6601833aChecked
import GoSem.Claim
import GoSem.ClaimJoined
import GoSem.ClaimMapViews
import Derived.JoinedTies
import Derived.KernelRfl
namespace Go.Proofs.Qxb6601833a
/- THE CELL 'sum', in the pinned program and in every row, IS THE sha256 OF THE DUMP (.gsa) THAT Qxb6601833aProg.lean LOADS. Nothing in Lean hashes anything: it is a label: what it is worth is what the hold of that sum in a sandbox is worth. -/
noncomputable def Try.pinned : Pinned := { name := "qxb6601833a", sum := "35e4626a5604cc7d908831a38eb6e1d1f60ff5060408da760cdc8ded31c4b1c0", checked := Try.checked }
namespace Rows
def none {H : Type} : Left H := { results := [], args := [] }

/-- 'zzlaws_root_b1.FnChildCountsAddScriptCounts': WHATEVER THE INPUT: true; the input reads as it did. -/
def fnChildCountsAddScriptCountsSpec : ChangeSpec := { name := "fnChildCountsAddScriptCounts", fn := fun _ => fun
  | [d1, d2] => { results := [.lit (.bool true)], args := [d1, d2] }
  | _ => none }
def fnChildCountsAddScriptCountsRow : OpenClaim := { program := "qxb6601833a", sum := "35e4626a5604cc7d908831a38eb6e1d1f60ff5060408da760cdc8ded31c4b1c0", func := "example.com/ovrsee/ovrsee/zzlaws_root_b1.FnChildCountsAddScriptCounts", spec := "fnChildCountsAddScriptCounts", apart := false }
def FnChildCountsAddScriptCountsSaid : Prop := fnChildCountsAddScriptCountsRow.holds Try.pinned (OpenSpec.ofChange fnChildCountsAddScriptCountsSpec)

/-- ITS FALSE NEIGHBOUR: 'it returns false'. Refute it at one input. -/
def fnChildCountsAddScriptCountsWrong : ChangeSpec := { name := "fnChildCountsAddScriptCounts", fn := fun _ => fun
  | [d1, d2] => { results := [.lit (.bool false)], args := [d1, d2] }
  | _ => none }
def FnChildCountsAddScriptCountsWrongFalsely : Prop := fnChildCountsAddScriptCountsRow.holds Try.pinned (OpenSpec.ofChange fnChildCountsAddScriptCountsWrong)

/-- 'zzlaws_root_b1.FnStrategyFromGroupHoldsChild': WHATEVER THE INPUT: true; the input reads as it did. -/
def fnStrategyFromGroupHoldsChildSpec : ChangeSpec := { name := "fnStrategyFromGroupHoldsChild", fn := fun _ => fun
  | [d1, d2] => { results := [.lit (.bool true)], args := [d1, d2] }
  | _ => none }
def fnStrategyFromGroupHoldsChildRow : OpenClaim := { program := "qxb6601833a", sum := "35e4626a5604cc7d908831a38eb6e1d1f60ff5060408da760cdc8ded31c4b1c0", func := "example.com/ovrsee/ovrsee/zzlaws_root_b1.FnStrategyFromGroupHoldsChild", spec := "fnStrategyFromGroupHoldsChild", apart := false }
def FnStrategyFromGroupHoldsChildSaid : Prop := fnStrategyFromGroupHoldsChildRow.holds Try.pinned (OpenSpec.ofChange fnStrategyFromGroupHoldsChildSpec)

/-- ITS FALSE NEIGHBOUR: 'it returns false'. Refute it at one input. -/
def fnStrategyFromGroupHoldsChildWrong : ChangeSpec := { name := "fnStrategyFromGroupHoldsChild", fn := fun _ => fun
  | [d1, d2] => { results := [.lit (.bool false)], args := [d1, d2] }
  | _ => none }
def FnStrategyFromGroupHoldsChildWrongFalsely : Prop := fnStrategyFromGroupHoldsChildRow.holds Try.pinned (OpenSpec.ofChange fnStrategyFromGroupHoldsChildWrong)

/-- 'zzlaws_root_b1.FnStrategyFromMonotone': WHATEVER THE INPUT: true; the input reads as it did. -/
def fnStrategyFromMonotoneSpec : ChangeSpec := { name := "fnStrategyFromMonotone", fn := fun _ => fun
  | [d1, d2, d3] => { results := [.lit (.bool true)], args := [d1, d2, d3] }
  | _ => none }
def fnStrategyFromMonotoneRow : OpenClaim := { program := "qxb6601833a", sum := "35e4626a5604cc7d908831a38eb6e1d1f60ff5060408da760cdc8ded31c4b1c0", func := "example.com/ovrsee/ovrsee/zzlaws_root_b1.FnStrategyFromMonotone", spec := "fnStrategyFromMonotone", apart := false }
def FnStrategyFromMonotoneSaid : Prop := fnStrategyFromMonotoneRow.holds Try.pinned (OpenSpec.ofChange fnStrategyFromMonotoneSpec)

/-- ITS FALSE NEIGHBOUR: 'it returns false'. Refute it at one input. -/
def fnStrategyFromMonotoneWrong : ChangeSpec := { name := "fnStrategyFromMonotone", fn := fun _ => fun
  | [d1, d2, d3] => { results := [.lit (.bool false)], args := [d1, d2, d3] }
  | _ => none }
def FnStrategyFromMonotoneWrongFalsely : Prop := fnStrategyFromMonotoneRow.holds Try.pinned (OpenSpec.ofChange fnStrategyFromMonotoneWrong)

end Rows
end Go.Proofs.Qxb6601833a
