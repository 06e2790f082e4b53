/-
  No cell of these rows narrows 'for every input' (looked for: loops, veiled, ifaces, maps, wideKeys, modest, calm, conditions, laid).
  DERIVED. THE GIVEN ROWS OF THIS SEAT. 5 by the template 'for every input the law returns true; each argument reads behind the call as it read before'; 0 by the template 'total and deterministic' (their statements: Qxb6603365aTotals.lean).
  GIVEN WITH THE SEED: the statements are not yours to turn. If you find one false, say at which input.
  Laid BY PROGRAM, IN A SANDBOX (cutbox-rows.mjs): the forced cells as the released guide's own fill.sh prints them over the translation 8cb01455c0c4cadb… (all of the seat's roots in one cut). By AI agents, Wed Nov 11 2026. No macro, syntax, notation, axiom, sorry.
-/
import Derived.Test.Qxb6603365aChecked
import GoSem.Claim
import GoSem.ClaimJoined
import GoSem.ClaimMapViews
import Derived.JoinedTies
import Derived.KernelRfl
namespace Go.Proofs.Qxb6603365a
/- THE CELL 'sum', in the pinned program and in every row, IS THE sha256 OF THE DUMP (.gsa) THAT Qxb6603365aProg.lean LOADS. Nothing in Lean hashes anything: it is a label: what it is worth is what the hold of that sum in a sandbox is worth. -/
noncomputable def Try.pinned : Pinned := { name := "qxb6603365a", sum := "8cb01455c0c4cadbace896915dfe9f06da80583a739201c9892f513cc2bbf093", checked := Try.checked }
namespace Rows
def none {H : Type} : Left H := { results := [], args := [] }

/-- 'zzlaws_sim_b1.FnMergedSortsRuns': WHATEVER THE INPUT: true; the input reads as it did. -/
def fnMergedSortsRunsSpec : ChangeSpec := { name := "fnMergedSortsRuns", fn := fun _ => fun
  | [d] => { results := [.lit (.bool true)], args := [d] }
  | _ => none }
def fnMergedSortsRunsRow : OpenClaim := { program := "qxb6603365a", sum := "8cb01455c0c4cadbace896915dfe9f06da80583a739201c9892f513cc2bbf093", func := "example.com/tenfold/tenfold/zzlaws_sim_b1.FnMergedSortsRuns", spec := "fnMergedSortsRuns", recurses := true, apart := false }
def FnMergedSortsRunsSaid : Prop := fnMergedSortsRunsRow.holds Try.pinned (OpenSpec.ofChange fnMergedSortsRunsSpec)

/-- ITS FALSE NEIGHBOUR: 'it returns false'. Refute it at one input. -/
def fnMergedSortsRunsWrong : ChangeSpec := { name := "fnMergedSortsRuns", fn := fun _ => fun
  | [d] => { results := [.lit (.bool false)], args := [d] }
  | _ => none }
def FnMergedSortsRunsWrongFalsely : Prop := fnMergedSortsRunsRow.holds Try.pinned (OpenSpec.ofChange fnMergedSortsRunsWrong)

/-- 'zzlaws_sim_b1.FnMergedKeepsEveryTime': WHATEVER THE INPUT: true; the input reads as it did. -/
def fnMergedKeepsEveryTimeSpec : ChangeSpec := { name := "fnMergedKeepsEveryTime", fn := fun _ => fun
  | [d] => { results := [.lit (.bool true)], args := [d] }
  | _ => none }
def fnMergedKeepsEveryTimeRow : OpenClaim := { program := "qxb6603365a", sum := "8cb01455c0c4cadbace896915dfe9f06da80583a739201c9892f513cc2bbf093", func := "example.com/tenfold/tenfold/zzlaws_sim_b1.FnMergedKeepsEveryTime", spec := "fnMergedKeepsEveryTime", recurses := true, apart := false }
def FnMergedKeepsEveryTimeSaid : Prop := fnMergedKeepsEveryTimeRow.holds Try.pinned (OpenSpec.ofChange fnMergedKeepsEveryTimeSpec)

/-- ITS FALSE NEIGHBOUR: 'it returns false'. Refute it at one input. -/
def fnMergedKeepsEveryTimeWrong : ChangeSpec := { name := "fnMergedKeepsEveryTime", fn := fun _ => fun
  | [d] => { results := [.lit (.bool false)], args := [d] }
  | _ => none }
def FnMergedKeepsEveryTimeWrongFalsely : Prop := fnMergedKeepsEveryTimeRow.holds Try.pinned (OpenSpec.ofChange fnMergedKeepsEveryTimeWrong)

/-- 'zzlaws_sim_b1.FnForwardsTopological': WHATEVER THE INPUT: true; the input reads as it did. -/
def fnForwardsTopologicalSpec : ChangeSpec := { name := "fnForwardsTopological", fn := fun _ => fun
  | [d1, d2] => { results := [.lit (.bool true)], args := [d1, d2] }
  | _ => none }
def fnForwardsTopologicalRow : OpenClaim := { program := "qxb6603365a", sum := "8cb01455c0c4cadbace896915dfe9f06da80583a739201c9892f513cc2bbf093", func := "example.com/tenfold/tenfold/zzlaws_sim_b1.FnForwardsTopological", spec := "fnForwardsTopological", apart := false }
def FnForwardsTopologicalSaid : Prop := fnForwardsTopologicalRow.holds Try.pinned (OpenSpec.ofChange fnForwardsTopologicalSpec)

/-- ITS FALSE NEIGHBOUR: 'it returns false'. Refute it at one input. -/
def fnForwardsTopologicalWrong : ChangeSpec := { name := "fnForwardsTopological", fn := fun _ => fun
  | [d1, d2] => { results := [.lit (.bool false)], args := [d1, d2] }
  | _ => none }
def FnForwardsTopologicalWrongFalsely : Prop := fnForwardsTopologicalRow.holds Try.pinned (OpenSpec.ofChange fnForwardsTopologicalWrong)

/-- 'zzlaws_sim_b1.FnForwardsKeepsForwardNumbering': WHATEVER THE INPUT: true; the input reads as it did. -/
def fnForwardsKeepsForwardNumberingSpec : ChangeSpec := { name := "fnForwardsKeepsForwardNumbering", fn := fun _ => fun
  | [d1, d2] => { results := [.lit (.bool true)], args := [d1, d2] }
  | _ => none }
def fnForwardsKeepsForwardNumberingRow : OpenClaim := { program := "qxb6603365a", sum := "8cb01455c0c4cadbace896915dfe9f06da80583a739201c9892f513cc2bbf093", func := "example.com/tenfold/tenfold/zzlaws_sim_b1.FnForwardsKeepsForwardNumbering", spec := "fnForwardsKeepsForwardNumbering", apart := false }
def FnForwardsKeepsForwardNumberingSaid : Prop := fnForwardsKeepsForwardNumberingRow.holds Try.pinned (OpenSpec.ofChange fnForwardsKeepsForwardNumberingSpec)

/-- ITS FALSE NEIGHBOUR: 'it returns false'. Refute it at one input. -/
def fnForwardsKeepsForwardNumberingWrong : ChangeSpec := { name := "fnForwardsKeepsForwardNumbering", fn := fun _ => fun
  | [d1, d2] => { results := [.lit (.bool false)], args := [d1, d2] }
  | _ => none }
def FnForwardsKeepsForwardNumberingWrongFalsely : Prop := fnForwardsKeepsForwardNumberingRow.holds Try.pinned (OpenSpec.ofChange fnForwardsKeepsForwardNumberingWrong)

/-- 'zzlaws_sim_b1.FnBlocksLayout': WHATEVER THE INPUT: true; the input reads as it did. -/
def fnBlocksLayoutSpec : ChangeSpec := { name := "fnBlocksLayout", fn := fun _ => fun
  | [d1, d2, d3, d4, d5] => { results := [.lit (.bool true)], args := [d1, d2, d3, d4, d5] }
  | _ => none }
def fnBlocksLayoutRow : OpenClaim := { program := "qxb6603365a", sum := "8cb01455c0c4cadbace896915dfe9f06da80583a739201c9892f513cc2bbf093", func := "example.com/tenfold/tenfold/zzlaws_sim_b1.FnBlocksLayout", spec := "fnBlocksLayout", apart := false }
def FnBlocksLayoutSaid : Prop := fnBlocksLayoutRow.holds Try.pinned (OpenSpec.ofChange fnBlocksLayoutSpec)

/-- ITS FALSE NEIGHBOUR: 'it returns false'. Refute it at one input. -/
def fnBlocksLayoutWrong : ChangeSpec := { name := "fnBlocksLayout", fn := fun _ => fun
  | [d1, d2, d3, d4, d5] => { results := [.lit (.bool false)], args := [d1, d2, d3, d4, d5] }
  | _ => none }
def FnBlocksLayoutWrongFalsely : Prop := fnBlocksLayoutRow.holds Try.pinned (OpenSpec.ofChange fnBlocksLayoutWrong)

end Rows
end Go.Proofs.Qxb6603365a
