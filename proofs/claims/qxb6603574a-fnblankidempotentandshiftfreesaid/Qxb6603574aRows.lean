/-
  No cell of these rows narrows 'for every input' (looked for: loops, veiled, ifaces, maps, wideKeys, modest, calm, conditions, laid).
  DERIVED. THE GIVEN ROWS OF THIS SEAT. 2 by the template 'for every input the law returns true; each argument reads behind the call as it read before'; 0 by the template 'total and deterministic' (their statements: Qxb6603574aTotals.lean).
  GIVEN WITH THE SEED: the statements are not yours to turn. If you find one false, say at which input.
  Laid BY PROGRAM, IN A SANDBOX (cutbox-rows.mjs): the forced cells as the released guide's own fill.sh prints them over the translation dd207b0f75b540db… (all of the seat's roots in one cut). By AI agents, Wed Nov 11 2026. No macro, syntax, notation, axiom, sorry.
-/
import Derived.Test.Qxb6603574aChecked
import GoSem.Claim
import GoSem.ClaimJoined
import GoSem.ClaimMapViews
import Derived.JoinedTies
import Derived.KernelRfl
namespace Go.Proofs.Qxb6603574a
/- THE CELL 'sum', in the pinned program and in every row, IS THE sha256 OF THE DUMP (.gsa) THAT Qxb6603574aProg.lean LOADS. Nothing in Lean hashes anything: it is a label: what it is worth is what the hold of that sum in a sandbox is worth. -/
noncomputable def Try.pinned : Pinned := { name := "qxb6603574a", sum := "dd207b0f75b540db222600e6a497f317ee7d504b0583eb272223ad4b7f885316", checked := Try.checked }
namespace Rows
def none {H : Type} : Left H := { results := [], args := [] }

/-- 'zzlaws_pkg_plan_b1.FnBlankStopsAtFirstNonBlank': WHATEVER THE INPUT: true; the input reads as it did. -/
def fnBlankStopsAtFirstNonBlankSpec : ChangeSpec := { name := "fnBlankStopsAtFirstNonBlank", fn := fun _ => fun
  | [d1, d2] => { results := [.lit (.bool true)], args := [d1, d2] }
  | _ => none }
def fnBlankStopsAtFirstNonBlankRow : OpenClaim := { program := "qxb6603574a", sum := "dd207b0f75b540db222600e6a497f317ee7d504b0583eb272223ad4b7f885316", func := "example.com/vestledger/vestledger/zzlaws_pkg_plan_b1.FnBlankStopsAtFirstNonBlank", spec := "fnBlankStopsAtFirstNonBlank", apart := false }
def FnBlankStopsAtFirstNonBlankSaid : Prop := fnBlankStopsAtFirstNonBlankRow.holds Try.pinned (OpenSpec.ofChange fnBlankStopsAtFirstNonBlankSpec)

/-- ITS FALSE NEIGHBOUR: 'it returns false'. Refute it at one input. -/
def fnBlankStopsAtFirstNonBlankWrong : ChangeSpec := { name := "fnBlankStopsAtFirstNonBlank", fn := fun _ => fun
  | [d1, d2] => { results := [.lit (.bool false)], args := [d1, d2] }
  | _ => none }
def FnBlankStopsAtFirstNonBlankWrongFalsely : Prop := fnBlankStopsAtFirstNonBlankRow.holds Try.pinned (OpenSpec.ofChange fnBlankStopsAtFirstNonBlankWrong)

/-- 'zzlaws_pkg_plan_b1.FnBlankIdempotentAndShiftFree': WHATEVER THE INPUT: true; the input reads as it did. -/
def fnBlankIdempotentAndShiftFreeSpec : ChangeSpec := { name := "fnBlankIdempotentAndShiftFree", fn := fun _ => fun
  | [d1, d2] => { results := [.lit (.bool true)], args := [d1, d2] }
  | _ => none }
def fnBlankIdempotentAndShiftFreeRow : OpenClaim := { program := "qxb6603574a", sum := "dd207b0f75b540db222600e6a497f317ee7d504b0583eb272223ad4b7f885316", func := "example.com/vestledger/vestledger/zzlaws_pkg_plan_b1.FnBlankIdempotentAndShiftFree", spec := "fnBlankIdempotentAndShiftFree", apart := false }
def FnBlankIdempotentAndShiftFreeSaid : Prop := fnBlankIdempotentAndShiftFreeRow.holds Try.pinned (OpenSpec.ofChange fnBlankIdempotentAndShiftFreeSpec)

/-- ITS FALSE NEIGHBOUR: 'it returns false'. Refute it at one input. -/
def fnBlankIdempotentAndShiftFreeWrong : ChangeSpec := { name := "fnBlankIdempotentAndShiftFree", fn := fun _ => fun
  | [d1, d2] => { results := [.lit (.bool false)], args := [d1, d2] }
  | _ => none }
def FnBlankIdempotentAndShiftFreeWrongFalsely : Prop := fnBlankIdempotentAndShiftFreeRow.holds Try.pinned (OpenSpec.ofChange fnBlankIdempotentAndShiftFreeWrong)

end Rows
end Go.Proofs.Qxb6603574a
