/-
  No cell of these rows narrows 'for every input' (looked for: loops, veiled, ifaces, maps, wideKeys, modest, calm, conditions, laid).
  DERIVED. THE GIVEN ROWS OF THIS SEAT. 3 by the template 'for every input the law returns true; each argument reads behind the call as it read before'; 0 by the template 'total and deterministic' (their statements: Qxb6603165aTotals.lean).
  GIVEN WITH THE SEED: the statements are not yours to turn. If you find one false, say at which input.
  Laid BY PROGRAM, IN A SANDBOX (cutbox-rows.mjs): the forced cells as the released guide's own fill.sh prints them over the translation 1e98b91a183fc6c5… (all of the seat's roots in one cut). By AI agents, Wed Nov 11 2026. No macro, syntax, notation, axiom, sorry.
-/
import Derived.Test.Qxb6603165aChecked
import GoSem.Claim
import GoSem.ClaimJoined
import GoSem.ClaimMapViews
import Derived.JoinedTies
import Derived.KernelRfl
namespace Go.Proofs.Qxb6603165a
/- THE CELL 'sum', in the pinned program and in every row, IS THE sha256 OF THE DUMP (.gsa) THAT Qxb6603165aProg.lean LOADS. Nothing in Lean hashes anything: it is a label: what it is worth is what the hold of that sum in a sandbox is worth. -/
noncomputable def Try.pinned : Pinned := { name := "qxb6603165a", sum := "1e98b91a183fc6c5c992880281b7be0494533bc718da634059819c2ed09b63e3", checked := Try.checked }
namespace Rows
def none {H : Type} : Left H := { results := [], args := [] }

/-- 'zzlaws_pkg_fund_b1.FnIsPlainDecimalMatchesGrammar': WHATEVER THE INPUT: true; the input reads as it did. -/
def fnIsPlainDecimalMatchesGrammarSpec : ChangeSpec := { name := "fnIsPlainDecimalMatchesGrammar", fn := fun _ => fun
  | [d] => { results := [.lit (.bool true)], args := [d] }
  | _ => none }
def fnIsPlainDecimalMatchesGrammarRow : OpenClaim := { program := "qxb6603165a", sum := "1e98b91a183fc6c5c992880281b7be0494533bc718da634059819c2ed09b63e3", func := "example.com/tuoguan/tuoguan/zzlaws_pkg_fund_b1.FnIsPlainDecimalMatchesGrammar", spec := "fnIsPlainDecimalMatchesGrammar", apart := false }
def FnIsPlainDecimalMatchesGrammarSaid : Prop := fnIsPlainDecimalMatchesGrammarRow.holds Try.pinned (OpenSpec.ofChange fnIsPlainDecimalMatchesGrammarSpec)

/-- ITS FALSE NEIGHBOUR: 'it returns false'. Refute it at one input. -/
def fnIsPlainDecimalMatchesGrammarWrong : ChangeSpec := { name := "fnIsPlainDecimalMatchesGrammar", fn := fun _ => fun
  | [d] => { results := [.lit (.bool false)], args := [d] }
  | _ => none }
def FnIsPlainDecimalMatchesGrammarWrongFalsely : Prop := fnIsPlainDecimalMatchesGrammarRow.holds Try.pinned (OpenSpec.ofChange fnIsPlainDecimalMatchesGrammarWrong)

/-- 'zzlaws_pkg_fund_b1.FnIsPlainDecimalMinusPrefix': WHATEVER THE INPUT: true; the input reads as it did. -/
def fnIsPlainDecimalMinusPrefixSpec : ChangeSpec := { name := "fnIsPlainDecimalMinusPrefix", fn := fun _ => fun
  | [d] => { results := [.lit (.bool true)], args := [d] }
  | _ => none }
def fnIsPlainDecimalMinusPrefixRow : OpenClaim := { program := "qxb6603165a", sum := "1e98b91a183fc6c5c992880281b7be0494533bc718da634059819c2ed09b63e3", func := "example.com/tuoguan/tuoguan/zzlaws_pkg_fund_b1.FnIsPlainDecimalMinusPrefix", spec := "fnIsPlainDecimalMinusPrefix", apart := false }
def FnIsPlainDecimalMinusPrefixSaid : Prop := fnIsPlainDecimalMinusPrefixRow.holds Try.pinned (OpenSpec.ofChange fnIsPlainDecimalMinusPrefixSpec)

/-- ITS FALSE NEIGHBOUR: 'it returns false'. Refute it at one input. -/
def fnIsPlainDecimalMinusPrefixWrong : ChangeSpec := { name := "fnIsPlainDecimalMinusPrefix", fn := fun _ => fun
  | [d] => { results := [.lit (.bool false)], args := [d] }
  | _ => none }
def FnIsPlainDecimalMinusPrefixWrongFalsely : Prop := fnIsPlainDecimalMinusPrefixRow.holds Try.pinned (OpenSpec.ofChange fnIsPlainDecimalMinusPrefixWrong)

/-- 'zzlaws_pkg_fund_b1.FnIsPlainDecimalAcceptsRenderedNumbers': WHATEVER THE INPUT: true; the input reads as it did. -/
def fnIsPlainDecimalAcceptsRenderedNumbersSpec : ChangeSpec := { name := "fnIsPlainDecimalAcceptsRenderedNumbers", fn := fun _ => fun
  | [d1, d2] => { results := [.lit (.bool true)], args := [d1, d2] }
  | _ => none }
def fnIsPlainDecimalAcceptsRenderedNumbersRow : OpenClaim := { program := "qxb6603165a", sum := "1e98b91a183fc6c5c992880281b7be0494533bc718da634059819c2ed09b63e3", func := "example.com/tuoguan/tuoguan/zzlaws_pkg_fund_b1.FnIsPlainDecimalAcceptsRenderedNumbers", spec := "fnIsPlainDecimalAcceptsRenderedNumbers", apart := false }
def FnIsPlainDecimalAcceptsRenderedNumbersSaid : Prop := fnIsPlainDecimalAcceptsRenderedNumbersRow.holds Try.pinned (OpenSpec.ofChange fnIsPlainDecimalAcceptsRenderedNumbersSpec)

/-- ITS FALSE NEIGHBOUR: 'it returns false'. Refute it at one input. -/
def fnIsPlainDecimalAcceptsRenderedNumbersWrong : ChangeSpec := { name := "fnIsPlainDecimalAcceptsRenderedNumbers", fn := fun _ => fun
  | [d1, d2] => { results := [.lit (.bool false)], args := [d1, d2] }
  | _ => none }
def FnIsPlainDecimalAcceptsRenderedNumbersWrongFalsely : Prop := fnIsPlainDecimalAcceptsRenderedNumbersRow.holds Try.pinned (OpenSpec.ofChange fnIsPlainDecimalAcceptsRenderedNumbersWrong)

end Rows
end Go.Proofs.Qxb6603165a
