/-
  No cell of these rows narrows 'for every input' (looked for: loops, veiled, ifaces, maps, wideKeys, modest, calm, conditions, laid).
  DERIVED. THE GIVEN ROWS OF THIS SEAT. 4 by the template 'for every input the law returns true; each argument reads behind the call as it read before'; 0 by the template 'total and deterministic' (their statements: Qxb6608992aTotals.lean).
  GIVEN WITH THE SEED: the statements are not yours to turn. If you find one false, say at which input.
  Laid BY PROGRAM, IN A SANDBOX (cutbox-rows.mjs): the forced cells as the released guide's own fill.sh prints them over the translation bb3a4f9e42034d27… (all of the seat's roots in one cut). By AI agents, Wed Nov 11 2026. No macro, syntax, notation, axiom, sorry.
-/
import Derived.Test.Qxb6608992aChecked
import GoSem.Claim
import GoSem.ClaimJoined
import GoSem.ClaimMapViews
import Derived.JoinedTies
import Derived.KernelRfl
namespace Go.Proofs.Qxb6608992a
/- THE CELL 'sum', in the pinned program and in every row, IS THE sha256 OF THE DUMP (.gsa) THAT Qxb6608992aProg.lean LOADS. Nothing in Lean hashes anything: it is a label: what it is worth is what the hold of that sum in a sandbox is worth. -/
noncomputable def Try.pinned : Pinned := { name := "qxb6608992a", sum := "bb3a4f9e42034d27ba5ba5845b1c2bbba4b3c38413d96cafa44a7c9381c98b3f", checked := Try.checked }
namespace Rows
def none {H : Type} : Left H := { results := [], args := [] }

/-- 'zzlaws_cluster_b1.FnCompareNumbersIsNumericOrderAndKeptUnderACommonSuffix': WHATEVER THE INPUT: true; the input reads as it did. -/
def fnCompareNumbersIsNumericOrderAndKeptUnderACommonSuffixSpec : ChangeSpec := { name := "fnCompareNumbersIsNumericOrderAndKeptUnderACommonSuffix", fn := fun _ => fun
  | [d1, d2, d3] => { results := [.lit (.bool true)], args := [d1, d2, d3] }
  | _ => none }
def fnCompareNumbersIsNumericOrderAndKeptUnderACommonSuffixRow : OpenClaim := { program := "qxb6608992a", sum := "bb3a4f9e42034d27ba5ba5845b1c2bbba4b3c38413d96cafa44a7c9381c98b3f", func := "example.com/keelturn/keelturn/zzlaws_cluster_b1.FnCompareNumbersIsNumericOrderAndKeptUnderACommonSuffix", spec := "fnCompareNumbersIsNumericOrderAndKeptUnderACommonSuffix", inPlace := ["internal/bytealg.abigen_runtime_cmpstring"], apart := false }
def FnCompareNumbersIsNumericOrderAndKeptUnderACommonSuffixSaid : Prop := fnCompareNumbersIsNumericOrderAndKeptUnderACommonSuffixRow.holds Try.pinned (OpenSpec.ofChange fnCompareNumbersIsNumericOrderAndKeptUnderACommonSuffixSpec)

/-- ITS FALSE NEIGHBOUR: 'it returns false'. Refute it at one input. -/
def fnCompareNumbersIsNumericOrderAndKeptUnderACommonSuffixWrong : ChangeSpec := { name := "fnCompareNumbersIsNumericOrderAndKeptUnderACommonSuffix", fn := fun _ => fun
  | [d1, d2, d3] => { results := [.lit (.bool false)], args := [d1, d2, d3] }
  | _ => none }
def FnCompareNumbersIsNumericOrderAndKeptUnderACommonSuffixWrongFalsely : Prop := fnCompareNumbersIsNumericOrderAndKeptUnderACommonSuffixRow.holds Try.pinned (OpenSpec.ofChange fnCompareNumbersIsNumericOrderAndKeptUnderACommonSuffixWrong)

/-- 'zzlaws_cluster_b1.FnCompareNumbersPutsEveryNumberBelowItsSuccessor': WHATEVER THE INPUT: true; the input reads as it did. -/
def fnCompareNumbersPutsEveryNumberBelowItsSuccessorSpec : ChangeSpec := { name := "fnCompareNumbersPutsEveryNumberBelowItsSuccessor", fn := fun _ => fun
  | [d] => { results := [.lit (.bool true)], args := [d] }
  | _ => none }
def fnCompareNumbersPutsEveryNumberBelowItsSuccessorRow : OpenClaim := { program := "qxb6608992a", sum := "bb3a4f9e42034d27ba5ba5845b1c2bbba4b3c38413d96cafa44a7c9381c98b3f", func := "example.com/keelturn/keelturn/zzlaws_cluster_b1.FnCompareNumbersPutsEveryNumberBelowItsSuccessor", spec := "fnCompareNumbersPutsEveryNumberBelowItsSuccessor", inPlace := ["internal/bytealg.abigen_runtime_cmpstring"], apart := false }
def FnCompareNumbersPutsEveryNumberBelowItsSuccessorSaid : Prop := fnCompareNumbersPutsEveryNumberBelowItsSuccessorRow.holds Try.pinned (OpenSpec.ofChange fnCompareNumbersPutsEveryNumberBelowItsSuccessorSpec)

/-- ITS FALSE NEIGHBOUR: 'it returns false'. Refute it at one input. -/
def fnCompareNumbersPutsEveryNumberBelowItsSuccessorWrong : ChangeSpec := { name := "fnCompareNumbersPutsEveryNumberBelowItsSuccessor", fn := fun _ => fun
  | [d] => { results := [.lit (.bool false)], args := [d] }
  | _ => none }
def FnCompareNumbersPutsEveryNumberBelowItsSuccessorWrongFalsely : Prop := fnCompareNumbersPutsEveryNumberBelowItsSuccessorRow.holds Try.pinned (OpenSpec.ofChange fnCompareNumbersPutsEveryNumberBelowItsSuccessorWrong)

/-- 'zzlaws_cluster_b1.FnVersionOfNameIsTheDashedTripleAtTheEnd': WHATEVER THE INPUT: true; the input reads as it did. -/
def fnVersionOfNameIsTheDashedTripleAtTheEndSpec : ChangeSpec := { name := "fnVersionOfNameIsTheDashedTripleAtTheEnd", fn := fun _ => fun
  | [d] => { results := [.lit (.bool true)], args := [d] }
  | _ => none }
def fnVersionOfNameIsTheDashedTripleAtTheEndRow : OpenClaim := { program := "qxb6608992a", sum := "bb3a4f9e42034d27ba5ba5845b1c2bbba4b3c38413d96cafa44a7c9381c98b3f", func := "example.com/keelturn/keelturn/zzlaws_cluster_b1.FnVersionOfNameIsTheDashedTripleAtTheEnd", spec := "fnVersionOfNameIsTheDashedTripleAtTheEnd", apart := false }
def FnVersionOfNameIsTheDashedTripleAtTheEndSaid : Prop := fnVersionOfNameIsTheDashedTripleAtTheEndRow.holds Try.pinned (OpenSpec.ofChange fnVersionOfNameIsTheDashedTripleAtTheEndSpec)

/-- ITS FALSE NEIGHBOUR: 'it returns false'. Refute it at one input. -/
def fnVersionOfNameIsTheDashedTripleAtTheEndWrong : ChangeSpec := { name := "fnVersionOfNameIsTheDashedTripleAtTheEnd", fn := fun _ => fun
  | [d] => { results := [.lit (.bool false)], args := [d] }
  | _ => none }
def FnVersionOfNameIsTheDashedTripleAtTheEndWrongFalsely : Prop := fnVersionOfNameIsTheDashedTripleAtTheEndRow.holds Try.pinned (OpenSpec.ofChange fnVersionOfNameIsTheDashedTripleAtTheEndWrong)

/-- 'zzlaws_cluster_b1.FnVersionOfNameReadsThreeNumbersBehindAnyPrefix': WHATEVER THE INPUT: true; the input reads as it did. -/
def fnVersionOfNameReadsThreeNumbersBehindAnyPrefixSpec : ChangeSpec := { name := "fnVersionOfNameReadsThreeNumbersBehindAnyPrefix", fn := fun _ => fun
  | [d1, d2, d3, d4, d5] => { results := [.lit (.bool true)], args := [d1, d2, d3, d4, d5] }
  | _ => none }
def fnVersionOfNameReadsThreeNumbersBehindAnyPrefixRow : OpenClaim := { program := "qxb6608992a", sum := "bb3a4f9e42034d27ba5ba5845b1c2bbba4b3c38413d96cafa44a7c9381c98b3f", func := "example.com/keelturn/keelturn/zzlaws_cluster_b1.FnVersionOfNameReadsThreeNumbersBehindAnyPrefix", spec := "fnVersionOfNameReadsThreeNumbersBehindAnyPrefix", apart := false }
def FnVersionOfNameReadsThreeNumbersBehindAnyPrefixSaid : Prop := fnVersionOfNameReadsThreeNumbersBehindAnyPrefixRow.holds Try.pinned (OpenSpec.ofChange fnVersionOfNameReadsThreeNumbersBehindAnyPrefixSpec)

/-- ITS FALSE NEIGHBOUR: 'it returns false'. Refute it at one input. -/
def fnVersionOfNameReadsThreeNumbersBehindAnyPrefixWrong : ChangeSpec := { name := "fnVersionOfNameReadsThreeNumbersBehindAnyPrefix", fn := fun _ => fun
  | [d1, d2, d3, d4, d5] => { results := [.lit (.bool false)], args := [d1, d2, d3, d4, d5] }
  | _ => none }
def FnVersionOfNameReadsThreeNumbersBehindAnyPrefixWrongFalsely : Prop := fnVersionOfNameReadsThreeNumbersBehindAnyPrefixRow.holds Try.pinned (OpenSpec.ofChange fnVersionOfNameReadsThreeNumbersBehindAnyPrefixWrong)

end Rows
end Go.Proofs.Qxb6608992a
