/-
  NARROWER THAN 'FOR EVERY INPUT', by the rows' own cells (each row's printed sentence says how): FnMatchSaysYesExactlyWhenSomeExtensionOfTheBindingGivesTheTerm: loops.
  DERIVED. THE GIVEN ROWS OF THIS SEAT. 1 by the template 'for every input the law returns true; each argument reads behind the call as it read before'; 0 by the template 'total and deterministic' (their statements: Qxb6608511aTotals.lean).
  GIVEN WITH THE SEED: the statements are not yours to turn. If you find one false, say at which input.
  Laid BY PROGRAM, IN A SANDBOX (cutbox-rows.mjs): the forced cells as the released guide's own fill.sh prints them over the translation 306310038781a79a… (all of the seat's roots in one cut). By AI agents, Wed Nov 11 2026. No macro, syntax, notation, axiom, sorry.
-/
import Derived.Test.Qxb6608511aChecked
import GoSem.Claim
import GoSem.ClaimJoined
import GoSem.ClaimMapViews
import Derived.JoinedTies
import Derived.KernelRfl
namespace Go.Proofs.Qxb6608511a
/- THE CELL 'sum', in the pinned program and in every row, IS THE sha256 OF THE DUMP (.gsa) THAT Qxb6608511aProg.lean LOADS. Nothing in Lean hashes anything: it is a label: what it is worth is what the hold of that sum in a sandbox is worth. -/
noncomputable def Try.pinned : Pinned := { name := "qxb6608511a", sum := "306310038781a79a50e6ac15b80042de970177eb4ee8ef28c44d97972632fd5a", checked := Try.checked }
namespace Rows
def none {H : Type} : Left H := { results := [], args := [] }

/-- 'zzlaws_root_b1.FnMatchSaysYesExactlyWhenSomeExtensionOfTheBindingGivesTheTerm': WHATEVER THE INPUT: true; the input reads as it did. -/
def fnMatchSaysYesExactlyWhenSomeExtensionOfTheBindingGivesTheTermSpec : ChangeSpec := { name := "fnMatchSaysYesExactlyWhenSomeExtensionOfTheBindingGivesTheTerm", fn := fun _ => fun
  | [d1, d2, d3, d4] => { results := [.lit (.bool true)], args := [d1, d2, d3, d4] }
  | _ => none }
def fnMatchSaysYesExactlyWhenSomeExtensionOfTheBindingGivesTheTermRow : OpenClaim := { program := "qxb6608511a", sum := "306310038781a79a50e6ac15b80042de970177eb4ee8ef28c44d97972632fd5a", func := "example.com/roles-to-rights/roles-to-rights/zzlaws_root_b1.FnMatchSaysYesExactlyWhenSomeExtensionOfTheBindingGivesTheTerm", spec := "fnMatchSaysYesExactlyWhenSomeExtensionOfTheBindingGivesTheTerm", recurses := true, loops := true, apart := false }
def FnMatchSaysYesExactlyWhenSomeExtensionOfTheBindingGivesTheTermSaid : Prop := fnMatchSaysYesExactlyWhenSomeExtensionOfTheBindingGivesTheTermRow.holds Try.pinned (OpenSpec.ofChange fnMatchSaysYesExactlyWhenSomeExtensionOfTheBindingGivesTheTermSpec)

/-- ITS FALSE NEIGHBOUR: 'it returns false'. Refute it at one input. -/
def fnMatchSaysYesExactlyWhenSomeExtensionOfTheBindingGivesTheTermWrong : ChangeSpec := { name := "fnMatchSaysYesExactlyWhenSomeExtensionOfTheBindingGivesTheTerm", fn := fun _ => fun
  | [d1, d2, d3, d4] => { results := [.lit (.bool false)], args := [d1, d2, d3, d4] }
  | _ => none }
def FnMatchSaysYesExactlyWhenSomeExtensionOfTheBindingGivesTheTermWrongFalsely : Prop := fnMatchSaysYesExactlyWhenSomeExtensionOfTheBindingGivesTheTermRow.holds Try.pinned (OpenSpec.ofChange fnMatchSaysYesExactlyWhenSomeExtensionOfTheBindingGivesTheTermWrong)

end Rows
end Go.Proofs.Qxb6608511a
