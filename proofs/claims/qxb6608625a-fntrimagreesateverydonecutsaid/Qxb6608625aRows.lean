/-
  No cell of these rows narrows 'for every input' (looked for: loops, veiled, ifaces, maps, wideKeys, modest, calm, conditions, laid).
  DERIVED. THE GIVEN ROWS OF THIS SEAT. 2 by the template 'for every input the law returns true; each argument reads behind the call as it read before'; 0 by the template 'total and deterministic' (their statements: Qxb6608625aTotals.lean).
  GIVEN WITH THE SEED: the statements are not yours to turn. If you find one false, say at which input.
  Laid BY PROGRAM, IN A SANDBOX (cutbox-rows.mjs): the forced cells as the released guide's own fill.sh prints them over the translation 8e8184a624916b55… (all of the seat's roots in one cut). By AI agents, Wed Nov 11 2026. No macro, syntax, notation, axiom, sorry.
-/
import Derived.Test.Qxb6608625aChecked
import GoSem.Claim
import GoSem.ClaimJoined
import GoSem.ClaimMapViews
import Derived.JoinedTies
import Derived.KernelRfl
namespace Go.Proofs.Qxb6608625a
/- THE CELL 'sum', in the pinned program and in every row, IS THE sha256 OF THE DUMP (.gsa) THAT Qxb6608625aProg.lean LOADS. Nothing in Lean hashes anything: it is a label: what it is worth is what the hold of that sum in a sandbox is worth. -/
noncomputable def Try.pinned : Pinned := { name := "qxb6608625a", sum := "8e8184a624916b55a992f293130dbc7371dd61f6c1a68928c25a7e27db561be5", checked := Try.checked }
namespace Rows
def none {H : Type} : Left H := { results := [], args := [] }

/-- 'zzlaws_swarm_b1.FnTrimDropsExactlyTheDoneFront': WHATEVER THE INPUT: true; the input reads as it did. -/
def fnTrimDropsExactlyTheDoneFrontSpec : ChangeSpec := { name := "fnTrimDropsExactlyTheDoneFront", fn := fun _ => fun
  | [d1, d2, d3, d4, d5, d6, d7, d8, d9, d10] => { results := [.lit (.bool true)], args := [d1, d2, d3, d4, d5, d6, d7, d8, d9, d10] }
  | _ => none }
def fnTrimDropsExactlyTheDoneFrontRow : OpenClaim := { program := "qxb6608625a", sum := "8e8184a624916b55a992f293130dbc7371dd61f6c1a68928c25a7e27db561be5", func := "example.com/hopwise/hopwise/zzlaws_swarm_b1.FnTrimDropsExactlyTheDoneFront", spec := "fnTrimDropsExactlyTheDoneFront", apart := false }
def FnTrimDropsExactlyTheDoneFrontSaid : Prop := fnTrimDropsExactlyTheDoneFrontRow.holds Try.pinned (OpenSpec.ofChange fnTrimDropsExactlyTheDoneFrontSpec)

/-- ITS FALSE NEIGHBOUR: 'it returns false'. Refute it at one input. -/
def fnTrimDropsExactlyTheDoneFrontWrong : ChangeSpec := { name := "fnTrimDropsExactlyTheDoneFront", fn := fun _ => fun
  | [d1, d2, d3, d4, d5, d6, d7, d8, d9, d10] => { results := [.lit (.bool false)], args := [d1, d2, d3, d4, d5, d6, d7, d8, d9, d10] }
  | _ => none }
def FnTrimDropsExactlyTheDoneFrontWrongFalsely : Prop := fnTrimDropsExactlyTheDoneFrontRow.holds Try.pinned (OpenSpec.ofChange fnTrimDropsExactlyTheDoneFrontWrong)

/-- 'zzlaws_swarm_b1.FnTrimAgreesAtEveryDoneCut': WHATEVER THE INPUT: true; the input reads as it did. -/
def fnTrimAgreesAtEveryDoneCutSpec : ChangeSpec := { name := "fnTrimAgreesAtEveryDoneCut", fn := fun _ => fun
  | [d1, d2, d3, d4, d5, d6, d7, d8, d9, d10, d11] => { results := [.lit (.bool true)], args := [d1, d2, d3, d4, d5, d6, d7, d8, d9, d10, d11] }
  | _ => none }
def fnTrimAgreesAtEveryDoneCutRow : OpenClaim := { program := "qxb6608625a", sum := "8e8184a624916b55a992f293130dbc7371dd61f6c1a68928c25a7e27db561be5", func := "example.com/hopwise/hopwise/zzlaws_swarm_b1.FnTrimAgreesAtEveryDoneCut", spec := "fnTrimAgreesAtEveryDoneCut", apart := false }
def FnTrimAgreesAtEveryDoneCutSaid : Prop := fnTrimAgreesAtEveryDoneCutRow.holds Try.pinned (OpenSpec.ofChange fnTrimAgreesAtEveryDoneCutSpec)

/-- ITS FALSE NEIGHBOUR: 'it returns false'. Refute it at one input. -/
def fnTrimAgreesAtEveryDoneCutWrong : ChangeSpec := { name := "fnTrimAgreesAtEveryDoneCut", fn := fun _ => fun
  | [d1, d2, d3, d4, d5, d6, d7, d8, d9, d10, d11] => { results := [.lit (.bool false)], args := [d1, d2, d3, d4, d5, d6, d7, d8, d9, d10, d11] }
  | _ => none }
def FnTrimAgreesAtEveryDoneCutWrongFalsely : Prop := fnTrimAgreesAtEveryDoneCutRow.holds Try.pinned (OpenSpec.ofChange fnTrimAgreesAtEveryDoneCutWrong)

end Rows
end Go.Proofs.Qxb6608625a
