/-
  No cell of these rows narrows 'for every input' (looked for: loops, veiled, ifaces, maps, wideKeys, modest, calm, conditions, laid).
  DERIVED. THE GIVEN ROWS OF THIS SEAT. 2 by the template 'for every input the law returns true; each argument reads behind the call as it read before'; 0 by the template 'total and deterministic' (their statements: Qxb6605944aTotals.lean).
  GIVEN WITH THE SEED: the statements are not yours to turn. If you find one false, say at which input.
  Laid BY PROGRAM, IN A SANDBOX (cutbox-rows.mjs): the forced cells as the released guide's own fill.sh prints them over the translation d21cafd07279663b… (all of the seat's roots in one cut). By AI agents, Wed Nov 11 2026. No macro, syntax, notation, axiom, sorry.
-/
import Derived.Test.Qxb6605944aChecked
import GoSem.Claim
import GoSem.ClaimJoined
import GoSem.ClaimMapViews
import Derived.JoinedTies
import Derived.KernelRfl
namespace Go.Proofs.Qxb6605944a
/- THE CELL 'sum', in the pinned program and in every row, IS THE sha256 OF THE DUMP (.gsa) THAT Qxb6605944aProg.lean LOADS. Nothing in Lean hashes anything: it is a label: what it is worth is what the hold of that sum in a sandbox is worth. -/
noncomputable def Try.pinned : Pinned := { name := "qxb6605944a", sum := "d21cafd07279663bb28217e5f5202fc6cc419296c24b2bb53448ef30c6fb1951", checked := Try.checked }
namespace Rows
def none {H : Type} : Left H := { results := [], args := [] }

/-- 'zzlaws_root_b1.FnLineIndexLineCountsBackFromLast': WHATEVER THE INPUT: true; the input reads as it did. -/
def fnLineIndexLineCountsBackFromLastSpec : ChangeSpec := { name := "fnLineIndexLineCountsBackFromLast", fn := fun _ => fun
  | [d1, d2, d3, d4, d5, d6, d7] => { results := [.lit (.bool true)], args := [d1, d2, d3, d4, d5, d6, d7] }
  | _ => none }
def fnLineIndexLineCountsBackFromLastRow : OpenClaim := { program := "qxb6605944a", sum := "d21cafd07279663bb28217e5f5202fc6cc419296c24b2bb53448ef30c6fb1951", func := "example.com/copyhaul/copyhaul/zzlaws_root_b1.FnLineIndexLineCountsBackFromLast", spec := "fnLineIndexLineCountsBackFromLast", apart := false }
def FnLineIndexLineCountsBackFromLastSaid : Prop := fnLineIndexLineCountsBackFromLastRow.holds Try.pinned (OpenSpec.ofChange fnLineIndexLineCountsBackFromLastSpec)

/-- ITS FALSE NEIGHBOUR: 'it returns false'. Refute it at one input. -/
def fnLineIndexLineCountsBackFromLastWrong : ChangeSpec := { name := "fnLineIndexLineCountsBackFromLast", fn := fun _ => fun
  | [d1, d2, d3, d4, d5, d6, d7] => { results := [.lit (.bool false)], args := [d1, d2, d3, d4, d5, d6, d7] }
  | _ => none }
def FnLineIndexLineCountsBackFromLastWrongFalsely : Prop := fnLineIndexLineCountsBackFromLastRow.holds Try.pinned (OpenSpec.ofChange fnLineIndexLineCountsBackFromLastWrong)

/-- 'zzlaws_root_b1.FnLineIndexLineStepsBetweenRecords': WHATEVER THE INPUT: true; the input reads as it did. -/
def fnLineIndexLineStepsBetweenRecordsSpec : ChangeSpec := { name := "fnLineIndexLineStepsBetweenRecords", fn := fun _ => fun
  | [d1, d2, d3, d4, d5, d6, d7] => { results := [.lit (.bool true)], args := [d1, d2, d3, d4, d5, d6, d7] }
  | _ => none }
def fnLineIndexLineStepsBetweenRecordsRow : OpenClaim := { program := "qxb6605944a", sum := "d21cafd07279663bb28217e5f5202fc6cc419296c24b2bb53448ef30c6fb1951", func := "example.com/copyhaul/copyhaul/zzlaws_root_b1.FnLineIndexLineStepsBetweenRecords", spec := "fnLineIndexLineStepsBetweenRecords", apart := false }
def FnLineIndexLineStepsBetweenRecordsSaid : Prop := fnLineIndexLineStepsBetweenRecordsRow.holds Try.pinned (OpenSpec.ofChange fnLineIndexLineStepsBetweenRecordsSpec)

/-- ITS FALSE NEIGHBOUR: 'it returns false'. Refute it at one input. -/
def fnLineIndexLineStepsBetweenRecordsWrong : ChangeSpec := { name := "fnLineIndexLineStepsBetweenRecords", fn := fun _ => fun
  | [d1, d2, d3, d4, d5, d6, d7] => { results := [.lit (.bool false)], args := [d1, d2, d3, d4, d5, d6, d7] }
  | _ => none }
def FnLineIndexLineStepsBetweenRecordsWrongFalsely : Prop := fnLineIndexLineStepsBetweenRecordsRow.holds Try.pinned (OpenSpec.ofChange fnLineIndexLineStepsBetweenRecordsWrong)

end Rows
end Go.Proofs.Qxb6605944a
