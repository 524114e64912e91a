/-
  No cell of these rows narrows 'for every input' (looked for: loops, veiled, ifaces, maps, wideKeys, modest, calm, conditions, laid).
  DERIVED. THE GIVEN ROWS OF THIS SEAT. 2 by the template 'for every input the law returns true; each argument reads behind the call as it read before'; 0 by the template 'total and deterministic' (their statements: Qxb6605937aModsTotals.lean).
  GIVEN WITH THE SEED: the statements are not yours to turn. If you find one false, say at which input.
  Laid BY PROGRAM, IN A SANDBOX (cutbox-rows.mjs): the forced cells as the released guide's own fill.sh prints them over the translation 14ffc3bd6f058515… (all of the seat's roots in one cut). By AI agents, Wed Nov 11 2026. No macro, syntax, notation, axiom, sorry.
-/
import Derived.Test.Qxb6605937aModsChecked
import GoSem.Claim
import GoSem.ClaimJoined
import GoSem.ClaimMapViews
import Derived.JoinedTies
import Derived.KernelRfl
namespace Go.Proofs.Qxb6605937aMods
/- THE CELL 'sum', in the pinned program and in every row, IS THE sha256 OF THE DUMP (.gsa) THAT Qxb6605937aModsProg.lean LOADS. Nothing in Lean hashes anything: it is a label: what it is worth is what the hold of that sum in a sandbox is worth. -/
noncomputable def Trym.pinned : Pinned := { name := "qxb6605937amods", sum := "14ffc3bd6f058515492681d052ab659bd29db4378c1c3fb7b4416c009ff9d3d2", checked := Trym.checked }
namespace Rows
def none {H : Type} : Left H := { results := [], args := [] }

/-- 'zzlaws_internal_redisstore_b1.FnMillisIsLeastWholeMillisecondsCovering': WHATEVER THE INPUT: true; the input reads as it did. -/
def fnMillisIsLeastWholeMillisecondsCoveringSpec : ChangeSpec := { name := "fnMillisIsLeastWholeMillisecondsCovering", fn := fun _ => fun
  | [d] => { results := [.lit (.bool true)], args := [d] }
  | _ => none }
def fnMillisIsLeastWholeMillisecondsCoveringRow : OpenClaim := { program := "qxb6605937amods", sum := "14ffc3bd6f058515492681d052ab659bd29db4378c1c3fb7b4416c009ff9d3d2", func := "example.com/vacsem/vacsem/zzlaws_internal_redisstore_b1.FnMillisIsLeastWholeMillisecondsCovering", spec := "fnMillisIsLeastWholeMillisecondsCovering", make := .lifted ["publicsums"], apart := false }
def FnMillisIsLeastWholeMillisecondsCoveringSaid : Prop := fnMillisIsLeastWholeMillisecondsCoveringRow.holds Trym.pinned (OpenSpec.ofChange fnMillisIsLeastWholeMillisecondsCoveringSpec)

/-- ITS FALSE NEIGHBOUR: 'it returns false'. Refute it at one input. -/
def fnMillisIsLeastWholeMillisecondsCoveringWrong : ChangeSpec := { name := "fnMillisIsLeastWholeMillisecondsCovering", fn := fun _ => fun
  | [d] => { results := [.lit (.bool false)], args := [d] }
  | _ => none }
def FnMillisIsLeastWholeMillisecondsCoveringWrongFalsely : Prop := fnMillisIsLeastWholeMillisecondsCoveringRow.holds Trym.pinned (OpenSpec.ofChange fnMillisIsLeastWholeMillisecondsCoveringWrong)

/-- 'zzlaws_internal_redisstore_b1.FnMillisOfNegationSumsToRoundingCarries': WHATEVER THE INPUT: true; the input reads as it did. -/
def fnMillisOfNegationSumsToRoundingCarriesSpec : ChangeSpec := { name := "fnMillisOfNegationSumsToRoundingCarries", fn := fun _ => fun
  | [d] => { results := [.lit (.bool true)], args := [d] }
  | _ => none }
def fnMillisOfNegationSumsToRoundingCarriesRow : OpenClaim := { program := "qxb6605937amods", sum := "14ffc3bd6f058515492681d052ab659bd29db4378c1c3fb7b4416c009ff9d3d2", func := "example.com/vacsem/vacsem/zzlaws_internal_redisstore_b1.FnMillisOfNegationSumsToRoundingCarries", spec := "fnMillisOfNegationSumsToRoundingCarries", make := .lifted ["publicsums"], apart := false }
def FnMillisOfNegationSumsToRoundingCarriesSaid : Prop := fnMillisOfNegationSumsToRoundingCarriesRow.holds Trym.pinned (OpenSpec.ofChange fnMillisOfNegationSumsToRoundingCarriesSpec)

/-- ITS FALSE NEIGHBOUR: 'it returns false'. Refute it at one input. -/
def fnMillisOfNegationSumsToRoundingCarriesWrong : ChangeSpec := { name := "fnMillisOfNegationSumsToRoundingCarries", fn := fun _ => fun
  | [d] => { results := [.lit (.bool false)], args := [d] }
  | _ => none }
def FnMillisOfNegationSumsToRoundingCarriesWrongFalsely : Prop := fnMillisOfNegationSumsToRoundingCarriesRow.holds Trym.pinned (OpenSpec.ofChange fnMillisOfNegationSumsToRoundingCarriesWrong)

end Rows
end Go.Proofs.Qxb6605937aMods
