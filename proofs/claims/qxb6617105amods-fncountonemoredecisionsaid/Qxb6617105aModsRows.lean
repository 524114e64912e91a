/-
  No cell of these rows narrows 'for every input' (looked for: loops, veiled, ifaces, maps, wideKeys, modest, calm, conditions, laid).
  DERIVED. THE GIVEN ROWS OF THIS SEAT. 2 by the template 'for every input the law returns true; each argument reads behind the call as it read before'; 0 by the template 'total and deterministic' (their statements: Qxb6617105aModsTotals.lean).
  GIVEN WITH THE SEED: the statements are not yours to turn. If you find one false, say at which input.
  Laid BY PROGRAM, IN A SANDBOX (cutbox-rows.mjs): the forced cells as the released guide's own fill.sh prints them over the translation 41b832764578b866… (all of the seat's roots in one cut). By AI agents, Wed Nov 11 2026. No macro, syntax, notation, axiom, sorry.
-/
import Derived.Test.Qxb6617105aModsChecked
import GoSem.Claim
import GoSem.ClaimJoined
import GoSem.ClaimMapViews
import Derived.JoinedTies
import Derived.KernelRfl
namespace Go.Proofs.Qxb6617105aMods
/- THE CELL 'sum', in the pinned program and in every row, IS THE sha256 OF THE DUMP (.gsa) THAT Qxb6617105aModsProg.lean LOADS. Nothing in Lean hashes anything: it is a label: what it is worth is what the hold of that sum in a sandbox is worth. -/
noncomputable def Trym.pinned : Pinned := { name := "qxb6617105amods", sum := "41b832764578b866493d5d8f347bd3a3381868c6cb13cfd75c71c702236bc09c", checked := Trym.checked }
namespace Rows
def none {H : Type} : Left H := { results := [], args := [] }

/-- 'zzlaws_internal_bank_b1.FnCountSplitsAtAnyCut': WHATEVER THE INPUT: true; the input reads as it did. -/
def fnCountSplitsAtAnyCutSpec : ChangeSpec := { name := "fnCountSplitsAtAnyCut", fn := fun _ => fun
  | [d1, d2, d3, d4, d5] => { results := [.lit (.bool true)], args := [d1, d2, d3, d4, d5] }
  | _ => none }
def fnCountSplitsAtAnyCutRow : OpenClaim := { program := "qxb6617105amods", sum := "41b832764578b866493d5d8f347bd3a3381868c6cb13cfd75c71c702236bc09c", func := "example.com/evenkeel/evenkeel/zzlaws_internal_bank_b1.FnCountSplitsAtAnyCut", spec := "fnCountSplitsAtAnyCut", make := .lifted ["publicsums"], apart := false }
def FnCountSplitsAtAnyCutSaid : Prop := fnCountSplitsAtAnyCutRow.holds Trym.pinned (OpenSpec.ofChange fnCountSplitsAtAnyCutSpec)

/-- ITS FALSE NEIGHBOUR: 'it returns false'. Refute it at one input. -/
def fnCountSplitsAtAnyCutWrong : ChangeSpec := { name := "fnCountSplitsAtAnyCut", fn := fun _ => fun
  | [d1, d2, d3, d4, d5] => { results := [.lit (.bool false)], args := [d1, d2, d3, d4, d5] }
  | _ => none }
def FnCountSplitsAtAnyCutWrongFalsely : Prop := fnCountSplitsAtAnyCutRow.holds Trym.pinned (OpenSpec.ofChange fnCountSplitsAtAnyCutWrong)

/-- 'zzlaws_internal_bank_b1.FnCountOneMoreDecision': WHATEVER THE INPUT: true; the input reads as it did. -/
def fnCountOneMoreDecisionSpec : ChangeSpec := { name := "fnCountOneMoreDecision", fn := fun _ => fun
  | [d1, d2, d3, d4, d5, d6] => { results := [.lit (.bool true)], args := [d1, d2, d3, d4, d5, d6] }
  | _ => none }
def fnCountOneMoreDecisionRow : OpenClaim := { program := "qxb6617105amods", sum := "41b832764578b866493d5d8f347bd3a3381868c6cb13cfd75c71c702236bc09c", func := "example.com/evenkeel/evenkeel/zzlaws_internal_bank_b1.FnCountOneMoreDecision", spec := "fnCountOneMoreDecision", make := .lifted ["publicsums"], apart := false }
def FnCountOneMoreDecisionSaid : Prop := fnCountOneMoreDecisionRow.holds Trym.pinned (OpenSpec.ofChange fnCountOneMoreDecisionSpec)

/-- ITS FALSE NEIGHBOUR: 'it returns false'. Refute it at one input. -/
def fnCountOneMoreDecisionWrong : ChangeSpec := { name := "fnCountOneMoreDecision", fn := fun _ => fun
  | [d1, d2, d3, d4, d5, d6] => { results := [.lit (.bool false)], args := [d1, d2, d3, d4, d5, d6] }
  | _ => none }
def FnCountOneMoreDecisionWrongFalsely : Prop := fnCountOneMoreDecisionRow.holds Trym.pinned (OpenSpec.ofChange fnCountOneMoreDecisionWrong)

end Rows
end Go.Proofs.Qxb6617105aMods
