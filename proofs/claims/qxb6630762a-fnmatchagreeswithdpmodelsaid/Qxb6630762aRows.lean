/-
  No cell of these rows narrows 'for every input' (looked for: loops, veiled, ifaces, maps, wideKeys, modest, calm, conditions, laid).
  DERIVED. THE GIVEN ROWS OF THIS SEAT. 2 by the template 'for every input the law returns true; each argument reads behind the call as it read before'; 0 by the template 'total and deterministic' (their statements: Qxb6630762aTotals.lean).
  GIVEN WITH THE SEED: the statements are not yours to turn. If you find one false, say at which input.
  Laid BY PROGRAM, IN A SANDBOX (cutbox-rows.mjs): the forced cells as the released guide's own fill.sh prints them over the translation 55997628f6398c84… (all of the seat's roots in one cut). By AI agents, Wed Nov 11 2026. No macro, syntax, notation, axiom, sorry.
-/
import Derived.Test.Qxb6630762aChecked
import GoSem.Claim
import GoSem.ClaimJoined
import GoSem.ClaimMapViews
import Derived.JoinedTies
import Derived.KernelRfl
namespace Go.Proofs.Qxb6630762a
/- THE CELL 'sum', in the pinned program and in every row, IS THE sha256 OF THE DUMP (.gsa) THAT Qxb6630762aProg.lean LOADS. Nothing in Lean hashes anything: it is a label: what it is worth is what the hold of that sum in a sandbox is worth. -/
noncomputable def Try.pinned : Pinned := { name := "qxb6630762a", sum := "55997628f6398c841bb6d7a1d3fc87dff09a45e2be12f179ac90aecf3354910f", checked := Try.checked }
namespace Rows
def none {H : Type} : Left H := { results := [], args := [] }

/-- 'zzlaws_wildcard_b1.FnMatchAgreesWithDPModel': WHATEVER THE INPUT: true; the input reads as it did. -/
def fnMatchAgreesWithDPModelSpec : ChangeSpec := { name := "fnMatchAgreesWithDPModel", fn := fun _ => fun
  | [d1, d2] => { results := [.lit (.bool true)], args := [d1, d2] }
  | _ => none }
def fnMatchAgreesWithDPModelRow : OpenClaim := { program := "qxb6630762a", sum := "55997628f6398c841bb6d7a1d3fc87dff09a45e2be12f179ac90aecf3354910f", func := "example.com/winnow/winnow/zzlaws_wildcard_b1.FnMatchAgreesWithDPModel", spec := "fnMatchAgreesWithDPModel", apart := false }
def FnMatchAgreesWithDPModelSaid : Prop := fnMatchAgreesWithDPModelRow.holds Try.pinned (OpenSpec.ofChange fnMatchAgreesWithDPModelSpec)

/-- ITS FALSE NEIGHBOUR: 'it returns false'. Refute it at one input. -/
def fnMatchAgreesWithDPModelWrong : ChangeSpec := { name := "fnMatchAgreesWithDPModel", fn := fun _ => fun
  | [d1, d2] => { results := [.lit (.bool false)], args := [d1, d2] }
  | _ => none }
def FnMatchAgreesWithDPModelWrongFalsely : Prop := fnMatchAgreesWithDPModelRow.holds Try.pinned (OpenSpec.ofChange fnMatchAgreesWithDPModelWrong)

/-- 'zzlaws_wildcard_b1.FnMatchConcatSplitsAndReflexive': WHATEVER THE INPUT: true; the input reads as it did. -/
def fnMatchConcatSplitsAndReflexiveSpec : ChangeSpec := { name := "fnMatchConcatSplitsAndReflexive", fn := fun _ => fun
  | [d1, d2, d3] => { results := [.lit (.bool true)], args := [d1, d2, d3] }
  | _ => none }
def fnMatchConcatSplitsAndReflexiveRow : OpenClaim := { program := "qxb6630762a", sum := "55997628f6398c841bb6d7a1d3fc87dff09a45e2be12f179ac90aecf3354910f", func := "example.com/winnow/winnow/zzlaws_wildcard_b1.FnMatchConcatSplitsAndReflexive", spec := "fnMatchConcatSplitsAndReflexive", apart := false }
def FnMatchConcatSplitsAndReflexiveSaid : Prop := fnMatchConcatSplitsAndReflexiveRow.holds Try.pinned (OpenSpec.ofChange fnMatchConcatSplitsAndReflexiveSpec)

/-- ITS FALSE NEIGHBOUR: 'it returns false'. Refute it at one input. -/
def fnMatchConcatSplitsAndReflexiveWrong : ChangeSpec := { name := "fnMatchConcatSplitsAndReflexive", fn := fun _ => fun
  | [d1, d2, d3] => { results := [.lit (.bool false)], args := [d1, d2, d3] }
  | _ => none }
def FnMatchConcatSplitsAndReflexiveWrongFalsely : Prop := fnMatchConcatSplitsAndReflexiveRow.holds Try.pinned (OpenSpec.ofChange fnMatchConcatSplitsAndReflexiveWrong)

end Rows
end Go.Proofs.Qxb6630762a
