/-
  No cell of these rows narrows 'for every input' (looked for: loops, veiled, ifaces, maps, wideKeys, modest, calm, conditions, laid).
  DERIVED. THE GIVEN ROWS OF THIS SEAT. 2 by the template 'for every input the law returns true; each argument reads behind the call as it read before'; 0 by the template 'total and deterministic' (their statements: Qxb6630674aTotals.lean).
  GIVEN WITH THE SEED: the statements are not yours to turn. If you find one false, say at which input.
  Laid BY PROGRAM, IN A SANDBOX (cutbox-rows.mjs): the forced cells as the released guide's own fill.sh prints them over the translation b32e7e0892dd916c… (all of the seat's roots in one cut). By AI agents, Wed Nov 11 2026. No macro, syntax, notation, axiom, sorry.
-/
import Derived.Test.Qxb6630674aChecked
import GoSem.Claim
import GoSem.ClaimJoined
import GoSem.ClaimMapViews
import Derived.JoinedTies
import Derived.KernelRfl
namespace Go.Proofs.Qxb6630674a
/- THE CELL 'sum', in the pinned program and in every row, IS THE sha256 OF THE DUMP (.gsa) THAT Qxb6630674aProg.lean LOADS. Nothing in Lean hashes anything: it is a label: what it is worth is what the hold of that sum in a sandbox is worth. -/
noncomputable def Try.pinned : Pinned := { name := "qxb6630674a", sum := "b32e7e0892dd916cbee5beef679490a8979fed6bc6021083f142e2d11f63a26e", checked := Try.checked }
namespace Rows
def none {H : Type} : Left H := { results := [], args := [] }

/-- 'zzlaws_pkg_codepoint_b1.FnDifferenceIsExactSetDifference': WHATEVER THE INPUT: true; the input reads as it did. -/
def fnDifferenceIsExactSetDifferenceSpec : ChangeSpec := { name := "fnDifferenceIsExactSetDifference", fn := fun _ => fun
  | [d1, d2] => { results := [.lit (.bool true)], args := [d1, d2] }
  | _ => none }
def fnDifferenceIsExactSetDifferenceRow : OpenClaim := { program := "qxb6630674a", sum := "b32e7e0892dd916cbee5beef679490a8979fed6bc6021083f142e2d11f63a26e", func := "example.com/umpire/umpire/zzlaws_pkg_codepoint_b1.FnDifferenceIsExactSetDifference", spec := "fnDifferenceIsExactSetDifference", apart := false }
def FnDifferenceIsExactSetDifferenceSaid : Prop := fnDifferenceIsExactSetDifferenceRow.holds Try.pinned (OpenSpec.ofChange fnDifferenceIsExactSetDifferenceSpec)

/-- ITS FALSE NEIGHBOUR: 'it returns false'. Refute it at one input. -/
def fnDifferenceIsExactSetDifferenceWrong : ChangeSpec := { name := "fnDifferenceIsExactSetDifference", fn := fun _ => fun
  | [d1, d2] => { results := [.lit (.bool false)], args := [d1, d2] }
  | _ => none }
def FnDifferenceIsExactSetDifferenceWrongFalsely : Prop := fnDifferenceIsExactSetDifferenceRow.holds Try.pinned (OpenSpec.ofChange fnDifferenceIsExactSetDifferenceWrong)

/-- 'zzlaws_pkg_codepoint_b1.FnDifferencePartitionsReceiver': WHATEVER THE INPUT: true; the input reads as it did. -/
def fnDifferencePartitionsReceiverSpec : ChangeSpec := { name := "fnDifferencePartitionsReceiver", fn := fun _ => fun
  | [d1, d2] => { results := [.lit (.bool true)], args := [d1, d2] }
  | _ => none }
def fnDifferencePartitionsReceiverRow : OpenClaim := { program := "qxb6630674a", sum := "b32e7e0892dd916cbee5beef679490a8979fed6bc6021083f142e2d11f63a26e", func := "example.com/umpire/umpire/zzlaws_pkg_codepoint_b1.FnDifferencePartitionsReceiver", spec := "fnDifferencePartitionsReceiver", apart := false }
def FnDifferencePartitionsReceiverSaid : Prop := fnDifferencePartitionsReceiverRow.holds Try.pinned (OpenSpec.ofChange fnDifferencePartitionsReceiverSpec)

/-- ITS FALSE NEIGHBOUR: 'it returns false'. Refute it at one input. -/
def fnDifferencePartitionsReceiverWrong : ChangeSpec := { name := "fnDifferencePartitionsReceiver", fn := fun _ => fun
  | [d1, d2] => { results := [.lit (.bool false)], args := [d1, d2] }
  | _ => none }
def FnDifferencePartitionsReceiverWrongFalsely : Prop := fnDifferencePartitionsReceiverRow.holds Try.pinned (OpenSpec.ofChange fnDifferencePartitionsReceiverWrong)

end Rows
end Go.Proofs.Qxb6630674a
