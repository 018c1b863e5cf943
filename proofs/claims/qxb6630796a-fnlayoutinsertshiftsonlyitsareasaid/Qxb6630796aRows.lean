/-
  No cell of these rows narrows 'for every input' (looked for: loops, veiled, ifaces, maps, wideKeys, modest, calm, conditions, laid).
  DERIVED. THE GIVEN ROWS OF THIS SEAT. 2 by the template 'for every input the law returns true; each argument reads behind the call as it read before'; 0 by the template 'total and deterministic' (their statements: Qxb6630796aTotals.lean).
  GIVEN WITH THE SEED: the statements are not yours to turn. If you find one false, say at which input.
  Laid BY PROGRAM, IN A SANDBOX (cutbox-rows.mjs): the forced cells as the released guide's own fill.sh prints them over the translation fd886e0f6ac45555… (all of the seat's roots in one cut). By AI agents, Wed Nov 11 2026. No macro, syntax, notation, axiom, sorry.
-/
import Derived.Test.Qxb6630796aChecked
import GoSem.Claim
import GoSem.ClaimJoined
import GoSem.ClaimMapViews
import Derived.JoinedTies
import Derived.KernelRfl
namespace Go.Proofs.Qxb6630796a
/- THE CELL 'sum', in the pinned program and in every row, IS THE sha256 OF THE DUMP (.gsa) THAT Qxb6630796aProg.lean LOADS. Nothing in Lean hashes anything: it is a label: what it is worth is what the hold of that sum in a sandbox is worth. -/
noncomputable def Try.pinned : Pinned := { name := "qxb6630796a", sum := "fd886e0f6ac455556b08b062fb8b777057631f5bb8823cc5c564ee0bea34d4e8", checked := Try.checked }
namespace Rows
def none {H : Type} : Left H := { results := [], args := [] }

/-- 'zzlaws_root_b1.FnLayoutPacksEachAreaInOrder': WHATEVER THE INPUT: true; the input reads as it did. -/
def fnLayoutPacksEachAreaInOrderSpec : ChangeSpec := { name := "fnLayoutPacksEachAreaInOrder", fn := fun _ => fun
  | [d1, d2, d3, d4] => { results := [.lit (.bool true)], args := [d1, d2, d3, d4] }
  | _ => none }
def fnLayoutPacksEachAreaInOrderRow : OpenClaim := { program := "qxb6630796a", sum := "fd886e0f6ac455556b08b062fb8b777057631f5bb8823cc5c564ee0bea34d4e8", func := "example.com/livemap/livemap/zzlaws_root_b1.FnLayoutPacksEachAreaInOrder", spec := "fnLayoutPacksEachAreaInOrder", apart := false }
def FnLayoutPacksEachAreaInOrderSaid : Prop := fnLayoutPacksEachAreaInOrderRow.holds Try.pinned (OpenSpec.ofChange fnLayoutPacksEachAreaInOrderSpec)

/-- ITS FALSE NEIGHBOUR: 'it returns false'. Refute it at one input. -/
def fnLayoutPacksEachAreaInOrderWrong : ChangeSpec := { name := "fnLayoutPacksEachAreaInOrder", fn := fun _ => fun
  | [d1, d2, d3, d4] => { results := [.lit (.bool false)], args := [d1, d2, d3, d4] }
  | _ => none }
def FnLayoutPacksEachAreaInOrderWrongFalsely : Prop := fnLayoutPacksEachAreaInOrderRow.holds Try.pinned (OpenSpec.ofChange fnLayoutPacksEachAreaInOrderWrong)

/-- 'zzlaws_root_b1.FnLayoutInsertShiftsOnlyItsArea': WHATEVER THE INPUT: true; the input reads as it did. -/
def fnLayoutInsertShiftsOnlyItsAreaSpec : ChangeSpec := { name := "fnLayoutInsertShiftsOnlyItsArea", fn := fun _ => fun
  | [d1, d2, d3, d4, d5, d6] => { results := [.lit (.bool true)], args := [d1, d2, d3, d4, d5, d6] }
  | _ => none }
def fnLayoutInsertShiftsOnlyItsAreaRow : OpenClaim := { program := "qxb6630796a", sum := "fd886e0f6ac455556b08b062fb8b777057631f5bb8823cc5c564ee0bea34d4e8", func := "example.com/livemap/livemap/zzlaws_root_b1.FnLayoutInsertShiftsOnlyItsArea", spec := "fnLayoutInsertShiftsOnlyItsArea", apart := false }
def FnLayoutInsertShiftsOnlyItsAreaSaid : Prop := fnLayoutInsertShiftsOnlyItsAreaRow.holds Try.pinned (OpenSpec.ofChange fnLayoutInsertShiftsOnlyItsAreaSpec)

/-- ITS FALSE NEIGHBOUR: 'it returns false'. Refute it at one input. -/
def fnLayoutInsertShiftsOnlyItsAreaWrong : ChangeSpec := { name := "fnLayoutInsertShiftsOnlyItsArea", fn := fun _ => fun
  | [d1, d2, d3, d4, d5, d6] => { results := [.lit (.bool false)], args := [d1, d2, d3, d4, d5, d6] }
  | _ => none }
def FnLayoutInsertShiftsOnlyItsAreaWrongFalsely : Prop := fnLayoutInsertShiftsOnlyItsAreaRow.holds Try.pinned (OpenSpec.ofChange fnLayoutInsertShiftsOnlyItsAreaWrong)

end Rows
end Go.Proofs.Qxb6630796a
