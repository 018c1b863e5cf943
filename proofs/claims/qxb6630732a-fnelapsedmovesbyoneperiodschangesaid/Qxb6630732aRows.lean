/-
  NARROWER THAN 'FOR EVERY INPUT', by the rows' own cells (each row's printed sentence says how): FnElapsedStepsByPeriodAndClock: maps · FnElapsedMovesByOnePeriodsChange: maps.
  DERIVED. THE GIVEN ROWS OF THIS SEAT. 2 by the template 'for every input the law returns true; each argument reads behind the call as it read before'; 0 by the template 'total and deterministic' (their statements: Qxb6630732aTotals.lean).
  GIVEN WITH THE SEED: the statements are not yours to turn. If you find one false, say at which input.
  Laid BY PROGRAM, IN A SANDBOX (cutbox-rows.mjs): the forced cells as the released guide's own fill.sh prints them over the translation c9e15539aa49bb91… (all of the seat's roots in one cut). By AI agents, Wed Nov 11 2026. No macro, syntax, notation, axiom, sorry.
-/
import Derived.Test.Qxb6630732aChecked
import GoSem.Claim
import GoSem.ClaimJoined
import GoSem.ClaimMapViews
import Derived.JoinedTies
import Derived.KernelRfl
namespace Go.Proofs.Qxb6630732a
/- THE CELL 'sum', in the pinned program and in every row, IS THE sha256 OF THE DUMP (.gsa) THAT Qxb6630732aProg.lean LOADS. Nothing in Lean hashes anything: it is a label: what it is worth is what the hold of that sum in a sandbox is worth. -/
noncomputable def Try.pinned : Pinned := { name := "qxb6630732a", sum := "c9e15539aa49bb915066fbabe48a9ff2f164577de79f020f56fc321506df7e01", checked := Try.checked }
namespace Rows
def none {H : Type} : Left H := { results := [], args := [] }

/-- 'zzlaws_pkg_matchclock_b1.FnElapsedStepsByPeriodAndClock': WHATEVER THE INPUT: true; the input reads as it did. -/
def fnElapsedStepsByPeriodAndClockSpec : ChangeSpec := { name := "fnElapsedStepsByPeriodAndClock", fn := fun _ => fun
  | [d1, d2] => { results := [.lit (.bool true)], args := [d1, d2] }
  | _ => none }
def fnElapsedStepsByPeriodAndClockRow : OpenClaim := { program := "qxb6630732a", sum := "c9e15539aa49bb915066fbabe48a9ff2f164577de79f020f56fc321506df7e01", func := "example.com/touchline/touchline/zzlaws_pkg_matchclock_b1.FnElapsedStepsByPeriodAndClock", spec := "fnElapsedStepsByPeriodAndClock", maps := true, apart := false }
def FnElapsedStepsByPeriodAndClockSaid : Prop := fnElapsedStepsByPeriodAndClockRow.holds Try.pinned (OpenSpec.ofChange fnElapsedStepsByPeriodAndClockSpec)

/-- ITS FALSE NEIGHBOUR: 'it returns false'. Refute it at one input. -/
def fnElapsedStepsByPeriodAndClockWrong : ChangeSpec := { name := "fnElapsedStepsByPeriodAndClock", fn := fun _ => fun
  | [d1, d2] => { results := [.lit (.bool false)], args := [d1, d2] }
  | _ => none }
def FnElapsedStepsByPeriodAndClockWrongFalsely : Prop := fnElapsedStepsByPeriodAndClockRow.holds Try.pinned (OpenSpec.ofChange fnElapsedStepsByPeriodAndClockWrong)

/-- 'zzlaws_pkg_matchclock_b1.FnElapsedMovesByOnePeriodsChange': WHATEVER THE INPUT: true; the input reads as it did. -/
def fnElapsedMovesByOnePeriodsChangeSpec : ChangeSpec := { name := "fnElapsedMovesByOnePeriodsChange", fn := fun _ => fun
  | [d1, d2, d3, d4] => { results := [.lit (.bool true)], args := [d1, d2, d3, d4] }
  | _ => none }
def fnElapsedMovesByOnePeriodsChangeRow : OpenClaim := { program := "qxb6630732a", sum := "c9e15539aa49bb915066fbabe48a9ff2f164577de79f020f56fc321506df7e01", func := "example.com/touchline/touchline/zzlaws_pkg_matchclock_b1.FnElapsedMovesByOnePeriodsChange", spec := "fnElapsedMovesByOnePeriodsChange", maps := true, apart := false }
def FnElapsedMovesByOnePeriodsChangeSaid : Prop := fnElapsedMovesByOnePeriodsChangeRow.holds Try.pinned (OpenSpec.ofChange fnElapsedMovesByOnePeriodsChangeSpec)

/-- ITS FALSE NEIGHBOUR: 'it returns false'. Refute it at one input. -/
def fnElapsedMovesByOnePeriodsChangeWrong : ChangeSpec := { name := "fnElapsedMovesByOnePeriodsChange", fn := fun _ => fun
  | [d1, d2, d3, d4] => { results := [.lit (.bool false)], args := [d1, d2, d3, d4] }
  | _ => none }
def FnElapsedMovesByOnePeriodsChangeWrongFalsely : Prop := fnElapsedMovesByOnePeriodsChangeRow.holds Try.pinned (OpenSpec.ofChange fnElapsedMovesByOnePeriodsChangeWrong)

end Rows
end Go.Proofs.Qxb6630732a
