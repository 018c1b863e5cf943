import Derived.Test.Qxb6630732aMaps
import Derived.ProofKit
import Derived.OpenShut
import Derived.ChangeOld
import Derived.Lib.SmallJoins
namespace Go.Proofs.Qxb6630732a
open Go.ChangeShapes Go.WideShapes Go.ChangeAt Go.RowKit Go.WideElems
set_option linter.unusedVariables false

theorem Try.own : ownKnob Try.prog.godebug = none := by kernel_rfl
theorem Try.laidOut : laidOutB Try.prog = true := by kernel_rfl
theorem Try.cells26 : Try.prog.cellsOf 26 = 2 := by kernel_rfl

theorem open_mp {H : Type} {enc : TypeId × Value → H} {W : World} {base : Nat} {sp : Nat → Bool} {held : Bool} {a0 : Option Nat} {d : DataW H} {p : List MemPlace}
    (h : DataW.Trod enc Try.prog W base sp held 23 (.map a0) d p) : ∃ f hh, Mp W (.map a0) f hh := by
  obtain ⟨fuel, hf⟩ := h
  rcases open_map Try.underlying23 hf with ⟨hcs, hx⟩ | ⟨bm, es, clock, m, rfl, hcs, hb, _, F, hx⟩
  · simp [Value.cells] at hcs
    subst hcs
    exact ⟨_, _, mp_nil W⟩
  · simp [Value.cells] at hcs
    subst hcs
    exact ⟨_, _, mp_own (World.ownsMap_of_fit (R := plainElem Try.prog 24) hb F (fun x _ z hz => elemAt_plainElem_int Try.underlying24 hz))⟩

theorem open_time {H : Type} {enc : TypeId × Value → H} {W : World} {base : Nat} {sp : Nat → Bool} {held : Bool} {base' : Nat} {v : Value} {d : DataW H} {p : List MemPlace}
    (hv : Value.okWide Try.prog W .any base' 26 v) (h : DataW.Trod enc Try.prog W base sp held 26 v d p) : ∃ T c, v = .agg #[.int .i64 T, .int .i64 c] ∧ (Lit.int .i64 T).wf = true ∧ (Lit.int .i64 c).wf = true := by
  obtain ⟨c0, c1, y0, y1, m, rfl, rfl, rfl, hy0, hy1⟩ := Go.Joins.open_agg2 Try.underlying26 (by kernel_rfl) Try.cells26 hv h
  obtain ⟨a, e0, _, wa⟩ := DataW.trod_int Try.underlying3 hy0
  obtain ⟨b, e1, _, wb⟩ := DataW.trod_int Try.underlying24 hy1
  simp at e0 e1
  subst e0 e1
  exact ⟨a, b, rfl, wa, wb⟩
end Go.Proofs.Qxb6630732a
