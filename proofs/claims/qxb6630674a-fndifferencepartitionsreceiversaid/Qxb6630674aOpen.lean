import Derived.Test.Qxb6630674aIn
import Derived.ProofKit
import Derived.ChangeOld
import Derived.Deep.SlicePairs
namespace Go.Proofs.Qxb6630674a
open Go.ChangeShapes Go.WideShapes Go.ChangeAt Go.RowKit
set_option linter.unusedVariables false

theorem Try.own : ownKnob Try.prog.godebug = none := by kernel_rfl
theorem Try.laidOut : laidOutB Try.prog = true := by kernel_rfl
theorem Try.cells37 : Try.prog.cellsOf 37 = 2 := by kernel_rfl
theorem Try.cells21 : Try.prog.cellsOf 21 = 1 := by kernel_rfl

theorem rs_of {W : World} {a : Addr} {len cap : Nat} (hl : len ≤ cap) (hm : cap ≤ maxLen)
    (h : ∀ i, i < len → ∃ p : Int × Int, W.cell? (a.add (i * 2)) = some (.int .i32 p.1) ∧ W.cell? (a.add (i * 2 + 1)) = some (.int .i32 p.2)) :
    ∃ s, Rs W (.slice (some a) len cap) s := by
  obtain ⟨q, hq⟩ := Go.Deep.choose_lt h
  refine ⟨(List.range len).map q, some a, cap, by simp, by simpa using hl, hm, fun h0 => ?_⟩
  simp at h0
  obtain ⟨b, off, spot⟩ := a
  have hspot : spot = none := by simpa [Addr.add] using World.cell?_spot (hq 0 h0).1
  subst hspot
  have hlt : b < W.heap.size := World.block_lt_of_cell? W _ (by simpa [add_plain] using (hq 0 h0).1)
  refine ⟨b, off, rfl, hlt, fun i hi => ?_⟩
  simp at hi
  have := hq i hi
  simp only [add_plain] at this
  simpa [Pl.A, Pl.B, hi, Nat.add_assoc] using this

/-- A slice of pairs that came in. -/
theorem open_pairs {H : Type} {enc : TypeId × Value → H} {W : World} {base : Nat} {sp : Nat → Bool} {held : Bool} {a0 : Option Addr} {len0 cap0 : Nat} {d : DataW H} {p : List MemPlace}
    (h : DataW.Trod enc Try.prog W base sp held 22 (.slice a0 len0 cap0) d p) : ∃ s, Rs W (.slice a0 len0 cap0) s := by
  obtain ⟨fuel, hf⟩ := h
  rcases Go.Deep.open_slice_pairs Try.underlying22 Try.underlying37 Try.cells37 rfl rfl Try.cells21 Try.cells21 hf with ⟨hcs, _⟩ | ⟨a, len, cap, m, n, V0, V1, D0, D1, P0, P1, hcs, _, hl, hm, hmm, _, hx⟩
  · simp [Value.cells] at hcs
    obtain ⟨rfl, rfl, rfl⟩ := hcs
    exact ⟨[], none, 0, rfl, by simp, by unfold maxLen; omega, fun h => by simp at h⟩
  · simp [Value.cells] at hcs
    obtain ⟨rfl, rfl, rfl⟩ := hcs
    have hlm : len0 ≤ m := by rw [hmm]; split <;> omega
    refine rs_of hl hm fun i hi => ?_
    obtain ⟨h1, h2, h3, h4⟩ := hx i (by omega)
    obtain ⟨z0, e0, _⟩ := DataW.trod_int Try.underlying21 h3
    obtain ⟨z1, e1, _⟩ := DataW.trod_int Try.underlying21 h4
    simp at e0 e1
    exact ⟨(z0, z1), by rw [h1, e0], by rw [h2, e1]⟩
end Go.Proofs.Qxb6630674a
