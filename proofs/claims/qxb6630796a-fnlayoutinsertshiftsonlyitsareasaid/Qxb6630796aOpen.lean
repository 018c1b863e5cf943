import Derived.Test.Qxb6630796aMem
import Derived.ProofKit
import Derived.OpenShut
import Derived.ShutString
import Derived.ChangeOld
import Derived.Deep.Fields
import Derived.Lib.SmallJoins
namespace Go.Proofs.Qxb6630796a
open Go.ChangeShapes Go.WideShapes Go.ChangeAt Go.RowKit
set_option linter.unusedVariables false

theorem Try.own : ownKnob Try.prog.godebug = none := by kernel_rfl
theorem Try.laidOut : laidOutB Try.prog = true := by kernel_rfl
theorem Try.cells28 : Try.prog.cellsOf 28 = 4 := by kernel_rfl
theorem Try.cells45 : Try.prog.cellsOf 45 = 3 := by kernel_rfl
theorem Try.cells47 : Try.prog.cellsOf 47 = 6 := by kernel_rfl

section
variable {H : Type} {enc : TypeId × Value → H} {W : World} {base : Nat} {sp : Nat → Bool} {held : Bool}

/-- a slice of structs, each field one cell: element by element, field by field -/
theorem open_structs {t e : TypeId} {fs : Array Field} {fuel : Nat} {cs : List Value} {x : DataW H × List MemPlace} (ht : Try.prog.underlying t = some (.slice e)) (hs : Try.prog.underlying e = some (.struct fs))
    (hone : ∀ (i : Nat) (f : Field), fs[i]? = some f → f.offset = i ∧ Try.prog.cellsOf f.type = 1) (hC : Try.prog.cellsOf e = fs.size) (hpos : 0 < fs.size) (h : DataW.trod enc Try.prog W base sp held fuel t cs = some x) :
    cs = [.slice none 0 0] ∨ ∃ (a : Addr) (len cap : Nat), cs = [.slice (some a) len cap] ∧ len ≤ cap ∧ cap ≤ maxLen ∧ (0 < len → ∃ b off, a = ⟨b, off, none⟩ ∧ b < W.heap.size ∧
      ∀ i, i < len → ∃ V : Nat → Value, ∀ (k : Nat) (f : Field), fs[k]? = some f → W.cell? ⟨b, off + i * fs.size + k, none⟩ = some (V k) ∧ ∃ n y, DataW.trod enc Try.prog W base sp held n f.type [V k] = some y) := by
  rcases Go.Deep.open_slice ht h with ⟨h0, _⟩ | ⟨a, len, cap, m, n, D, Pl, rfl, hb, hl, hm, hmm, rfl, hx⟩
  · exact Or.inl h0
  right
  have hlm : len ≤ m := by rw [hmm]; split <;> omega
  refine ⟨a, len, cap, rfl, hl, hm, fun h0 => ?_⟩
  rw [hC] at hx
  obtain ⟨b, off, spot⟩ := a
  have hspot : spot = none := by
    obtain ⟨cs', h1, _⟩ := hx 0 (by omega)
    obtain ⟨_, hlen, hcell⟩ := World.cells?_some h1
    have h2 := hcell 0 hpos
    rw [List.getElem?_eq_getElem (by omega)] at h2
    simpa [Addr.add] using World.cell?_spot h2
  subst hspot
  have each : ∀ i, i < len → ∃ V : Nat → Value, ∀ (k : Nat) (f : Field), fs[k]? = some f → W.cell? ⟨b, off + i * fs.size + k, none⟩ = some (V k) ∧ ∃ n y, DataW.trod enc Try.prog W base sp held n f.type [V k] = some y := by
    intro i hi
    obtain ⟨cs', h1, h2⟩ := hx i (by omega)
    obtain ⟨_, hlen, hcell⟩ := World.cells?_some h1
    obtain ⟨xs, n', _, _, _, hxl, hf⟩ := DataW.trod_struct hs h2
    refine ⟨fun k => cs'.getD k undef, fun k f hk => ?_⟩
    have hlt : k < fs.size := (Array.getElem?_eq_some_iff.1 hk).1
    obtain ⟨ho, hc1⟩ := hone k f hk
    have g := hf k f hk
    rw [ho, hc1, Go.Deep.take1_drop cs' k undef (by omega), List.getElem?_eq_getElem (by omega)] at g
    have c := hcell k hlt
    rw [add_plain, add_plain, List.getElem?_eq_getElem (by omega)] at c
    exact ⟨by rw [c]; simp [List.getD, List.getElem?_eq_getElem (show k < cs'.length by omega)], n', _, g⟩
  obtain ⟨V, hV⟩ := each 0 h0
  have hlt : b < W.heap.size := by
    have := (hV 0 fs[0] (Array.getElem?_eq_getElem hpos)).1
    exact World.block_lt_of_cell? W _ this
  exact ⟨b, off, rfl, hlt, each⟩

theorem slice_form {t e : TypeId} {n : Nat} {v : Value} {y : DataW H × List MemPlace} (ht : Try.prog.underlying t = some (.slice e)) (h : DataW.trod enc Try.prog W base sp held n t [v] = some y) : ∃ a l c, v = .slice a l c ∧ l ≤ c ∧ c ≤ maxLen := by
  rcases Go.Deep.open_slice ht h with ⟨h0, _⟩ | ⟨a, len, cap, m, n, D, Pl, h0, hb, hl, hm, _⟩
  · simp at h0; exact ⟨_, _, _, h0, by omega, by unfold maxLen; omega⟩
  · simp at h0; exact ⟨_, _, _, h0, hl, hm⟩

theorem open_vz {a0 : Option Addr} {len0 cap0 : Nat} {d : DataW H} {p : List MemPlace} (h : DataW.Trod enc Try.prog W base sp held 22 (.slice a0 len0 cap0) d p) : ∃ L, Vz W (.slice a0 len0 cap0) len0 L := by
  obtain ⟨fuel, hf⟩ := h
  rcases open_structs Try.underlying22 Try.underlying28 (Go.Deep.hone_of (by kernel_rfl)) Try.cells28 (by decide) hf with h0 | ⟨a, len, cap, hcs, hl, hm, hx⟩
  · simp [Value.cells] at h0
    obtain ⟨rfl, rfl, rfl⟩ := h0
    exact ⟨fun _ => 0, none, 0, rfl, by omega, by unfold maxLen; omega, fun h => by omega⟩
  · simp [Value.cells] at hcs
    obtain ⟨rfl, rfl, rfl⟩ := hcs
    by_cases h0 : 0 < len0
    · obtain ⟨b, off, rfl, hb, hel⟩ := hx h0
      have each : ∀ i, i < len0 → ∃ l, El W b (off + i * 4) l := by
        intro i hi
        obtain ⟨V, hV⟩ := hel i hi
        obtain ⟨c0, n0, y0, t0⟩ := hV 0 _ rfl
        obtain ⟨c1, n1, y1, t1⟩ := hV 1 _ rfl
        obtain ⟨c2, n2, y2, t2⟩ := hV 2 _ rfl
        obtain ⟨c3, n3, y3, t3⟩ := hV 3 _ rfl
        obtain ⟨nm, e0, _, l0⟩ := DataW.trod_string Try.underlying9 t0
        obtain ⟨wa, wl, wc, e1, l1, l1'⟩ := slice_form Try.underlying26 t1
        obtain ⟨ty, e2, _, l2⟩ := DataW.trod_string Try.underlying9 t2
        obtain ⟨tk, e3, _⟩ := DataW.trod_bool Try.underlying4 t3
        simp at e0 e2 e3
        rw [e0] at c0
        rw [e1] at c1
        rw [e2] at c2
        rw [e3] at c3
        exact ⟨wl, nm, ty, wa, wc, tk, c0, c1, c2, c3, l0, l2, by omega⟩
      obtain ⟨L, hL⟩ := Go.Deep.choose_lt each
      exact ⟨L, _, _, rfl, hl, hm, fun _ => ⟨b, off, rfl, hb, hL⟩⟩
    · exact ⟨fun _ => 0, _, _, rfl, hl, hm, fun h => absurd h h0⟩

theorem open_iz {fuel : Nat} {v : Value} {y : DataW H × List MemPlace} (h : DataW.trod enc Try.prog W base sp held fuel 43 [v] = some y) : ∃ a K c, v = .slice a K c ∧ Iz W a K c := by
  rcases open_structs Try.underlying43 Try.underlying47 (Go.Deep.hone_of (by kernel_rfl)) Try.cells47 (by decide) h with h0 | ⟨a, len, cap, hcs, hl, hm, hx⟩
  · simp at h0
    exact ⟨_, _, _, h0, by omega, by unfold maxLen; omega, fun h => by omega⟩
  · simp at hcs
    refine ⟨_, _, _, hcs, hl, hm, fun h0 => ?_⟩
    obtain ⟨b, off, rfl, hb, hel⟩ := hx h0
    refine ⟨b, off, rfl, hb, fun i hi => ?_⟩
    obtain ⟨V, hV⟩ := hel i hi
    obtain ⟨c0, n0, y0, t0⟩ := hV 0 _ rfl
    obtain ⟨c1, n1, y1, t1⟩ := hV 1 _ rfl
    obtain ⟨c2, n2, y2, t2⟩ := hV 2 _ rfl
    obtain ⟨c3, n3, y3, t3⟩ := hV 3 _ rfl
    obtain ⟨c4, n4, y4, t4⟩ := hV 4 _ rfl
    obtain ⟨c5, n5, y5, t5⟩ := hV 5 _ rfl
    obtain ⟨kd, e0, _⟩ := DataW.trod_int Try.underlying5 t0
    obtain ⟨dest, e1, _⟩ := DataW.trod_int Try.underlying3 t1
    obtain ⟨aa, al, ac, e2, l2, l2'⟩ := slice_form Try.underlying29 t2
    obtain ⟨pa, pl, pc, e3, l3, l3'⟩ := slice_form Try.underlying29 t3
    obtain ⟨cal, e4, _, l4⟩ := DataW.trod_string Try.underlying9 t4
    obtain ⟨pt, e5, _⟩ := DataW.trod_bool Try.underlying4 t5
    simp at e0 e1 e4 e5
    rw [e0] at c0
    rw [e1] at c1
    rw [e2] at c2
    rw [e3] at c3
    rw [e4] at c4
    rw [e5] at c5
    exact ⟨kd, dest, aa, pa, al, ac, pl, pc, cal, pt, c0, c1, c2, c3, c4, c5, by omega, by omega, l4⟩

theorem open_bz {a0 : Option Addr} {len0 cap0 : Nat} {d : DataW H} {p : List MemPlace} (h : DataW.Trod enc Try.prog W base sp held 23 (.slice a0 len0 cap0) d p) : ∃ K, Bz W (.slice a0 len0 cap0) len0 K := by
  obtain ⟨fuel, hf⟩ := h
  rcases open_structs Try.underlying23 Try.underlying45 (Go.Deep.hone_of (by kernel_rfl)) Try.cells45 (by decide) hf with h0 | ⟨a, len, cap, hcs, hl, hm, hx⟩
  · simp [Value.cells] at h0
    obtain ⟨rfl, rfl, rfl⟩ := h0
    exact ⟨fun _ => 0, none, 0, rfl, by omega, by unfold maxLen; omega, fun h => by omega⟩
  · simp [Value.cells] at hcs
    obtain ⟨rfl, rfl, rfl⟩ := hcs
    by_cases h0 : 0 < len0
    · obtain ⟨b, off, rfl, hb, hel⟩ := hx h0
      have each : ∀ i, i < len0 → ∃ K, Bk W b (off + i * 3) K := by
        intro i hi
        obtain ⟨V, hV⟩ := hel i hi
        obtain ⟨c0, n0, y0, t0⟩ := hV 0 _ rfl
        obtain ⟨c1, n1, y1, t1⟩ := hV 1 _ rfl
        obtain ⟨c2, n2, y2, t2⟩ := hV 2 _ rfl
        obtain ⟨lb, e0, _, l0⟩ := DataW.trod_string Try.underlying9 t0
        obtain ⟨ia, K, ic, e1, hI⟩ := open_iz t1
        obtain ⟨sa, sl, sc, e2, l2, l2'⟩ := slice_form Try.underlying29 t2
        simp at e0
        rw [e0] at c0
        rw [e1] at c1
        rw [e2] at c2
        exact ⟨K, lb, ia, sa, ic, sl, sc, c0, c1, c2, l0, by omega, hI⟩
      obtain ⟨K, hK⟩ := Go.Deep.choose_lt each
      exact ⟨K, _, _, rfl, hl, hm, fun _ => ⟨b, off, rfl, hb, hK⟩⟩
    · exact ⟨fun _ => 0, _, _, rfl, hl, hm, fun h => absurd h h0⟩

theorem open_var {base' : Nat} {v : Value} {d : DataW H} {p : List MemPlace} (hv : Value.okWide Try.prog W .any base' 28 v) (h : DataW.Trod enc Try.prog W base sp held 28 v d p) :
    ∃ nm ty wa wl wc tk, v = .agg #[.string nm, .slice wa wl wc, .string ty, .bool tk] ∧ nm.size ≤ maxLen ∧ ty.size ≤ maxLen ∧ wl ≤ maxLen := by
  obtain ⟨c0, c1, c2, c3, y0, y1, y2, y3, m, rfl, rfl, rfl, t0, t1, t2, t3⟩ := Go.Joins.open_agg4 Try.underlying28 (by kernel_rfl) Try.cells28 hv h
  obtain ⟨nm, e0, _, l0⟩ := DataW.trod_string Try.underlying9 t0
  obtain ⟨wa, wl, wc, e1, l1, l1'⟩ := slice_form Try.underlying26 t1
  obtain ⟨ty, e2, _, l2⟩ := DataW.trod_string Try.underlying9 t2
  obtain ⟨tk, e3, _⟩ := DataW.trod_bool Try.underlying4 t3
  simp at e0 e2 e3
  subst e0 e1 e2 e3
  exact ⟨nm, ty, wa, wl, wc, tk, rfl, l0, l2, by omega⟩
end
end Go.Proofs.Qxb6630796a
