import Derived.Test.Qxb6630796aRows
import Derived.WalkKit
import Derived.WalkSpells
import Derived.Deep.QuietTactic
import Derived.BigQuiet
namespace Go.Proofs.Qxb6630796a
open Go.RowKit
set_option linter.unusedVariables false

theorem hidI {p : Prop} (h : p) : Hid p := h
theorem ret_bool {a b : Bool} (h : a = b) : Ending.returned (.bool a) = .returned (.bool b) := by rw [h]
theorem ret_int {k : IntKind} {a b : Int} (h : a = b) : Ending.returned (.int k a) = .returned (.int k b) := by rw [h]
theorem bstep {w w1 w2 : World} (h : Below w.heap.size w w1) (k : Below w1.heap.size w1 w2) : Below w.heap.size w w2 := h.trans (k.mono h.size)
theorem ball (w : World) (o : Obj) : Below w.heap.size w (w.alloc o) := (Below.refl _ _).alloc (Nat.le_refl _) _
theorem bdrew {B : Nat} {w w' : World} (h : Below B w w') (n : Nat) : Below B w (w'.drewN n) := ⟨h.os, h.tape, h.output, h.size, h.block⟩
theorem cell_on {w w' : World} (hb : Below w.heap.size w w') {a : Addr} {v : Value} (h : w.cell? a = some v) : w'.cell? a = some v :=
  (hb.cell (World.block_lt_of_cell? w _ h)).trans h

/-- some bool comes back -/
def AnyB (e : Ending) : Prop := ∃ x, e = .returned (.bool x)
theorem anyB (x : Bool) : AnyB (.returned (.bool x)) := ⟨x, rfl⟩

/-- one variable: a name, so many words, a type's name, a flag -/
def El (w : World) (b off l : Nat) : Prop :=
  ∃ (nm ty : ByteArray) (wa : Option Addr) (wc : Nat) (tk : Bool), w.cell? ⟨b, off, none⟩ = some (.string nm) ∧ w.cell? ⟨b, off + 1, none⟩ = some (.slice wa l wc) ∧ w.cell? ⟨b, off + 2, none⟩ = some (.string ty) ∧ w.cell? ⟨b, off + 3, none⟩ = some (.bool tk) ∧
    nm.size ≤ maxLen ∧ ty.size ≤ maxLen ∧ l ≤ maxLen
/-- a slice of n variables, variable i of L i words -/
def Vz (w : World) (v : Value) (n : Nat) (L : Nat → Nat) : Prop :=
  ∃ ao cap, v = .slice ao n cap ∧ n ≤ cap ∧ cap ≤ maxLen ∧ (0 < n → ∃ b off, ao = some ⟨b, off, none⟩ ∧ b < w.heap.size ∧ ∀ i, i < n → El w b (off + i * 4) (L i))
/-- one instruction -/
def In (w : World) (b off : Nat) : Prop :=
  ∃ (kd dest : Int) (aa pa : Option Addr) (al ac pl pc : Nat) (cal : ByteArray) (pt : Bool), w.cell? ⟨b, off, none⟩ = some (.int .u8 kd) ∧ w.cell? ⟨b, off + 1, none⟩ = some (.int .i64 dest) ∧ w.cell? ⟨b, off + 2, none⟩ = some (.slice aa al ac) ∧ w.cell? ⟨b, off + 3, none⟩ = some (.slice pa pl pc) ∧
    w.cell? ⟨b, off + 4, none⟩ = some (.string cal) ∧ w.cell? ⟨b, off + 5, none⟩ = some (.bool pt) ∧ al ≤ maxLen ∧ pl ≤ maxLen ∧ cal.size ≤ maxLen
def Iz (w : World) (ao : Option Addr) (K cap : Nat) : Prop :=
  K ≤ cap ∧ cap ≤ maxLen ∧ (0 < K → ∃ b off, ao = some ⟨b, off, none⟩ ∧ b < w.heap.size ∧ ∀ j, j < K → In w b (off + j * 6))
/-- one block -/
def Bk (w : World) (b off K : Nat) : Prop :=
  ∃ (lb : ByteArray) (ia sa : Option Addr) (ic sl sc : Nat), w.cell? ⟨b, off, none⟩ = some (.string lb) ∧ w.cell? ⟨b, off + 1, none⟩ = some (.slice ia K ic) ∧ w.cell? ⟨b, off + 2, none⟩ = some (.slice sa sl sc) ∧ lb.size ≤ maxLen ∧ sl ≤ maxLen ∧ Iz w ia K ic
def Bz (w : World) (v : Value) (m : Nat) (K : Nat → Nat) : Prop :=
  ∃ ao cap, v = .slice ao m cap ∧ m ≤ cap ∧ cap ≤ maxLen ∧ (0 < m → ∃ b off, ao = some ⟨b, off, none⟩ ∧ b < w.heap.size ∧ ∀ i, i < m → Bk w b (off + i * 3) (K i))

theorem El.below {w w' : World} {b off l : Nat} (h : El w b off l) (hb : Below w.heap.size w w') : El w' b off l := by
  obtain ⟨nm, ty, wa, wc, tk, h0, h1, h2, h3, r⟩ := h
  exact ⟨nm, ty, wa, wc, tk, cell_on hb h0, cell_on hb h1, cell_on hb h2, cell_on hb h3, r⟩
theorem Vz.below {w w' : World} {v : Value} {n : Nat} {L : Nat → Nat} (h : Vz w v n L) (hb : Below w.heap.size w w') : Vz w' v n L := by
  obtain ⟨ao, cap, rfl, h1, h2, h3⟩ := h
  refine ⟨ao, cap, rfl, h1, h2, fun hl => ?_⟩
  obtain ⟨b, o, rfl, h4, h5⟩ := h3 hl
  exact ⟨b, o, rfl, Nat.lt_of_lt_of_le h4 hb.size, fun i hi => (h5 i hi).below hb⟩
theorem In.below {w w' : World} {b off : Nat} (h : In w b off) (hb : Below w.heap.size w w') : In w' b off := by
  obtain ⟨kd, dest, aa, pa, al, ac, pl, pc, cal, pt, h0, h1, h2, h3, h4, h5, r⟩ := h
  exact ⟨kd, dest, aa, pa, al, ac, pl, pc, cal, pt, cell_on hb h0, cell_on hb h1, cell_on hb h2, cell_on hb h3, cell_on hb h4, cell_on hb h5, r⟩
theorem Iz.below {w w' : World} {ao : Option Addr} {K cap : Nat} (h : Iz w ao K cap) (hb : Below w.heap.size w w') : Iz w' ao K cap := by
  obtain ⟨h1, h2, h3⟩ := h
  refine ⟨h1, h2, fun hl => ?_⟩
  obtain ⟨b, o, rfl, h4, h5⟩ := h3 hl
  exact ⟨b, o, rfl, Nat.lt_of_lt_of_le h4 hb.size, fun i hi => (h5 i hi).below hb⟩
theorem Bk.below {w w' : World} {b off K : Nat} (h : Bk w b off K) (hb : Below w.heap.size w w') : Bk w' b off K := by
  obtain ⟨lb, ia, sa, ic, sl, sc, h0, h1, h2, r1, r2, r3⟩ := h
  exact ⟨lb, ia, sa, ic, sl, sc, cell_on hb h0, cell_on hb h1, cell_on hb h2, r1, r2, r3.below hb⟩
theorem Bz.below {w w' : World} {v : Value} {m : Nat} {K : Nat → Nat} (h : Bz w v m K) (hb : Below w.heap.size w w') : Bz w' v m K := by
  obtain ⟨ao, cap, rfl, h1, h2, h3⟩ := h
  refine ⟨ao, cap, rfl, h1, h2, fun hl => ?_⟩
  obtain ⟨b, o, rfl, h4, h5⟩ := h3 hl
  exact ⟨b, o, rfl, Nat.lt_of_lt_of_le h4 hb.size, fun i hi => (h5 i hi).below hb⟩

end Go.Proofs.Qxb6630796a
