import Derived.Test.Qxb6630796aMem
import Derived.Lib.SliceRun
import Derived.RegionTactic
import Derived.BigRegion
namespace Go.Proofs.Qxb6630796a
open Go.RowKit
set_option linter.unusedVariables false

/-- a row of the call's own, whatever it holds -/
def Ow (w : World) (e : TypeId) (s g n : Nat) : Prop := ∃ xs, w.ownsRow g e s (.slice (some ⟨g, 0, none⟩) n n) n xs
theorem Ow.set {w : World} {e : TypeId} {s g n : Nat} (h : Ow w e s g n) (j : Nat) (u : Value) : Ow (w.setCell ⟨g, j, none⟩ u) e s g n := by
  obtain ⟨xs, h⟩ := h; exact ⟨_, (h.stored j u).1⟩
theorem Ow.cell {w : World} {e : TypeId} {s g n : Nat} (h : Ow w e s g n) {j : Nat} (hj : j < n * s) : ∃ x, w.cell? ⟨g, j, none⟩ = some x := by
  obtain ⟨xs, h⟩ := h
  have hl := h.1
  exact ⟨xs[j]'(by omega), by rw [h.cellAt _ hj]; simp⟩
theorem Ow.frozen {w : World} {e : TypeId} {s g n : Nat} (h : Ow w e s g n) (j : Nat) : w.frozen? ⟨g, j, none⟩ = false := by
  obtain ⟨xs, h⟩ := h; exact h.frozenAt j
theorem below_grown {w w' : World} (h : Below w.heap.size w w') : w.grownBy w' none := ⟨h.os, h.tape, h.output, h.size, fun k hk _ => h.block k hk⟩
theorem Ow.below {w w' : World} {e : TypeId} {s g n : Nat} (h : Ow w e s g n) (hb : Below w.heap.size w w') : Ow w' e s g n := by
  obtain ⟨xs, h⟩ := h; exact ⟨xs, h.kept (below_grown hb) (Or.inr (by simp [Value.ownBlock]))⟩
theorem Ow.alloc {w : World} {e : TypeId} {s g n : Nat} (h : Ow w e s g n) (o : Obj) : Ow (w.alloc o) e s g n := h.below (ball _ _)
theorem Ow.made (w : World) (e : TypeId) (s n : Nat) (cs : Array Value) (hc : cs.size = n * s) (hn : n ≤ maxLen) : Ow (w.alloc (.cells cs e)) e s w.heap.size n :=
  ⟨_, World.ownsRow_lit w cs n (Nat.le_refl _) hn hc⟩
theorem Ow.lt {w : World} {e : TypeId} {s g n : Nat} (h : Ow w e s g n) : g < w.heap.size := by
  obtain ⟨xs, h⟩ := h; exact (h.lt g rfl).2

theorem run_make_any (t e : TypeId) (z : Value) (size bytes : Nat) (ht : Try.prog.underlying t = some (.slice e)) (hinfo : (Try.prog.info? e).map (fun i => (i.zero, i.size, i.bytes)) = some (some z, size, bytes)) (n : Nat) (h : n ≤ 2097152) (hb : bytes ≤ 100) (w : World) :
    (Instr.makeSlice t (.int .i64 (n : Int)) (.int .i64 (n : Int))).run Try.prog w = .ok (.slice (some ⟨w.heap.size, 0, none⟩) n n) (w.alloc (.cells (madeCells z.cells (n * size)) e)) := by
  obtain ⟨i, hi, hz, hs, hby⟩ := info_parts hinfo
  have hm : (i.bytes : Int) * (n : Int) ≤ 281474976710656 := by
    have h1 : i.bytes * n ≤ 100 * 2097152 := Nat.mul_le_mul (by omega) h
    have h2 : ((i.bytes * n : Nat) : Int) ≤ 100 * 2097152 := by omega
    rw [Int.natCast_mul] at h2
    omega
  have := run_make (P := Try.prog) w t e i z ht hi hz .i64 .i64 n n (by omega) (Int.le_refl _) hm (by omega)
  simp only [hs, Int.toNat_natCast] at this
  exact this

theorem run_make_ex (t e : TypeId) (z : Value) (size bytes : Nat) (ht : Try.prog.underlying t = some (.slice e)) (hinfo : (Try.prog.info? e).map (fun i => (i.zero, i.size, i.bytes)) = some (some z, size, bytes)) (n : Nat) (h : n ≤ 2097152) (hb : bytes ≤ 100) :
    ∃ cs : Array Value, cs.size = n * size ∧ ∀ w, (Instr.makeSlice t (.int .i64 (n : Int)) (.int .i64 (n : Int))).run Try.prog w = .ok (.slice (some ⟨w.heap.size, 0, none⟩) n n) (w.alloc (.cells cs e)) :=
  ⟨_, size_madeCells _ _, fun w => run_make_any t e z size bytes ht hinfo n h hb w⟩

def z54 : Value := .agg #[.string ByteArray.empty, .slice none 0 0, .slice none 0 0]
def z52 : Value := .agg #[.int .u8 0, .int .i64 0, .slice none 0 0, .slice none 0 0, .string ByteArray.empty, .bool false]
def z37 : Value := .agg #[.string ByteArray.empty, .slice none 0 0, .string ByteArray.empty, .bool false]
theorem Try.info54 : (Try.prog.info? 54).map (fun i => (i.zero, i.size, i.bytes)) = some (some z54, 3, 64) := by kernel_rfl
theorem Try.info52 : (Try.prog.info? 52).map (fun i => (i.zero, i.size, i.bytes)) = some (some z52, 6, 88) := by kernel_rfl
theorem Try.info37 : (Try.prog.info? 37).map (fun i => (i.zero, i.size, i.bytes)) = some (some z37, 4, 64) := by kernel_rfl
theorem Try.info3 : (Try.prog.info? 3).map (fun i => (i.zero, i.size, i.bytes)) = some (some (.int .i64 0), 1, 8) := by kernel_rfl

theorem var_any (nm ty : ByteArray) (wa : Option Addr) (l wc : Nat) (tk : Bool) (w : World) :
    Calls Try.prog 10 #[.agg #[.string nm, .slice wa l wc, .string ty, .bool tk]] w fun e w' => e = .returned (.agg #[.string nm, .slice wa l wc, .string ty, .bool tk]) ∧ Below w.heap.size w w' := by
  go_enter Try.func10, Try.ntmps10
  go_wp2
  exact bodyPost_ret (v := .agg #[.string nm, .slice wa l wc, .string ty, .bool tk]) (by simp [results, Try.results10, go_sem]) rfl ⟨rfl, ((Below.refl _ _).alloc (Nat.le_refl _) _).alloc (by simp) _⟩

end Go.Proofs.Qxb6630796a
