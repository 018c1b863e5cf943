import Derived.Test.Qxb6630796aLayout
import Derived.WalkSmall
namespace Go.Proofs.Qxb6630796a
open Go.RowKit
set_option linter.unusedVariables false

/-- what the checks behind the two layouts read: the two frames and their rows -/
def Tail (w0 wr : World) (p9 p10 g1 g2 n k A B : Nat) (qa ql : Int) (xl : Nat) (O : Nat → Nat) (P : Int) : Prop :=
  Below w0.heap.size w0 wr ∧
  (wr.cell? ⟨p9, 0, none⟩ = some (.int .i64 A) ∧ wr.cell? ⟨p9, 1, none⟩ = some (.int .i64 B) ∧ wr.cell? ⟨p9, 2, none⟩ = some (.slice (some ⟨g1, 0, none⟩) n n)) ∧
  (wr.cell? ⟨p10, 0, none⟩ = some (.int .i64 qa) ∧ wr.cell? ⟨p10, 1, none⟩ = some (.int .i64 ql) ∧ wr.cell? ⟨p10, 2, none⟩ = some (.slice (some ⟨g2, 0, none⟩) (n + 1) (n + 1))) ∧
  (∀ j, j < n → wr.cell? ⟨g1, j, none⟩ = some (.int .i64 (O j))) ∧
  (∀ j, j ≤ k → wr.cell? ⟨g2, j, none⟩ = some (.int .i64 (O j))) ∧
  (∀ j, k ≤ j → j < n → wr.cell? ⟨g2, j + 1, none⟩ = some (.int .i64 ((O j + (if ((j : Int) < P ↔ (k : Int) < P) then xl else 0) : Nat) : Int)))

theorem Pl.off_le (L : Nat → Nat) (P : Int) {j n : Nat} (h : j ≤ n) : Pl.off L P j ≤ Pl.S L n := by
  have h1 := Pl.pa_le L P j
  have h2 := Pl.pl_le L P j
  have h3 := Pl.S_mono L h
  unfold Pl.off
  split <;> omega

theorem Tail.step {w0 wr w' : World} {p9 p10 g1 g2 n k A B : Nat} {qa ql : Int} {xl : Nat} {O : Nat → Nat} {P : Int} (h : Tail w0 wr p9 p10 g1 g2 n k A B qa ql xl O P) (hb : Below wr.heap.size wr w') : Tail w0 w' p9 p10 g1 g2 n k A B qa ql xl O P := by
  obtain ⟨h1, ⟨h2, h3, h4⟩, ⟨h5, h6, h7⟩, h8, h9, h10⟩ := h
  exact ⟨bstep h1 hb, ⟨cell_on hb h2, cell_on hb h3, cell_on hb h4⟩, ⟨cell_on hb h5, cell_on hb h6, cell_on hb h7⟩, fun j a => cell_on hb (h8 j a), fun j a => cell_on hb (h9 j a), fun j a b => cell_on hb (h10 j a b)⟩
theorem Tail.drewN {w0 wr : World} {p9 p10 g1 g2 n k A B : Nat} {qa ql : Int} {xl : Nat} {O : Nat → Nat} {P : Int} (h : Tail w0 wr p9 p10 g1 g2 n k A B qa ql xl O P) (m : Nat) : Tail w0 (wr.drewN m) p9 p10 g1 g2 n k A B qa ql xl O P :=
  h.step (below_drewN (Below.refl _ _) m)
theorem Tail.start {w0 w10 : World} {p9 g1 g2 n k xl : Nat} {L : Nat → Nat} {P Q : Int} {o : Obj} {A B a' b' : Nat} {qa ql : Int} (ho : o = .cells #[.int .i64 a', .int .i64 b', .slice (some ⟨g2, 0, none⟩) (n + 1) (n + 1)] 31)
    (hb : Below w0.heap.size w0 (w10.alloc o)) (hs : Pl.Sides P Q k n) (hk : k ≤ n) (f0 : w10.cell? ⟨p9, 0, none⟩ = some (.int .i64 A)) (f1 : w10.cell? ⟨p9, 1, none⟩ = some (.int .i64 B)) (f2 : w10.cell? ⟨p9, 2, none⟩ = some (.slice (some ⟨g1, 0, none⟩) n n))
    (h1 : ∀ j, j < n → w10.cell? ⟨g1, j, none⟩ = some (.int .i64 (Pl.off L P j))) (h2 : ∀ j, j < n + 1 → w10.cell? ⟨g2, j, none⟩ = some (.int .i64 (Pl.off (Pl.ins L k xl) Q j))) (ea : (a' : Int) = qa) (eb : (b' : Int) = ql) :
    Tail w0 (w10.alloc o) p9 w10.heap.size g1 g2 n k A B qa ql xl (Pl.off L P) P := by
  have hq := ball w10 o
  have hbx := heap_alloc_new w10 o
  subst ea eb
  subst ho
  refine ⟨hb, ⟨cell_on hq f0, cell_on hq f1, cell_on hq f2⟩, ⟨(cell_of_row _ _ 0 _ 31 (0, 0) hbx).trans rfl, (cell_of_row _ _ 1 _ 31 (0, 0) hbx).trans rfl, (cell_of_row _ _ 2 _ 31 (0, 0) hbx).trans rfl⟩, fun j h => cell_on hq (h1 j h), fun j h => ?_, fun j h h' => ?_⟩
  · by_cases e : j = k
    · subst e; rw [← Pl.off_new (L := L) (z := xl) hs hk]; exact cell_on hq (h2 j (by omega))
    · rw [← Pl.off_low (L := L) (z := xl) hs hk (show j < k by omega)]; exact cell_on hq (h2 j (by omega))
  · rw [← Pl.off_high (L := L) (z := xl) hs hk h h']; exact cell_on hq (h2 (j + 1) (by omega))
end Go.Proofs.Qxb6630796a
