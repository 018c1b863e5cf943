import Derived.Test.Qxb6630796aFunc
import Derived.Deep.OwnRows
namespace Go.Proofs.Qxb6630796a
open Go.RowKit
set_option linter.unusedVariables false
set_option linter.unusedSimpArgs false

/-- the cells of the frame under construction -/
def frC (B n : Nat) (L : Nat → Nat) (P : Int) (k : Nat) (i : Nat) : Value := if i = 0 then .int .i64 (Pl.pa L P k) else if i = 1 then .int .i64 (Pl.pl L P k) else .slice (some ⟨B + 1, 0, none⟩) n n

structure LInv (w : World) (B n : Nat) (L : Nat → Nat) (P : Int) (k : Nat) (wr : World) : Prop where
  res : ∃ f, wr.rowIs B 31 3 f
  row : ∃ f, wr.rowIs (B + 1) 3 n f ∧ ∀ j, j < k → f j = .int .i64 (Pl.off L P j)
  fr : wr.rowIs (B + 1 + 1) 31 3 (frC B n L P k)
  bel : Below B w wr

theorem linv_alloc {w wr : World} {B n k : Nat} {L : Nat → Nat} {P : Int} (h : LInv w B n L P k wr) (o : Obj) : LInv w B n L P k (wr.alloc o) := by
  obtain ⟨⟨f1, h1⟩, ⟨f2, h2, h3⟩, h4, h5⟩ := h
  exact ⟨⟨f1, h1.alloc o⟩, ⟨f2, h2.alloc o, h3⟩, h4.alloc o, h5.alloc (by have := h1.lt; omega) o⟩
theorem linv_drew {w wr : World} {B n k : Nat} {L : Nat → Nat} {P : Int} (h : LInv w B n L P k wr) : LInv w B n L P k wr.drew := by
  obtain ⟨⟨f1, h1⟩, ⟨f2, h2, h3⟩, h4, h5⟩ := h
  exact ⟨⟨f1, h1.drew⟩, ⟨f2, h2.drew, h3⟩, h4.drew, h5.drew⟩

theorem linv_arg {w wr : World} {B n k : Nat} {L : Nat → Nat} {P : Int} (h : LInv w B n L P k wr) (hc : (k : Int) < P) :
    LInv w B n L P (k + 1) ((wr.setCell ⟨B + 1, k, none⟩ (.int .i64 (Pl.pa L P k))).setCell ⟨B + 1 + 1, 0, none⟩ (.int .i64 ((Pl.pa L P k : Int) + (L k : Int)))) := by
  obtain ⟨⟨f1, h1⟩, ⟨f2, h2, h3⟩, h4, h5⟩ := h
  refine ⟨⟨f1, (h1.setOther (by simp only; omega) _).setOther (by simp only; omega) _⟩, ⟨_, (h2.set k _).setOther (by simp) _, fun j hj => ?_⟩, ((h4.setOther (by simp) _).set 0 _).congr (fun i _ => ?_), (h5.setCell (by simp only; omega) _).setCell (by simp only; omega) _⟩
  · by_cases e : j = k
    · subst e; simp [Pl.off, hc]
    · simp only [e, if_false]; exact h3 j (by omega)
  · unfold frC
    rw [Pl.pa_succ_yes hc, Pl.pl_succ_yes hc]
    by_cases e : i = 0
    · simp [e]
    · simp [e]
theorem linv_loc {w wr : World} {B n k : Nat} {L : Nat → Nat} {P : Int} (h : LInv w B n L P k wr) (hc : ¬ (k : Int) < P) :
    LInv w B n L P (k + 1) ((wr.setCell ⟨B + 1, k, none⟩ (.int .i64 (Pl.pl L P k))).setCell ⟨B + 1 + 1, 1, none⟩ (.int .i64 ((Pl.pl L P k : Int) + (L k : Int)))) := by
  obtain ⟨⟨f1, h1⟩, ⟨f2, h2, h3⟩, h4, h5⟩ := h
  refine ⟨⟨f1, (h1.setOther (by simp only; omega) _).setOther (by simp only; omega) _⟩, ⟨_, (h2.set k _).setOther (by simp) _, fun j hj => ?_⟩, ((h4.setOther (by simp) _).set 1 _).congr (fun i _ => ?_), (h5.setCell (by simp only; omega) _).setCell (by simp only; omega) _⟩
  · by_cases e : j = k
    · subst e; simp [Pl.off, hc]
    · simp only [e, if_false]; exact h3 j (by omega)
  · unfold frC
    rw [Pl.pa_succ_no hc, Pl.pl_succ_no hc]
    by_cases e : i = 1
    · simp [e]
    · simp [e]

/-- the offsets of a frame that has come back -/
def Offs (w : World) (v : Value) (n : Nat) (f : Nat → Nat) : Prop := ∃ g, v = .slice (some ⟨g, 0, none⟩) n n ∧ g < w.heap.size ∧ ∀ j, j < n → w.cell? ⟨g, j, none⟩ = some (.int .i64 (f j))
theorem Offs.below {w w' : World} {v : Value} {n : Nat} {f : Nat → Nat} (h : Offs w v n f) (hb : Below w.heap.size w w') : Offs w' v n f := by
  obtain ⟨g, h1, h2, h3⟩ := h
  exact ⟨g, h1, Nat.lt_of_lt_of_le h2 hb.size, fun j hj => cell_on hb (h3 j hj)⟩
def FrameOut (e : Ending) (w' : World) (n : Nat) (L : Nat → Nat) (P : Int) : Prop := ∃ v, e = .returned (.agg #[.int .i64 (Pl.pa L P n), .int .i64 (Pl.pl L P n), v]) ∧ Offs w' v n (Pl.off L P)

theorem linv_start (w : World) (n : Nat) (L : Nat → Nat) (P : Int) (cs : Array Value) (hc : cs.size = n) :
    LInv w w.heap.size n L P 0 (((w.alloc (.cells #[.int .i64 0, .int .i64 0, .slice none 0 0] 31)).alloc (.cells cs 3)).alloc (.cells #[.int .i64 0, .int .i64 0, .slice (some ⟨w.heap.size + 1, 0, none⟩) n n] 31)) := by
  have e1 : (w.alloc (.cells #[.int .i64 0, .int .i64 0, .slice none 0 0] 31)).heap.size = w.heap.size + 1 := by simp
  have e2 : ((w.alloc (.cells #[.int .i64 0, .int .i64 0, .slice none 0 0] 31)).alloc (.cells cs 3)).heap.size = w.heap.size + 1 + 1 := by simp
  refine ⟨⟨fun i => (#[Value.int .i64 0, .int .i64 0, .slice none 0 0] : Array Value)[i]?.getD undef, ?_⟩, ⟨fun i => cs[i]?.getD undef, ?_, fun j h => by omega⟩, ?_, (((Below.refl _ _).alloc (Nat.le_refl _) _).alloc (by simp) _).alloc (by simp; omega) _⟩
  · exact ((World.rowIs_alloc w #[.int .i64 0, .int .i64 0, .slice none 0 0] 31 _ (fun i hi => by
      match i, hi with
      | 0, _ => rfl
      | 1, _ => rfl
      | 2, _ => rfl)).alloc _).alloc _
  · have h := World.rowIs_alloc (w.alloc (.cells #[.int .i64 0, .int .i64 0, .slice none 0 0] 31)) cs 3 (fun i => cs[i]?.getD undef) (fun i hi => by simp [hi])
    rw [e1, hc] at h
    exact h.alloc _
  · have h := World.rowIs_alloc ((w.alloc (.cells #[.int .i64 0, .int .i64 0, .slice none 0 0] 31)).alloc (.cells cs 3)) #[.int .i64 0, .int .i64 0, .slice (some ⟨w.heap.size + 1, 0, none⟩) n n] 31 (frC w.heap.size n L P 0) (fun i hi => by
      match i, hi with
      | 0, _ => rfl
      | 1, _ => rfl
      | 2, _ => rfl)
    rw [e2] at h
    exact h

set_option maxRecDepth 100000 in
set_option maxHeartbeats 1000000 in
theorem layout_any (p n : Nat) (L : Nat → Nat) (P : Int) (hn : n ≤ 1048577) (hS : Pl.S L n ≤ 4000000) (w : World) (hf : FuncAt w p n L P) :
    Calls Try.prog 7 #[.pointer (some ⟨p, 0, none⟩)] w fun e w' => FrameOut e w' n L P ∧ Below w.heap.size w w' := by
  obtain ⟨vs, hp1, hp3, hvz⟩ := hf
  obtain ⟨av, cv, rfl, hv1, hv2, hv3⟩ := hvz
  unfold maxLen at hv2
  have hpl : p < w.heap.size := World.block_lt_of_cell? w _ hp1
  obtain ⟨cs3, hcs3, hmk⟩ := run_make_ex 29 3 (.int .i64 0) 1 8 Try.underlying29 Try.info3 n (by omega) (by omega)
  have hb0 : Below w.heap.size w (((w.alloc (.cells #[.int .i64 0, .int .i64 0, .slice none 0 0] 31)).alloc (.cells cs3 3)).alloc (.cells #[.int .i64 0, .int .i64 0, .slice (some ⟨w.heap.size + 1, 0, none⟩) n n] 31)) :=
    (((Below.refl _ _).alloc (Nat.le_refl _) _).alloc (by simp) _).alloc (by simp; omega) _
  have hq1 := cell_on hb0 hp1
  have hstart := linv_start w n L P cs3 (by omega)
  have HST := hidI hstart
  have HP1 := hidI hp1
  have HP3 := hidI hp3
  have HV := hidI hv3
  clear hb0 hstart hp3 hv3 hcs3
  go_enter Try.func7, Try.ntmps7
  go_wp2
  clear hmk hq1 hp1
  go_loopw [19] (fun i wr => ∃ k : Nat, k ≤ n ∧ i = .int .i64 k ∧ Hid (LInv w w.heap.size n L P k wr)) (fun i _ => n - (intOf i).toNat)
  case atStart => exact ⟨0, Nat.zero_le _, rfl, HST⟩
  case round =>
    obtain ⟨k, hk, rfl, hinv⟩ := hrel
    have hp1 := (hinv.out.bel.cell (p := ⟨p, 1, none⟩) hpl).trans HP1.out
    have hp3 := (hinv.out.bel.cell (p := ⟨p, 3, none⟩) hpl).trans HP3.out
    have r0 := hinv.out.fr.cell (i := 0) (by omega)
    have r1 := hinv.out.fr.cell (i := 1) (by omega)
    have r2 := hinv.out.fr.cell (i := 2) (by omega)
    have s0 := hinv.out.fr.frozen 0
    have s1 := hinv.out.fr.frozen 1
    have hfl := hinv.out.fr.lt
    have hpw : p < wr.heap.size := World.block_lt_of_cell? wr _ hp1
    simp only [frC, if_true, if_false, Nat.one_ne_zero, (by decide : ¬ (2 : Nat) = 0), (by decide : ¬ (2 : Nat) = 1)] at r0 r1 r2
    by_cases hlt : k < n
    · obtain ⟨b, off, rfl, hbl, hel⟩ := HV.out (by omega)
      obtain ⟨nm, ty, wa, wc, tk, h0, h1, h2, h3, h4, h5, h6⟩ := hel k hlt
      have h0 := cell_on hinv.out.bel h0
      have h1 := cell_on hinv.out.bel h1
      have h2 := cell_on hinv.out.bel h2
      have h3 := cell_on hinv.out.bel h3
      have hbl' : b < wr.heap.size := World.block_lt_of_cell? wr _ h0
      obtain ⟨f2, hrow, _⟩ := hinv.out.row
      have t0 := hrow.cell (i := k) hlt
      have t1 := hrow.frozen k
      have hrl := hrow.lt
      have hSk := Pl.S_mono L (show k + 1 ≤ n from hlt)
      have hpa := Pl.pa_le L P k
      have hpl' := Pl.pl_le L P k
      simp only [Pl.S] at hSk
      have hki : (k : Int) < (n : Int) := by omega
      generalize f2 k = fk at t0
      clear hel hrow
      by_cases hc : (k : Int) < P
      · have HN := hidI (linv_drew (linv_drew (linv_alloc (linv_arg hinv.out hc) (.cells #[.string nm, .slice wa (L k) wc, .string ty, .bool tk] 37))))
        go_wp2
        go_region
        all_goals go_wp2
        all_goals go_region
        all_goals go_wp2
        go_roundw
        case rel => exact ⟨k + 1, by omega, by go_num, HN⟩
        case measure => simp [intOf]; omega
      · have HN := hidI (linv_drew (linv_drew (linv_alloc (linv_loc hinv.out hc) (.cells #[.string nm, .slice wa (L k) wc, .string ty, .bool tk] 37))))
        go_wp2
        go_region
        all_goals go_wp2
        all_goals go_region
        all_goals go_wp2
        go_roundw
        case rel => exact ⟨k + 1, by omega, by go_num, HN⟩
        case measure => simp [intOf]; omega
    · have hke : k = n := by omega
      rw [hke] at r0 r1
      obtain ⟨f0, hres⟩ := hinv.out.res
      have u0 := hres.cell (i := 0) (by omega)
      have u1 := hres.cell (i := 1) (by omega)
      have u2 := hres.cell (i := 2) (by omega)
      have v0 := hres.frozen 0
      have v1 := hres.frozen 1
      have v2 := hres.frozen 2
      generalize f0 0 = x0 at u0
      generalize f0 1 = x1 at u1
      generalize f0 2 = x2 at u2
      have hB := hidI (((hinv.out.bel.setCell (p := ⟨w.heap.size, 0, none⟩) (Nat.le_refl _) (.int .i64 (Pl.pa L P n))).setCell (p := ⟨w.heap.size, 1, none⟩) (Nat.le_refl _) (.int .i64 (Pl.pl L P n))).setCell (p := ⟨w.heap.size, 2, none⟩) (Nat.le_refl _) (.slice (some ⟨w.heap.size + 1, 0, none⟩) n n))
      have q3 := ((hres.set 0 (.int .i64 (Pl.pa L P n))).set 1 (.int .i64 (Pl.pl L P n))).set 2 (.slice (some ⟨w.heap.size + 1, 0, none⟩) n n)
      have c0 := q3.cell (i := 0) (by omega)
      have c1 := q3.cell (i := 1) (by omega)
      have c2 := q3.cell (i := 2) (by omega)
      simp only [if_true, if_false, (by decide : ¬ (0 : Nat) = 2), (by decide : ¬ (0 : Nat) = 1), (by decide : ¬ (1 : Nat) = 2)] at c0 c1 c2
      have HO := hidI (show Offs (((wr.setCell ⟨w.heap.size, 0, none⟩ (.int .i64 (Pl.pa L P n))).setCell ⟨w.heap.size, 1, none⟩ (.int .i64 (Pl.pl L P n))).setCell ⟨w.heap.size, 2, none⟩ (.slice (some ⟨w.heap.size + 1, 0, none⟩) n n)) (.slice (some ⟨w.heap.size + 1, 0, none⟩) n n) n (Pl.off L P) from by
        obtain ⟨f2, hrow, hval⟩ := hinv.out.row
        have hr3 := ((hrow.setOther (a := ⟨w.heap.size, 0, none⟩) (by simp) (.int .i64 (Pl.pa L P n))).setOther (a := ⟨w.heap.size, 1, none⟩) (by simp) (.int .i64 (Pl.pl L P n))).setOther (a := ⟨w.heap.size, 2, none⟩) (by simp) (.slice (some ⟨w.heap.size + 1, 0, none⟩) n n)
        exact ⟨_, rfl, hr3.lt, fun j hj => by rw [hr3.cell hj, hval j (by omega)]⟩)
      clear hres q3 hke
      go_wp2
      exact bodyPost_ret (v := .agg #[.int .i64 (Pl.pa L P n), .int .i64 (Pl.pl L P n), .slice (some ⟨w.heap.size + 1, 0, none⟩) n n]) (by simp [results, Try.results7, go_sem, c0, c1, c2]) rfl ⟨⟨_, rfl, HO.out⟩, hB.out⟩
end Go.Proofs.Qxb6630796a
