import Derived.Test.Qxb6630674aIn
import Derived.RegionTactic
import Derived.BigRegion
namespace Go.Proofs.Qxb6630674a
open Go.RowKit
set_option linter.unusedSimpArgs false

theorem Try.info38 : (Try.prog.info? 38).map (fun i => (i.zero, i.size, i.bytes)) = some (some (.agg #[.int .i32 0, .int .i32 0]), 2, 8) := by kernel_rfl

theorem run_make38 (n : Nat) (h : n ≤ 65536) (w : World) :
    (Instr.makeSlice 25 (.int .i64 (n : Int)) (.int .i64 (n : Int))).run Try.prog w = .ok (.slice (some ⟨w.heap.size, 0, none⟩) n n) (w.alloc (.cells (madeCells #[.int .i32 0, .int .i32 0] (n * 2)) 38)) := by
  obtain ⟨i, hi, hz, hs, hb⟩ := info_parts Try.info38
  have := run_make (P := Try.prog) w 25 38 i _ Try.underlying25 hi hz .i64 .i64 n n (by omega) (Int.le_refl _) (by rw [hb]; omega) (by omega)
  simp only [hs, Int.toNat_natCast] at this
  exact this

/-- A row of the call's own, some of whose pairs are laid. -/
def Laid (w : World) (g n : Nat) (l : List Pl.R) (k : Nat) : Prop :=
  ∃ xs, w.ownsRow g 38 2 (.slice (some ⟨g, 0, none⟩) n n) n xs ∧ ∀ j, j < k → xs[j * 2]? = some (.int .i32 (Pl.A l j)) ∧ xs[j * 2 + 1]? = some (.int .i32 (Pl.B l j))

theorem laid_step {w : World} {g n : Nat} {l : List Pl.R} {k : Nat} (h : Laid w g n l k) (hk : k < n) :
    Laid ((w.setCell ⟨g, k * 2, none⟩ (.int .i32 (Pl.A l k))).setCell ⟨g, k * 2 + 1, none⟩ (.int .i32 (Pl.B l k))) g n l (k + 1) := by
  obtain ⟨xs, h1, h2⟩ := h
  have s1 := (h1.stored (k * 2) (.int .i32 (Pl.A l k))).1
  have s2 := (s1.stored (k * 2 + 1) (.int .i32 (Pl.B l k))).1
  refine ⟨_, s2, fun j hj => ?_⟩
  have hlen := h1.1
  by_cases e : j = k
  · subst e
    constructor
    · rw [List.getElem?_set_ne (by omega), List.getElem?_set_self (by omega)]
    · rw [List.getElem?_set_self (by simp; omega)]
  · have := h2 j (by omega)
    rw [List.getElem?_set_ne (by omega), List.getElem?_set_ne (by omega), List.getElem?_set_ne (by omega), List.getElem?_set_ne (by omega)]
    exact this

theorem laid_done {w : World} {g : Nat} {l : List Pl.R} (h : Laid w g l.length l l.length) (hm : l.length ≤ maxLen) : Rs w (.slice (some ⟨g, 0, none⟩) l.length l.length) l := by
  obtain ⟨xs, h1, h2⟩ := h
  refine ⟨_, _, rfl, Nat.le_refl _, hm, fun _ => ⟨g, 0, rfl, (h1.lt g rfl).2, fun i hi => ?_⟩⟩
  have := h2 i hi
  rw [h1.cellAt _ (by omega), h1.cellAt _ (by omega)]
  simpa using this

set_option maxHeartbeats 400000 in
theorem toRanges_any (l : List Pl.R) (hn' : l.length ≤ 65536) (v : Value) (w : World) (hv : Rs w v l) :
    Calls Try.prog 7 #[v] w fun e w' => ∃ v', e = .returned v' ∧ Rs w' v' l ∧ Below w.heap.size w w' := by
  obtain ⟨ao, cap, rfl, hlc, hcm, hcells⟩ := hv
  unfold maxLen at hcm
  have hmk := run_make38 l.length hn'
  have hdone : ∀ w' g, Laid w' g l.length l l.length → Rs w' (.slice (some ⟨g, 0, none⟩) l.length l.length) l := fun w' g h => laid_done h (by unfold maxLen; omega)
  have hstart : Laid (w.alloc (.cells (madeCells #[.int .i32 0, .int .i32 0] (l.length * 2)) 38)) w.heap.size l.length l 0 :=
    ⟨_, World.ownsRow_lit w _ l.length (Nat.le_refl _) (by unfold maxLen; omega) (by rw [size_madeCells]), fun j h => by omega⟩
  have HD := (show Hid _ from hdone)
  have HS := (show Hid _ from hstart)
  clear hdone hstart
  obtain ⟨n, hn⟩ : ∃ n, n = l.length := ⟨_, rfl⟩
  have HN : Hid (n = l.length) := hn
  rw [← hn] at hlc hcells hmk hn' HD HS ⊢
  clear hn
  go_enter Try.func7, Try.ntmps7
  go_wp2
  go_loopw [4] (fun i wr => ∃ k : Nat, k ≤ n ∧ i = .int .i64 k ∧ Laid wr w.heap.size n l k ∧ Below w.heap.size w wr) (fun i _ => n - (intOf i).toNat)
  case atStart => exact ⟨0, Nat.zero_le _, rfl, HS, (Below.refl _ _).alloc (Nat.le_refl _) _⟩
  case round =>
    obtain ⟨k, hk, rfl, hlaid, hbel⟩ := hrel
    by_cases hlt : k < n
    · obtain ⟨bb, off, rfl, hb, hc⟩ := hcells (by omega)
      have h1 := (hbel.cell (p := ⟨bb, off + k * 2, none⟩) hb).trans (hc k hlt).1
      have h2 := (hbel.cell (p := ⟨bb, off + k * 2 + 1, none⟩) hb).trans (hc k hlt).2
      have hne : ¬ bb = w.heap.size := by omega
      have hki : (k : Int) < (n : Int) := by omega
      have HL : Hid (Laid wr w.heap.size n l k) := hlaid
      have HB : Hid (Below w.heap.size w wr) := hbel
      obtain ⟨xs, ho, _⟩ := hlaid
      have g1 := ho.frozenAt (k * 2)
      have g2 := ho.frozenAt (k * 2 + 1)
      have hlen := ho.1
      have g3 : ∃ x, wr.cell? ⟨w.heap.size, k * 2, none⟩ = some x := ⟨xs[k * 2]'(by omega), by rw [ho.cellAt _ (by omega)]; simp⟩
      have g4 : ∃ x, wr.cell? ⟨w.heap.size, k * 2 + 1, none⟩ = some x := ⟨xs[k * 2 + 1]'(by omega), by rw [ho.cellAt _ (by omega)]; simp⟩
      obtain ⟨x3, g3⟩ := g3
      obtain ⟨x4, g4⟩ := g4
      clear hcells hc ho hlen hbel hmk
      go_wp2
      go_region
      all_goals go_wp2
      go_roundw
      case rel => exact ⟨k + 1, by omega, by go_num, laid_step HL.out hlt, ((HB.out.setCell (Nat.le_refl _) _).setCell (Nat.le_refl _) _).drew⟩
      case measure => simp [intOf]; omega
    · go_wp2
      go_ret
      obtain rfl : k = n := by omega
      exact ⟨_, rfl, HD.out _ _ hlaid, hbel⟩

theorem newSet_any (v : Value) (ao : Option Addr) (n c : Nat) (hv : v = .slice ao n c) (w : World) :
    Calls Try.prog 8 #[v] w fun e w' => e = .returned (.agg #[v]) ∧ Below w.heap.size w w' := by
  subst hv
  go_enter Try.func8, Try.ntmps8
  go_wp2
  exact bodyPost_ret (v := .agg #[.slice ao n c]) (by simp [results, Try.results8, go_sem]) rfl ⟨rfl, (Below.refl _ _).alloc (Nat.le_refl _) _⟩

theorem ranges_any (v : Value) (ao : Option Addr) (n c : Nat) (hv : v = .slice ao n c) (w : World) :
    Calls Try.prog 10 #[.agg #[v]] w fun e w' => e = .returned v ∧ Below w.heap.size w w' := by
  subst hv
  go_enter Try.func10, Try.ntmps10
  go_wp2
  go_ret
  exact ⟨rfl, (Below.refl _ _).alloc (Nat.le_refl _) _⟩
end Go.Proofs.Qxb6630674a
