import Derived.Test.Qxb6630796aMake
namespace Go.Proofs.Qxb6630796a
open Go.RowKit
set_option linter.unusedVariables false
set_option linter.unusedSimpArgs false

/-- some slice comes back -/
def AnyS (e : Ending) : Prop := ∃ a n c, e = .returned (.slice a n c)

theorem size_set (w : World) (a : Addr) (u : Value) : (w.setCell a u).heap.size = w.heap.size := by simp [World.setCell]

set_option maxRecDepth 100000 in
set_option maxHeartbeats 2000000 in
theorem blocks_any (vb : Value) (m : Nat) (K : Nat → Nat) (hm : m ≤ 1048576) (hK : ∀ i, i < m → K i ≤ 1048576) (w : World) (hb : Bz w vb m K) :
    Calls Try.prog 11 #[vb] w fun e w' => AnyS e ∧ Below w.heap.size w w' := by
  obtain ⟨ab, cb, rfl, hb1, hb2, hb3⟩ := hb
  unfold maxLen at hb2
  have hnil := fun wx => Go.Lib.run_eql_slice_nil (P := Try.prog) wx 23 45 ab m cb 0 0 Try.underlying23
  have hneq := fun wx a n c => Go.run_neq_slice_nil_any (P := Try.prog) wx 43 47 a n c 0 0 Try.underlying43
  cases ab with
  | none =>
    go_enter Try.func11, Try.ntmps11
    go_wp2
    go_ret
    exact ⟨⟨_, _, _, rfl⟩, Below.refl _ _⟩
  | some ad =>
    obtain ⟨cs54, hcs54, hmk⟩ := run_make_ex 39 54 z54 3 64 Try.underlying39 Try.info54 m (by omega) (by omega)
    have HMK2 := hidI (fun (n : Nat) (h : n ≤ 1048576) => run_make_ex 49 52 z52 6 88 Try.underlying49 Try.info52 n (by omega) (by omega))
    have hst := hidI (Ow.made w 54 3 m cs54 hcs54 (by unfold maxLen; omega))
    have hst2 := hidI (ball w (.cells cs54 54))
    clear hcs54
    have HB := hidI hb3
    have HK := hidI hK
    clear hb3 hK
    go_enter Try.func11, Try.ntmps11
    go_wp2
    clear hmk hnil
    go_loopw [4] (fun i wr => ∃ k : Nat, k ≤ m ∧ i = .int .i64 k ∧ Hid (Ow wr 54 3 w.heap.size m) ∧ Hid (Below w.heap.size w wr)) (fun i _ => m - (intOf i).toNat)
    case atStart => exact ⟨0, Nat.zero_le _, rfl, hst, hst2⟩
    case round =>
      obtain ⟨k, hk, rfl, how, hbel⟩ := hrel
      obtain ⟨wo, rfl⟩ : ∃ x, x = wr := ⟨_, rfl⟩
      clear hst hst2
      by_cases hlt : k < m
      · obtain ⟨b, off, hAd, hbl, hel⟩ := HB.out (by omega)
        obtain rfl : ad = ⟨b, off, none⟩ := by injection hAd
        obtain ⟨lb, ia, sa, ic, sl, sc, h0, h1, h2, h3, h4, h5⟩ := hel k hlt
        have h0 := cell_on hbel.out h0
        have h1 := cell_on hbel.out h1
        have h2 := cell_on hbel.out h2
        have hbl' : b < wo.heap.size := Nat.lt_of_lt_of_le hbl hbel.out.size
        have hwl : w.heap.size < wo.heap.size := how.out.lt
        have hKk := HK.out k hlt
        have H5 := hidI h5
        obtain ⟨KK, hKK⟩ : ∃ x, x = K k := ⟨_, rfl⟩
        rw [← hKK] at h1 H5 hKk
        have hK5 := H5.out.1
        have hK6 := H5.out.2.1
        unfold maxLen at h3 h4 hK6
        obtain ⟨x0, y0⟩ := how.out.cell (j := k * 3) (by omega)
        obtain ⟨x1, y1⟩ := how.out.cell (j := k * 3 + 1) (by omega)
        obtain ⟨x2, y2⟩ := how.out.cell (j := k * 3 + 2) (by omega)
        have z0 := how.out.frozen (k * 3)
        have z1 := how.out.frozen (k * 3 + 1)
        have z2 := how.out.frozen (k * 3 + 2)
        have hki : (k : Int) < (m : Int) := by omega
        clear hel h5 hKK hAd
        cases ia with
        | none =>
          have HO1 := hidI ((((how.out.set (k * 3) (.string lb)).set (k * 3 + 1) (.slice none 0 0)).set (k * 3 + 2) (.slice sa sl sc)).alloc (.cells #[.string lb, .slice none KK ic, .slice sa sl sc] 45))
          have HB1 := hidI ((((hbel.out.setCell (p := ⟨w.heap.size, k * 3, none⟩) (Nat.le_refl _) (.string lb)).setCell (p := ⟨w.heap.size, k * 3 + 1, none⟩) (Nat.le_refl _) (.slice none 0 0)).setCell (p := ⟨w.heap.size, k * 3 + 2, none⟩) (Nat.le_refl _) (.slice sa sl sc)))
          have HB2 := hidI (bstep HB1.out (ball _ (.cells #[.string lb, .slice none KK ic, .slice sa sl sc] 45)))
          go_wp2
          go_roundw
          case rel => exact ⟨k + 1, by omega, by go_num, HO1, HB2⟩
          case measure => simp [intOf]; omega
        | some iad =>
          obtain ⟨cs52, hcs52, hmk2⟩ := HMK2.out KK (by omega)
          obtain ⟨W2, hW2⟩ : ∃ x, x = wo.alloc (.cells #[.string lb, .slice (some iad) KK ic, .slice sa sl sc] 45) := ⟨_, rfl⟩
          have hW2s : W2.heap.size = wo.heap.size + 1 := by rw [hW2]; simp
          have hbW2 := hidI (bstep hbel.out (hW2 ▸ ball wo _))
          have hbW2' := hidI (hW2 ▸ ball wo (.cells #[.string lb, .slice (some iad) KK ic, .slice sa sl sc] 45) : Below wo.heap.size wo W2)
          have cb0 : W2.cell? ⟨wo.heap.size, 0, none⟩ = some (.string lb) := by rw [hW2]; exact (cell_of_row _ _ 0 _ 45 (0, 0) (heap_alloc_new wo _)).trans rfl
          have cb1 : W2.cell? ⟨wo.heap.size, 1, none⟩ = some (.slice (some iad) KK ic) := by rw [hW2]; exact (cell_of_row _ _ 1 _ 45 (0, 0) (heap_alloc_new wo _)).trans rfl
          have cb2 : W2.cell? ⟨wo.heap.size, 2, none⟩ = some (.slice sa sl sc) := by rw [hW2]; exact (cell_of_row _ _ 2 _ 45 (0, 0) (heap_alloc_new wo _)).trans rfl
          have HM2 := hidI (Ow.made W2 52 6 KK cs52 hcs52 (by unfold maxLen; omega))
          have HBM := hidI (ball W2 (.cells cs52 52))
          have CB0 := hidI cb0
          have CB1 := hidI cb1
          have CB2 := hidI cb2
          have HOW2 := hidI (how.out.below hbW2'.out)
          have HI := hidI (H5.out.below hbW2.out)
          rw [hW2s] at HM2 HBM
          have HW2 := hidI hW2
          have HWS := hidI hW2s
          clear cb0 cb1 cb2 hW2 hW2s hcs52
          go_wp2
          go_loopw [7] (fun i wr => ∃ j : Nat, j ≤ KK ∧ i = .int .i64 j ∧ Hid (Ow wr 52 6 (wo.heap.size + 1) KK) ∧ Hid (Below (wo.heap.size + 1) W2 wr)) (fun i _ => KK - (intOf i).toNat)
          case atStart => exact ⟨0, Nat.zero_le _, rfl, (by have h := HM2; rw [HW2.out] at h; exact h), (by have h := HBM; rw [HW2.out] at h ⊢; exact h)⟩
          case round =>
            obtain ⟨j, hj, rfl, how3, hbel3⟩ := hrel
            have hb3' := hidI (show Below W2.heap.size W2 wr from by rw [HWS.out]; exact hbel3.out)
            have cb0 := cell_on hb3'.out CB0.out
            have cb1 := cell_on hb3'.out CB1.out
            have cb2 := cell_on hb3'.out CB2.out
            have hB3 := hidI (bstep hbW2.out hb3'.out)
            have hO3 := hidI (HOW2.out.below hb3'.out)
            clear y0 y1 y2 z0 z1 z2 h0 h1 h2
            by_cases hlt3 : j < KK
            · obtain ⟨b2, off2, hAd, hbl2, hel2⟩ := HI.out.2.2 (by omega)
              obtain rfl : iad = ⟨b2, off2, none⟩ := by injection hAd
              obtain ⟨kd, dest, aa, pa, al, ac, pl, pc, cal, pt, g0, g1, g2, g3, g4, g5, g6, g7, g8⟩ := hel2 j hlt3
              have g0 := cell_on hb3'.out g0
              have g1 := cell_on hb3'.out g1
              have g2 := cell_on hb3'.out g2
              have g3 := cell_on hb3'.out g3
              have g4 := cell_on hb3'.out g4
              have g5 := cell_on hb3'.out g5
              have hbl2' : b2 < wr.heap.size := World.block_lt_of_cell? wr _ g0
              have hbl3' : wo.heap.size < wr.heap.size := World.block_lt_of_cell? wr _ cb1
              have hgl : wo.heap.size + 1 < wr.heap.size := how3.out.lt
              obtain ⟨x0, y0⟩ := how3.out.cell (j := j * 6) (by omega)
              obtain ⟨x1, y1⟩ := how3.out.cell (j := j * 6 + 1) (by omega)
              obtain ⟨x2, y2⟩ := how3.out.cell (j := j * 6 + 2) (by omega)
              obtain ⟨x3, y3⟩ := how3.out.cell (j := j * 6 + 3) (by omega)
              obtain ⟨x4, y4⟩ := how3.out.cell (j := j * 6 + 4) (by omega)
              obtain ⟨x5, y5⟩ := how3.out.cell (j := j * 6 + 5) (by omega)
              have z0 := how3.out.frozen (j * 6)
              have z1 := how3.out.frozen (j * 6 + 1)
              have z2 := how3.out.frozen (j * 6 + 2)
              have z3 := how3.out.frozen (j * 6 + 3)
              have z4 := how3.out.frozen (j * 6 + 4)
              have z5 := how3.out.frozen (j * 6 + 5)
              have hji : (j : Int) < (KK : Int) := by omega
              have HO6 := hidI (((((((how3.out.set (j * 6) (.int .u8 kd)).set (j * 6 + 1) (.int .i64 dest)).set (j * 6 + 2) (.slice aa al ac)).set (j * 6 + 3) (.slice pa pl pc)).set (j * 6 + 4) (.string cal)).set (j * 6 + 5) (.bool pt)).alloc (.cells #[.int .u8 kd, .int .i64 dest, .slice aa al ac, .slice pa pl pc, .string cal, .bool pt] 47))
              have HB6 := hidI (((((((hbel3.out.setCell (p := ⟨wo.heap.size + 1, j * 6, none⟩) (Nat.le_refl _) (.int .u8 kd)).setCell (p := ⟨wo.heap.size + 1, j * 6 + 1, none⟩) (Nat.le_refl _) (.int .i64 dest)).setCell (p := ⟨wo.heap.size + 1, j * 6 + 2, none⟩) (Nat.le_refl _) (.slice aa al ac)).setCell (p := ⟨wo.heap.size + 1, j * 6 + 3, none⟩) (Nat.le_refl _) (.slice pa pl pc)).setCell (p := ⟨wo.heap.size + 1, j * 6 + 4, none⟩) (Nat.le_refl _) (.string cal)).setCell (p := ⟨wo.heap.size + 1, j * 6 + 5, none⟩) (Nat.le_refl _) (.bool pt)).alloc (by simp only [size_set]; omega) (.cells #[.int .u8 kd, .int .i64 dest, .slice aa al ac, .slice pa pl pc, .string cal, .bool pt] 47))
              clear hel2 hAd
              go_wp2
              go_roundw
              case rel => exact ⟨j + 1, by omega, by go_num, HO6, HB6⟩
              case measure => simp [intOf]; omega
            · obtain ⟨x0, y0⟩ := hO3.out.cell (j := k * 3) (by omega)
              obtain ⟨x1, y1⟩ := hO3.out.cell (j := k * 3 + 1) (by omega)
              obtain ⟨x2, y2⟩ := hO3.out.cell (j := k * 3 + 2) (by omega)
              have z0 := hO3.out.frozen (k * 3)
              have z1 := hO3.out.frozen (k * 3 + 1)
              have z2 := hO3.out.frozen (k * 3 + 2)
              have HO3 := hidI (((hO3.out.set (k * 3) (.string lb)).set (k * 3 + 1) (.slice (some ⟨wo.heap.size + 1, 0, none⟩) KK KK)).set (k * 3 + 2) (.slice sa sl sc))
              have HB3 := hidI ((((hB3.out.setCell (p := ⟨w.heap.size, k * 3, none⟩) (Nat.le_refl _) (.string lb)).setCell (p := ⟨w.heap.size, k * 3 + 1, none⟩) (Nat.le_refl _) (.slice (some ⟨wo.heap.size + 1, 0, none⟩) KK KK)).setCell (p := ⟨w.heap.size, k * 3 + 2, none⟩) (Nat.le_refl _) (.slice sa sl sc)))
              go_wp2
              go_roundw
              case rel => exact ⟨k + 1, by omega, by go_num, HO3, HB3⟩
              case measure => simp [intOf]; omega
      · go_wp2
        go_ret
        exact ⟨⟨_, _, _, rfl⟩, hbel.out⟩
end Go.Proofs.Qxb6630796a
