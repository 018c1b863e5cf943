import Derived.Test.Qxb6630732aMaps
import Derived.OpenShut
namespace Go.Proofs.Qxb6630732a
open Go.RowKit Go.Maps
set_option linter.unusedVariables false
set_option linter.unusedSimpArgs false

theorem bstep {w w1 w2 : World} (h : Below w.heap.size w w1) (k : Below w1.heap.size w1 w2) : Below w.heap.size w w2 := h.trans (k.mono h.size)
theorem ball (w : World) (o : Obj) : Below w.heap.size w (w.alloc o) := (Below.refl _ _).alloc (Nat.le_refl _) _
theorem cell_on {w w' : World} (hb : Below w.heap.size w w') {a : Addr} {v : Value} (h : w.cell? a = some v) : w'.cell? a = some v :=
  (hb.cell (World.block_lt_of_cell? w _ h)).trans h

theorem fit_of {x : Int} (h : (Lit.int .i64 x).wf = true) : Pl.Fit x := by
  have := bounds_i64 h
  exact ⟨by omega, by omega⟩

theorem elapsed_is (v : Value) (f : Int → Int) (h : Int → Bool) (T c : Int) (hT : T ≤ 65536) (hT0 : -9223372036854775808 ≤ T) (w : World) (m : Mp w v f h) :
    Calls Try.prog 5 #[v, .agg #[.int .i64 T, .int .i64 c]] w fun e w' => ∃ r, e = .returned (.int .i64 r) ∧ r = Pl.el f c (T - 1).toNat ∧ Below w.heap.size w w' :=
  (elapsed_any v f h T c hT hT0 w m).mono fun e w' ⟨h1, h2⟩ => ⟨_, h1, rfl, h2⟩

set_option maxHeartbeats 400000 in
theorem walk3 (v : Value) (f : Int → Int) (h : Int → Bool) (T c : Int) (wT : (Lit.int .i64 T).wf = true) (wc : (Lit.int .i64 c).wf = true) (w : World) (m : Mp w v f h) :
    Calls Try.prog 3 #[v, .agg #[.int .i64 T, .int .i64 c]] w fun e w' => e = .returned (.bool true) ∧ Below w.heap.size w w' := by
  obtain ⟨n, hlen⟩ := m.len
  have hb1 := ball w (.cells #[.int .i64 T, .int .i64 c] 26)
  have hlen1 := hlen _ hb1
  have HM := hidI m
  have HB1 := hidI hb1
  have HF := hidI (fit_of wc)
  obtain ⟨hT0, hT1⟩ := fit_of wT
  have c0 : (w.alloc (.cells #[.int .i64 T, .int .i64 c] 26)).cell? ⟨w.heap.size, 0, none⟩ = some (.int .i64 T) := (cell_of_row _ _ 0 _ 26 (0, 0) (heap_alloc_new w _)).trans rfl
  have c1 : (w.alloc (.cells #[.int .i64 T, .int .i64 c] 26)).cell? ⟨w.heap.size, 1, none⟩ = some (.int .i64 c) := (cell_of_row _ _ 1 _ 26 (0, 0) (heap_alloc_new w _)).trans rfl
  have C0 := hidI c0
  have C1 := hidI c1
  clear hlen m hb1 c0 c1 wT
  go_enter Try.func3, Try.ntmps3
  by_cases hn : 65536 < n
  · go_wp2_with (at_len; refine wpList_len rfl _ rfl _ n rfl hlen1 ?_)
    go_ret
    exact ⟨rfl, HB1.out⟩
  by_cases hT : 65536 < T
  · go_wp2_with (at_len; refine wpList_len rfl _ rfl _ n rfl hlen1 ?_)
    go_ret
    exact ⟨rfl, HB1.out⟩
  go_wp2_with (at_len; refine wpList_len rfl _ rfl _ n rfl hlen1 ?_)
  clear hlen1
  refine (elapsed_is v f h T c (by omega) hT0 _ (HM.out.below HB1.out)).mono ?_
  rintro e w2 ⟨r1, rfl, hr1, b2⟩
  have HB2 := hidI (bstep HB1.out b2)
  have HR1 := hidI hr1
  have c0 := cell_on b2 C0.out
  have c1 := cell_on b2 C1.out
  clear b2 hr1
  go_wp2_with fail
  refine (elapsed_is v f h T 0 (by omega) hT0 _ (HM.out.below HB2.out)).mono ?_
  rintro e w3 ⟨r2, rfl, hr2, b3⟩
  have HB3 := hidI (bstep HB2.out b3)
  have HR2 := hidI hr2
  have d0 := cell_on b3 c0
  have d1 := cell_on b3 c1
  have hst := Pl.el_start f c HF.out (T - 1).toNat
  rw [← hr2] at hst
  have hbq : (r1 != wrap64 (r2 + c)) = false := by rw [HR1.out, ← hst]; simp
  clear c0 c1 b3 hst hr2
  by_cases h1 : T ≤ 1
  · have HE := hidI (show r1 = c from by rw [HR1.out, show (T - 1).toNat = 0 from by omega]; rfl)
    go_wp2
    go_ret
    exact ⟨ret_bool (by rw [HE.out]; simp), HB3.out⟩
  · go_wp2_with fail
    refine (elapsed_is v f h (T - 1) c (by omega) (by omega) _ (HM.out.below HB3.out)).mono ?_
    rintro e w4 ⟨r3, rfl, hr3, b4⟩
    have HB4 := hidI (bstep HB3.out b4)
    have e0 := cell_on b4 d0
    have hl := HM.out.at HB4.out (x := T - 1) (WalkArith.wf_i64 (by omega))
    have HE := hidI (show r1 = wrap64 (r3 + f (T - 1)) from by
      obtain ⟨n, hn⟩ : ∃ n : Nat, (T - 1).toNat = n + 1 := ⟨(T - 1).toNat - 1, by omega⟩
      rw [HR1.out, hr3, hn, show (T - 1 - 1).toNat = n from by omega]
      simp only [Pl.el]
      rw [show (n : Int) + 1 = T - 1 from by omega])
    clear d0 d1 b4 hr3
    go_wp2
    go_ret
    exact ⟨ret_bool (by rw [HE.out]; simp), HB4.out⟩
end Go.Proofs.Qxb6630732a
