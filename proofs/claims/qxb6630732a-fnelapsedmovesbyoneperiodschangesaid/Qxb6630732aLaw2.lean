import Derived.Test.Qxb6630732aLaw1
namespace Go.Proofs.Qxb6630732a
open Go.RowKit Go.Maps
set_option linter.unusedVariables false
set_option linter.unusedSimpArgs false

/-- The call's own map holds p's values at the keys from 1 up to k, nothing else. -/
def Cp (w : World) (b n : Nat) (f : Int → Int) (k : Int) : Prop :=
  ∃ D : DataW Unit, w.ownsMap Try.prog 3 (plainElem Try.prog 24) b n D ∧ ∀ x, D.atKey (.int .i64 x) (.lit (.int .i64 0)) = .lit (.int .i64 (if 1 ≤ x ∧ x < k then f x else 0))

theorem cp_start (w : World) (f : Int → Int) : Cp (w.alloc (.map #[] 0)) w.heap.size 0 f 1 :=
  ⟨.map [], World.ownsMap_made _ _ _ _, fun x => by rw [if_neg (by omega)]; rfl⟩

theorem isKey_int (x : Int) : WideAt.IsKeyLit (.int .i64 x) := trivial

theorem cp_step {w w' : World} {b n : Nat} {f : Int → Int} {k : Int} {D : DataW Unit} (hk : 1 ≤ k) (h1 : w.ownsMap Try.prog 3 (plainElem Try.prog 24) b n D) (h2 : ∀ x, D.atKey (.int .i64 x) (.lit (.int .i64 0)) = .lit (.int .i64 (if 1 ≤ x ∧ x < k then f x else 0)))
    (h3 : w'.ownsMap Try.prog 3 (plainElem Try.prog 24) b (n + 1) (D.put (.int .i64 k) (.lit (.int .i64 (f k))))) : Cp w' b (n + 1) f (k + 1) := by
  refine ⟨_, h3, fun x => ?_⟩
  by_cases e : x = k
  · subst e
    rw [atKey_put_same h1.isMap (isKey_int _), if_pos (by omega)]
  · rw [atKey_put_other (by intro h; injection h with _ h; exact e h), h2]
    by_cases hc : 1 ≤ x ∧ x < k
    · rw [if_pos hc, if_pos (by omega)]
    · rw [if_neg hc, if_neg (by omega)]

theorem cp_skip {w : World} {b n : Nat} {f : Int → Int} {k : Int} (hk : 1 ≤ k) (h : Cp w b n f k) (h0 : f k = 0) : Cp w b (n + 1) f (k + 1) := by
  obtain ⟨D, h1, h2⟩ := h
  refine ⟨D, h1.mono (by omega), fun x => ?_⟩
  rw [h2]
  by_cases e : x = k
  · subst e
    rw [if_neg (by omega), if_pos (by omega), h0]
  · by_cases hc : 1 ≤ x ∧ x < k
    · rw [if_pos hc, if_pos (by omega)]
    · rw [if_neg hc, if_neg (by omega)]

/-- the last store: what the walk of Elapsed over q is then told -/
theorem cp_last {w w' : World} {b n : Nat} {f : Int → Int} {k j u : Int} {D : DataW Unit} (h1 : w.ownsMap Try.prog 3 (plainElem Try.prog 24) b n D) (h2 : ∀ x, D.atKey (.int .i64 x) (.lit (.int .i64 0)) = .lit (.int .i64 (if 1 ≤ x ∧ x < k then f x else 0)))
    (h3 : w'.ownsMap Try.prog 3 (plainElem Try.prog 24) b (n + 1) (D.put (.int .i64 j) (.lit (.int .i64 u)))) :
    ∃ g hh, Mp w' (.map (some b)) g hh ∧ g j = u ∧ ∀ x, 1 ≤ x → x < k → x ≠ j → g x = f x := by
  refine ⟨_, _, mp_own h3, ?_, fun x hx1 hx2 hx3 => ?_⟩
  · unfold fOf
    rw [atKey_put_same h1.isMap (isKey_int _)]
    rfl
  · unfold fOf
    rw [atKey_put_other (by intro h; injection h with _ h; exact hx3 h), h2, if_pos ⟨hx1, hx2⟩]
    rfl

set_option maxHeartbeats 800000 in
theorem walk4 (v : Value) (f : Int → Int) (h : Int → Bool) (T c j d : Int) (wT : (Lit.int .i64 T).wf = true) (wc : (Lit.int .i64 c).wf = true) (wj : (Lit.int .i64 j).wf = true) (wd : (Lit.int .i64 d).wf = true) (w : World) (m : Mp w v f h) :
    Calls Try.prog 4 #[v, .agg #[.int .i64 T, .int .i64 c], .int .i64 j, .int .i64 d] w fun e w' => e = .returned (.bool true) ∧ Below w.heap.size w w' := by
  obtain ⟨n, hlen⟩ := m.len
  have hb1 := ball w (.cells #[.int .i64 T, .int .i64 c] 26)
  have hlen1 := hlen _ hb1
  have HM := hidI m
  have HB1 := hidI hb1
  have HF := hidI (fit_of wc)
  obtain ⟨hT0, hT1⟩ := fit_of wT
  obtain ⟨hj0, hj1⟩ := fit_of wj
  have c0 : (w.alloc (.cells #[.int .i64 T, .int .i64 c] 26)).cell? ⟨w.heap.size, 0, none⟩ = some (.int .i64 T) := (cell_of_row _ _ 0 _ 26 (0, 0) (heap_alloc_new w _)).trans rfl
  have c1 : (w.alloc (.cells #[.int .i64 T, .int .i64 c] 26)).cell? ⟨w.heap.size, 1, none⟩ = some (.int .i64 c) := (cell_of_row _ _ 1 _ 26 (0, 0) (heap_alloc_new w _)).trans rfl
  have C0 := hidI c0
  have C1 := hidI c1
  have hcp := cp_start (w.alloc (.cells #[.int .i64 T, .int .i64 c] 26)) f
  have hsz : (w.alloc (.cells #[.int .i64 T, .int .i64 c] 26)).heap.size = w.heap.size + 1 := by simp
  rw [hsz] at hcp
  have HCP := hidI hcp
  have HWJ := hidI wj
  clear hlen m hb1 c0 c1 wT wc wj wd hcp
  have hmm := @run_makeMap Try.prog
  go_enter Try.func4, Try.ntmps4
  by_cases hn : 65536 < n
  · go_wp2_with (at_len; refine wpList_len rfl _ rfl _ n rfl hlen1 ?_)
    go_ret
    exact ⟨rfl, HB1.out⟩
  by_cases hT : 65536 < T
  · go_wp2_with (at_len; refine wpList_len rfl _ rfl _ n rfl hlen1 ?_)
    go_ret
    exact ⟨rfl, HB1.out⟩
  go_wp2_with (at_len; refine wpList_len rfl _ rfl _ n rfl hlen1 ?_)
  clear hlen1
  go_loopw [10] (fun i wr => ∃ k : Nat, 1 ≤ k ∧ (k = 1 ∨ (k : Int) ≤ T) ∧ i = .int .i64 k ∧ Cp wr (w.heap.size + 1) k f k ∧ Below (w.heap.size + 1) (w.alloc (.cells #[.int .i64 T, .int .i64 c] 26)) wr) (fun i _ => (T - intOf i).toNat)
  case atStart => exact ⟨1, Nat.le_refl _, Or.inl rfl, rfl, (by obtain ⟨D, h1, h2⟩ := HCP.out; exact ⟨D, h1.mono (by omega), h2⟩), (Below.refl _ _).alloc (by simp) _⟩
  case round =>
    obtain ⟨k, hk1, hk2, rfl, hcp, hbel⟩ := hrel
    have hbw : Below w.heap.size w wr := HB1.out.trans (hbel.mono (by omega))
    have hsize : w.heap.size + 1 ≤ wr.heap.size := by have := hbel.size; simp at this; omega
    have d0 := (hbel.cell (p := ⟨w.heap.size, 0, none⟩) (by simp)).trans C0.out
    have d1 := (hbel.cell (p := ⟨w.heap.size, 1, none⟩) (by simp)).trans C1.out
    have HBEL := hidI hbel
    have HBW := hidI hbw
    have HC := hidI hcp
    clear hbel hbw hcp hmm
    by_cases hlt : (k : Int) < T
    · have hl := HM.out.atOk HBW.out (x := (k : Int)) (WalkArith.wf_i64 (by omega))
      cases hh : h (k : Int)
      · have hz := hidI (HM.out.zero (x := (k : Int)) (WalkArith.wf_i64 (by omega)) hh)
        rw [hh] at hl
        clear hh
        go_wp2_with (at_lookup; refine wpList_look rfl _ _ true rfl _ _ _ rfl rfl hl ?_)
        go_roundw
        case rel => exact ⟨k + 1, by omega, Or.inr (by omega), by go_num, cp_skip (by omega) HC.out hz.out, HBEL.out⟩
        case measure => simp [intOf]; omega
      · have hwf := HM.out.wf (x := (k : Int)) (WalkArith.wf_i64 (by omega))
        rw [hh] at hl
        clear hh
        obtain ⟨D, hD1, hD2⟩ := HC.out
        have HD1 := hidI hD1
        have HD2 := hidI hD2
        clear hD1 hD2
        go_wp2_with (first | (at_lookup; refine wpList_look rfl _ _ true rfl _ _ _ rfl rfl hl ?_) | (at_mapUpdate; go_must (refine wpList_mapUpdate_own _ rfl _ _ _ 23 rfl 3 24 law3 Try.underlying23 _ (w.heap.size + 1) k D rfl HD1.out (by unfold maxLen; omega) _ _ _ rfl rfl (keyOf_int_mk Try.underlying3 (WalkArith.wf_i64 (by omega))) _ [] (plainElem_int Try.underlying24 hwf) ?_; intro w5 hown5 hgrow5; have HO5 := hidI hown5; have HG5 := hidI hgrow5; clear hown5 hgrow5)))
        go_roundw
        case rel => exact ⟨k + 1, by omega, Or.inr (by omega), by go_num, cp_step (by omega) HD1.out HD2.out HO5.out, HBEL.out.grown HG5.out hsize (fun i hi => by cases hi; exact Nat.le_refl _)⟩
        case measure => simp [intOf]; omega
    · obtain ⟨D, hD1, hD2⟩ := HC.out
      have HD1 := hidI hD1
      have HD2 := hidI hD2
      have hl := HM.out.at HBW.out (x := j) HWJ.out
      clear hD1 hD2
      go_wp2_with (first | (at_lookup; refine wpList_look rfl _ _ false rfl _ _ _ rfl rfl hl ?_) | (at_mapUpdate; go_must (refine wpList_mapUpdate_own _ rfl _ _ _ 23 rfl 3 24 law3 Try.underlying23 _ (w.heap.size + 1) k D rfl HD1.out (by unfold maxLen; omega) _ _ _ rfl rfl (keyOf_int_mk Try.underlying3 HWJ.out) _ [] (plainElem_int Try.underlying24 (wrap64_wf _)) ?_; intro w5 hown5 hgrow5; have hb5 := HBEL.out.grown hgrow5 hsize (fun i hi => by cases hi; exact Nat.le_refl _); have e0 := (hb5.cell (p := ⟨w.heap.size, 0, none⟩) (by simp)).trans C0.out; have e1 := (hb5.cell (p := ⟨w.heap.size, 1, none⟩) (by simp)).trans C1.out; have HO5 := hidI hown5; have HBE5 := hidI hb5; clear hown5 hgrow5 hb5)))
      have hbw5 : Below w.heap.size w w5 := HB1.out.trans (HBE5.out.mono (by omega))
      obtain ⟨g, gh, hmg, hgj, hgx⟩ := cp_last HD1.out HD2.out HO5.out
      have hmove := hidI (Pl.el_move HF.out hgj (T - 1).toNat (fun x h1 h2 h3 => hgx x h1 (by omega) h3))
      have HMG := hidI hmg
      have HB5 := hidI hbw5
      clear hbw5 hmg hgj hgx d0 d1 hl
      refine (elapsed_is v f h T c (by omega) hT0 _ (HM.out.below HB5.out)).mono ?_
      rintro e w6 ⟨r1, rfl, hr1, b6⟩
      have HB6 := hidI (bstep HB5.out b6)
      have HR1 := hidI hr1
      have HMG6 := hidI (HMG.out.below b6)
      have f0 := cell_on b6 e0
      have f1 := cell_on b6 e1
      clear e0 e1 b6 hr1
      by_cases hj1' : 1 ≤ j
      · by_cases hjT : j < T
        · go_wp2_with fail
          refine (elapsed_is _ g gh T c (by omega) hT0 _ HMG6.out).mono ?_
          rintro e w7 ⟨r2, rfl, hr2, b7⟩
          have HE := hidI (show r2 = wrap64 (r1 + d) from by rw [hr2, hmove.out, if_pos (by omega), HR1.out])
          have HB7 := hidI (bstep HB6.out b7)
          clear hr2 b7 f0 f1
          go_wp2
          go_ret
          exact ⟨ret_bool (by rw [HE.out]; simp), HB7.out⟩
        · go_wp2_with fail
          refine (elapsed_is _ g gh T c (by omega) hT0 _ HMG6.out).mono ?_
          rintro e w7 ⟨r2, rfl, hr2, b7⟩
          have HE := hidI (show r2 = r1 from by rw [hr2, hmove.out, if_neg (by omega), HR1.out])
          have HB7 := hidI (bstep HB6.out b7)
          clear hr2 b7 f0 f1
          go_wp2
          go_ret
          exact ⟨ret_bool (by rw [HE.out]; simp), HB7.out⟩
      · go_wp2_with fail
        refine (elapsed_is _ g gh T c (by omega) hT0 _ HMG6.out).mono ?_
        rintro e w7 ⟨r2, rfl, hr2, b7⟩
        have HE := hidI (show r2 = r1 from by rw [hr2, hmove.out, if_neg (by omega), HR1.out])
        have HB7 := hidI (bstep HB6.out b7)
        clear hr2 b7 f0 f1
        go_wp2
        go_ret
        exact ⟨ret_bool (by rw [HE.out]; simp), HB7.out⟩
end Go.Proofs.Qxb6630732a
