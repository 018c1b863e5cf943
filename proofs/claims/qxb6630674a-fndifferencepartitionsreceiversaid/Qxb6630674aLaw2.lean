import Derived.Test.Qxb6630674aLaw1
namespace Go.Proofs.Qxb6630674a
open Go.RowKit
set_option linter.unusedSimpArgs false
set_option linter.unusedVariables false

theorem cell_on {w w' : World} (hb : Below w.heap.size w w') {b : Nat} {v : Value} (h : w.cell? ⟨b, 0, none⟩ = some v) : w'.cell? ⟨b, 0, none⟩ = some v :=
  (hb.cell (p := ⟨b, 0, none⟩) (World.block_lt_of_cell? w _ h)).trans h
theorem cell_box (w : World) (v : Value) : (w.alloc (.cells #[v] 28)).cell? ⟨w.heap.size, 0, none⟩ = some v := cell_of_one (heap_alloc_new w _)
theorem ball (w : World) (o : Obj) : Below w.heap.size w (w.alloc o) := (Below.refl _ _).alloc (Nat.le_refl _) _

set_option maxHeartbeats 400000 in
theorem walk4 (s t : List Pl.R) (v0 v1 : Value) (w : World) (rs : Rs w v0 s) (rt : Rs w v1 t) :
    Calls Try.prog 4 #[v0, v1] w fun e w' => e = .returned (.bool true) ∧ Below w.heap.size w w' := by
  have hms : s.length ≤ maxLen := by obtain ⟨_, _, _, h1, h2, _⟩ := rs; omega
  have hmt : t.length ≤ maxLen := by obtain ⟨_, _, _, h1, h2, _⟩ := rt; omega
  obtain ⟨a0, c0, rfl⟩ : ∃ a c, v0 = .slice a s.length c := by obtain ⟨a, c, h, _⟩ := rs; exact ⟨_, _, h⟩
  obtain ⟨a1, c1, rfl⟩ : ∃ a c, v1 = .slice a t.length c := by obtain ⟨a, c, h, _⟩ := rt; exact ⟨_, _, h⟩
  have hby := bytes13_any a0 a1 s.length t.length c0 c1 hms hmt w
  have HRS := hidI rs
  have HRT := hidI rt
  obtain ⟨n, hn⟩ : ∃ n, n = s.length := ⟨_, rfl⟩
  obtain ⟨m, hm⟩ : ∃ m, m = t.length := ⟨_, rfl⟩
  rw [← hn] at hms hby HRS ⊢
  rw [← hm] at hmt hby HRT ⊢
  have HN := hidI hn
  have HM := hidI hm
  clear hn hm rs rt
  unfold maxLen at hms hmt
  go_enter Try.func4, Try.ntmps4
  go_wp2_with fail
  refine hby.mono ?_
  rintro e w1 ⟨⟨x, rfl⟩, rfl⟩
  clear hby
  cases x
  · go_wp2
    go_ret
    exact ⟨rfl, Below.refl _ _⟩
  by_cases hbn : 65536 < n
  · go_wp2
    go_ret
    exact ⟨rfl, Below.refl _ _⟩
  by_cases hbm : 65536 < m
  · go_wp2
    go_ret
    exact ⟨rfl, Below.refl _ _⟩
  go_wp2_with fail
  refine (pcanon_bel s _ _ HRS.out).mono ?_
  rintro e w2 ⟨⟨b, rfl, hcs⟩, b2⟩
  cases b
  · clear hcs
    go_wp2
    go_ret
    exact ⟨rfl, b2⟩
  have HCS := hidI (hcs rfl)
  clear hcs
  have HRS := hidI (HRS.out.below b2)
  have HRT := hidI (HRT.out.below b2)
  go_wp2_with fail
  refine (pcanon_bel t _ _ HRT.out).mono ?_
  rintro e w3 ⟨⟨b, rfl, hct⟩, b3⟩
  have b3' := bstep b2 b3
  cases b
  · clear hct
    go_wp2
    go_ret
    exact ⟨rfl, b3'⟩
  have HCT := hidI (hct rfl)
  clear hct
  have HRS := hidI (HRS.out.below b3)
  have HRT := hidI (HRT.out.below b3)
  go_wp2_with fail
  refine (toRanges_any s (by have := HN.out; omega) _ _ HRS.out).mono ?_
  rintro e w4 ⟨vs, rfl, rs4, b4⟩
  have b4' := bstep b3' b4
  have HRT := hidI (HRT.out.below b4)
  obtain ⟨xs, ns, ys, rfl⟩ := rs4.shape
  go_wp2_with fail
  refine (toRanges_any t (by have := HM.out; omega) _ _ HRT.out).mono ?_
  rintro e w5 ⟨vt, rfl, rt5, b5⟩
  have b5' := bstep b4' b5
  have rs5 := rs4.below b5
  obtain ⟨xt, nt, yt, rfl⟩ := rt5.shape
  clear rs4 b2 b3 b3' b4 b4' b5
  go_wp2_with fail
  refine (newSet_any _ _ _ _ rfl _).mono ?_
  rintro e w6 ⟨rfl, b6⟩
  have hx := bstep b6 (ball w6 (.cells #[.slice xs ns ys] 28))
  have b6' := bstep b5' hx
  have rs6 := rs5.below hx
  have rt6 := rt5.below hx
  have cS6 := cell_box w6 (.slice xs ns ys)
  clear rs5 rt5 b5' b6 hx
  go_wp2_with fail
  refine (newSet_any _ _ _ _ rfl _).mono ?_
  rintro e w7 ⟨rfl, b7⟩
  have hx := bstep b7 (ball w7 (.cells #[.slice xt nt yt] 28))
  have b7' := bstep b6' hx
  have rs7 := rs6.below hx
  have rt7 := rt6.below hx
  have cS7 := cell_on hx cS6
  have cT7 := cell_box w7 (.slice xt nt yt)
  have cS7' := cell_on b7 cS6
  clear rs6 rt6 b6' b7 cS6 hx
  have lS := World.block_lt_of_cell? _ _ cS7'
  simp only at lS
  go_wp2_with fail
  refine (diff_any s t HCS.out HCT.out _ _ _ rs7 rt7).mono ?_
  rintro e w8 ⟨vd, rfl, rd8, b8⟩
  obtain ⟨xd, nd, yd, rfl⟩ := rd8.shape
  have hx := bstep b8 (ball w8 (.cells #[.slice xd nd yd] 28))
  have b8' := bstep b7' hx
  have rs8 := rs7.below hx
  have rt8 := rt7.below hx
  have rd8' := rd8.alloc (.cells #[.slice xd nd yd] 28)
  have cS8' := cell_on b8 cS7
  have cT8' := cell_on b8 cT7
  have cS8 := cell_on hx cS7
  have cT8 := cell_on hx cT7
  have cD8 := cell_box w8 (.slice xd nd yd)
  have lS8 := World.block_lt_of_cell? _ _ cS8'
  have lT8 := World.block_lt_of_cell? _ _ cT8'
  simp only at lS8 lT8
  clear rs7 rt7 b7' b8 rd8 cS7 cT7 cS7' hx lS
  have HCD := hidI (Pl.diff_canon s t HCS.out HCT.out)
  have HCI := hidI (Pl.diff_canon s _ HCS.out HCD.out)
  go_wp2_with fail
  refine (diff_any s _ HCS.out HCD.out _ _ _ rs8 rd8').mono ?_
  rintro e w9 ⟨vi, rfl, ri9, b9⟩
  obtain ⟨xi, ni, yi, rfl⟩ := ri9.shape
  have hx := bstep b9 (ball w9 (.cells #[.slice xi ni yi] 28))
  have b9' := bstep b8' hx
  have rs9 := rs8.below hx
  have rt9 := rt8.below hx
  have rd9 := rd8'.below hx
  have ri9' := ri9.alloc (.cells #[.slice xi ni yi] 28)
  have cT9' := cell_on b9 cT8
  have cD9' := cell_on b9 cD8
  have cT9 := cell_on hx cT8
  have cD9 := cell_on hx cD8
  have cI9 := cell_box w9 (.slice xi ni yi)
  have lT9 := World.block_lt_of_cell? _ _ cT9'
  have lD9 := World.block_lt_of_cell? _ _ cD9'
  simp only at lT9 lD9
  clear rs8 rt8 rd8' b8' b9 ri9 cS8 cT8 cS8' cT8' cD8 hx lS8 lT8
  go_wp2_with fail
  refine (ranges_any _ _ _ _ rfl _).mono ?_
  rintro e w10 ⟨rfl, hx⟩
  have b10' := bstep b9' hx
  have rs10 := rs9.below hx
  have rt10 := rt9.below hx
  have rd10 := rd9.below hx
  have ri10 := ri9'.below hx
  have cT10 := cell_on hx cT9
  have cD10 := cell_on hx cD9
  have cI10 := cell_on hx cI9
  clear rs9 rt9 rd9 ri9' b9' cT9 cD9 cI9 cT9' cD9' lT9 lD9 hx
  go_wp2_with fail
  refine (ranges_any _ _ _ _ rfl _).mono ?_
  rintro e w11 ⟨rfl, hx⟩
  have b11' := bstep b10' hx
  have rs11 := rs10.below hx
  have rt11 := rt10.below hx
  have rd11 := rd10.below hx
  have ri11 := ri10.below hx
  have cT11 := cell_on hx cT10
  have cD11 := cell_on hx cD10
  clear rs10 rt10 rd10 ri10 b10' cT10 cD10 cI10 hx
  go_wp2_with fail
  refine (rcanon_bel _ HCD.out _ _ rd11).mono ?_
  rintro e w12 ⟨rfl, hx⟩
  have b12' := bstep b11' hx
  have rs12 := rs11.below hx
  have rt12 := rt11.below hx
  have rd12 := rd11.below hx
  have ri12 := ri11.below hx
  have cT12 := cell_on hx cT11
  have cD12 := cell_on hx cD11
  clear rs11 rt11 rd11 ri11 b11' cT11 cD11 hx
  go_wp2_with fail
  refine (rcanon_bel _ HCI.out _ _ ri12).mono ?_
  rintro e w13 ⟨rfl, hx⟩
  have b13' := bstep b12' hx
  have rs13 := rs12.below hx
  have rt13 := rt12.below hx
  have rd13 := rd12.below hx
  have ri13 := ri12.below hx
  have cT13 := cell_on hx cT12
  have cD13 := cell_on hx cD12
  clear rs12 rt12 rd12 ri12 b12' cT12 cD12 hx
  go_wp2_with fail
  refine (diff_any _ t HCD.out HCT.out _ _ _ rd13 rt13).mono ?_
  rintro e w14 ⟨ve, rfl, re14, hx⟩
  obtain ⟨xe, ne, ye, rfl⟩ := re14.shape
  rw [Pl.diff_again HCS.out HCT.out] at re14
  have b14' := bstep b13' hx
  have rs14 := rs13.below hx
  have rt14 := rt13.below hx
  have rd14 := rd13.below hx
  have ri14 := ri13.below hx
  clear rs13 rt13 rd13 ri13 b13' cT13 cD13 hx
  go_wp2_with fail
  refine (ranges_any _ _ _ _ rfl _).mono ?_
  rintro e w15 ⟨rfl, hx⟩
  have b15' := bstep b14' hx
  have rs15 := rs14.below hx
  have rt15 := rt14.below hx
  have rd15 := rd14.below hx
  have ri15 := ri14.below hx
  have re15 := re14.below hx
  clear rs14 rt14 rd14 ri14 re14 b14' hx
  go_wp2_with fail
  refine (equal_bel _ _ _ _ re15 rd15).mono ?_
  rintro e w16 ⟨rfl, hx⟩
  have b16' := bstep b15' hx
  have rs16 := rs15.below hx
  have rt16 := rt15.below hx
  have rd16 := rd15.below hx
  have ri16 := ri15.below hx
  clear rs15 rt15 rd15 ri15 re15 b15' hx
  go_wp2_with fail
  refine (partAll_any s t s HCS.out HCT.out HCS.out _ _ _ _ _ _ rs16 rt16 rd16 ri16 rs16).mono ?_
  rintro e w17 ⟨rfl, rfl⟩
  go_wp2_with fail
  refine (partAll_any s t t HCS.out HCT.out HCT.out _ _ _ _ _ _ rs16 rt16 rd16 ri16 rt16).mono ?_
  rintro e w17 ⟨rfl, rfl⟩
  go_wp2_with fail
  refine (partAll_any s t _ HCS.out HCT.out HCD.out _ _ _ _ _ _ rs16 rt16 rd16 ri16 rd16).mono ?_
  rintro e w17 ⟨rfl, rfl⟩
  go_wp2_with fail
  refine (partAll_any s t _ HCS.out HCT.out HCI.out _ _ _ _ _ _ rs16 rt16 rd16 ri16 ri16).mono ?_
  rintro e w17 ⟨rfl, rfl⟩
  go_wp2_with fail
  go_ret
  exact ⟨rfl, b16'⟩
end Go.Proofs.Qxb6630674a
