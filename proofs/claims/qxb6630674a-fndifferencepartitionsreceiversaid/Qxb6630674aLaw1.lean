import Derived.Test.Qxb6630674aDiff
import Derived.Test.Qxb6630674aPairs
import Derived.Test.Qxb6630674aAll
namespace Go.Proofs.Qxb6630674a
open Go.RowKit
set_option linter.unusedSimpArgs false
set_option linter.unusedVariables false

theorem Rs.below {w w' : World} {v : Value} {l : List Pl.R} (h : Rs w v l) (hb : Below w.heap.size w w') : Rs w' v l := by
  obtain ⟨ao, cap, rfl, h1, h2, h3⟩ := h
  refine ⟨ao, cap, rfl, h1, h2, fun hl => ?_⟩
  obtain ⟨b, o, rfl, h4, h5⟩ := h3 hl
  exact ⟨b, o, rfl, Nat.lt_of_lt_of_le h4 hb.size, fun i hi => ⟨(hb.cell (p := ⟨b, o + i * 2, none⟩) h4).trans (h5 i hi).1, (hb.cell (p := ⟨b, o + i * 2 + 1, none⟩) h4).trans (h5 i hi).2⟩⟩
theorem Rs.shape {w : World} {v : Value} {l : List Pl.R} (h : Rs w v l) : ∃ x n y, v = .slice x n y := by
  obtain ⟨ao, cap, h, _⟩ := h; exact ⟨_, _, _, h⟩
theorem Rs.alloc {w : World} {v : Value} {l : List Pl.R} (h : Rs w v l) (o : Obj) : Rs (w.alloc o) v l := h.below ((Below.refl _ _).alloc (Nat.le_refl _) _)
/-- two steps -/
theorem bstep {w w1 w2 : World} (h : Below w.heap.size w w1) (k : Below w1.heap.size w1 w2) : Below w.heap.size w w2 := h.trans (k.mono h.size)
theorem bdr {w : World} (n : Nat) : Below w.heap.size w (w.drewN n) := bdrew (Below.refl _ _) n

theorem pcanon_bel (l : List Pl.R) (v : Value) (w : World) (hv : Rs w v l) :
    Calls Try.prog 6 #[v] w fun e w' => (∃ b, e = .returned (.bool b) ∧ (b = true → Pl.Canon (-1) l)) ∧ Below w.heap.size w w' :=
  (pcanon_any l v w hv).mono fun e w' ⟨h, n, hw⟩ => ⟨h, hw ▸ bdr n⟩
theorem rcanon_bel (l : List Pl.R) (hl : Pl.Canon (-1) l) (v : Value) (w : World) (hv : Rs w v l) :
    Calls Try.prog 11 #[v] w fun e w' => e = .returned (.bool true) ∧ Below w.heap.size w w' :=
  (rcanon_any l hl v w hv).mono fun e w' ⟨h, n, hw⟩ => ⟨h, hw ▸ bdr n⟩
theorem equal_bel (l : List Pl.R) (v v' : Value) (w : World) (hv : Rs w v l) (hv' : Rs w v' l) :
    Calls Try.prog 14 #[v, v'] w fun e w' => e = .returned (.bool true) ∧ Below w.heap.size w w' :=
  (equal_any l v v' w hv hv').mono fun e w' ⟨h, n, hw⟩ => ⟨h, hw ▸ bdr n⟩

set_option maxHeartbeats 400000 in
theorem walk3 (s t : List Pl.R) (v0 v1 : Value) (w : World) (rs : Rs w v0 s) (rt : Rs w v1 t) :
    Calls Try.prog 3 #[v0, v1] w fun e w' => e = .returned (.bool true) ∧ Below w.heap.size w w' := by
  have hms : s.length ≤ maxLen := by obtain ⟨_, _, _, h1, h2, _⟩ := rs; omega
  have hmt : t.length ≤ maxLen := by obtain ⟨_, _, _, h1, h2, _⟩ := rt; omega
  obtain ⟨a0, c0, rfl⟩ : ∃ a c, v0 = .slice a s.length c := by obtain ⟨a, c, h, _⟩ := rs; exact ⟨_, _, h⟩
  obtain ⟨a1, c1, rfl⟩ : ∃ a c, v1 = .slice a t.length c := by obtain ⟨a, c, h, _⟩ := rt; exact ⟨_, _, h⟩
  have hby := bytes5_any a0 a1 s.length t.length c0 c1 hms hmt w
  have HRS := hidI rs
  have HRT := hidI rt
  obtain ⟨n, hn⟩ : ∃ n, n = s.length := ⟨_, rfl⟩
  obtain ⟨m, hm⟩ : ∃ m, m = t.length := ⟨_, rfl⟩
  rw [← hn] at hms hby HRS ⊢
  rw [← hm] at hmt hby HRT ⊢
  have HN := hidI hn
  have HM := hidI hm
  clear hn hm rs rt
  unfold maxLen at hms hmt
  go_enter Try.func3, Try.ntmps3
  go_wp2_with fail
  refine hby.mono ?_
  rintro e w1 ⟨⟨x, rfl⟩, rfl⟩
  clear hby
  cases x
  · go_wp2
    go_ret
    exact ⟨rfl, Below.refl _ _⟩
  by_cases hbn : 65536 < n
  · go_wp2
    go_ret
    exact ⟨rfl, Below.refl _ _⟩
  by_cases hbm : 65536 < m
  · go_wp2
    go_ret
    exact ⟨rfl, Below.refl _ _⟩
  go_wp2_with fail
  refine (pcanon_bel s _ _ HRS.out).mono ?_
  rintro e w2 ⟨⟨b, rfl, hcs⟩, b2⟩
  cases b
  · clear hcs
    go_wp2
    go_ret
    exact ⟨rfl, b2⟩
  have HCS := hidI (hcs rfl)
  clear hcs
  have HRS := hidI (HRS.out.below b2)
  have HRT := hidI (HRT.out.below b2)
  go_wp2_with fail
  refine (pcanon_bel t _ _ HRT.out).mono ?_
  rintro e w3 ⟨⟨b, rfl, hct⟩, b3⟩
  have b3' := bstep b2 b3
  cases b
  · clear hct
    go_wp2
    go_ret
    exact ⟨rfl, b3'⟩
  have HCT := hidI (hct rfl)
  clear hct
  have HRS := hidI (HRS.out.below b3)
  have HRT := hidI (HRT.out.below b3)
  go_wp2_with fail
  refine (toRanges_any s (by have := HN.out; omega) _ _ HRS.out).mono ?_
  rintro e w4 ⟨vs, rfl, rs4, b4⟩
  have b4' := bstep b3' b4
  have HRT := hidI (HRT.out.below b4)
  obtain ⟨xs, ns, ys, rfl⟩ := rs4.shape
  go_wp2_with fail
  refine (toRanges_any t (by have := HM.out; omega) _ _ HRT.out).mono ?_
  rintro e w5 ⟨vt, rfl, rt5, b5⟩
  have b5' := bstep b4' b5
  have rs5 := rs4.below b5
  obtain ⟨xt, nt, yt, rfl⟩ := rt5.shape
  clear rs4 b2 b3 b3' b4 b4' b5
  go_wp2_with fail
  refine (newSet_any _ _ _ _ rfl _).mono ?_
  rintro e w6 ⟨rfl, b6⟩
  have b6' := bstep b5' b6
  have rs6 := rs5.below b6
  have rt6 := rt5.below b6
  clear rs5 rt5 b5' b6
  go_wp2_with fail
  refine (newSet_any _ _ _ _ rfl _).mono ?_
  rintro e w7 ⟨rfl, b7⟩
  have b7' := bstep b6' b7
  have rs7 := rs6.below b7
  have rt7 := rt6.below b7
  clear rs6 rt6 b6' b7
  go_wp2_with fail
  refine (diff_any s t HCS.out HCT.out _ _ _ rs7 rt7).mono ?_
  rintro e w8 ⟨vd, rfl, rd8, b8⟩
  have b8' := bstep b7' b8
  have rs8 := (rs7.below b8).alloc (.cells #[vd] 28)
  have rt8 := (rt7.below b8).alloc (.cells #[vd] 28)
  have rd8' := rd8.alloc (.cells #[vd] 28)
  have b8a := b8'.alloc b8'.size (.cells #[vd] 28)
  obtain ⟨xd, nd, yd, rfl⟩ := rd8.shape
  clear rs7 rt7 b7' b8 rd8 b8'
  go_wp2_with fail
  refine (ranges_any _ _ _ _ rfl _).mono ?_
  rintro e w9 ⟨rfl, b9⟩
  have b9' := bstep b8a b9
  have rs9 := rs8.below b9
  have rt9 := rt8.below b9
  have rd9 := rd8'.below b9
  clear rs8 rt8 rd8' b8a b9
  go_wp2_with fail
  have hcd := hidI (Pl.diff_canon s t HCS.out HCT.out)
  refine (rcanon_bel _ hcd.out _ _ rd9).mono ?_
  rintro e w10 ⟨rfl, b10⟩
  have b10' := bstep b9' b10
  have rs10 := rs9.below b10
  have rt10 := rt9.below b10
  have rd10 := rd9.below b10
  clear rs9 rt9 rd9 b9' b10
  go_wp2_with fail
  refine (diffAll_any s t s HCS.out HCT.out HCS.out _ _ _ _ _ rs10 rt10 rd10 rs10).mono ?_
  rintro e w11 ⟨rfl, rfl⟩
  go_wp2_with fail
  refine (diffAll_any s t t HCS.out HCT.out HCT.out _ _ _ _ _ rs10 rt10 rd10 rt10).mono ?_
  rintro e w11 ⟨rfl, rfl⟩
  go_wp2_with fail
  refine (diffAll_any s t _ HCS.out HCT.out hcd.out _ _ _ _ _ rs10 rt10 rd10 rd10).mono ?_
  rintro e w11 ⟨rfl, rfl⟩
  go_wp2_with fail
  go_ret
  exact ⟨rfl, b10'⟩
end Go.Proofs.Qxb6630674a
