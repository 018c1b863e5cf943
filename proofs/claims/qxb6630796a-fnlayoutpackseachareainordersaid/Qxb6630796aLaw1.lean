import Derived.Test.Qxb6630796aLayout
import Derived.Test.Qxb6630796aBytes
import Derived.Test.Qxb6630796aSize
namespace Go.Proofs.Qxb6630796a
open Go.RowKit
set_option linter.unusedVariables false
set_option linter.unusedSimpArgs false

set_option maxRecDepth 100000 in
set_option maxHeartbeats 1000000 in
theorem walk3 (a : ByteArray) (ha : a.size ≤ maxLen) (vv vb : Value) (n m : Nat) (L K : Nat → Nat) (P : Int) (hP0 : -9223372036854775808 ≤ P) (hP1 : P ≤ 9223372036854775807) (w : World) (hv : Vz w vv n L) (hb : Bz w vb m K) :
    Calls Try.prog 3 #[.string a, vv, vb, .int .i64 P] w fun e w' => e = .returned (.bool true) ∧ Below w.heap.size w w' := by
  have hby := bytes5_any a ha vv vb n m L K P w hv hb
  have hsz := size_any a ha vv vb n m L K w hv hb
  obtain ⟨av, cv, rfl⟩ : ∃ x y, vv = .slice x n y := by obtain ⟨x, y, h, _⟩ := hv; exact ⟨_, _, h⟩
  obtain ⟨ab, cb, rfl⟩ : ∃ x y, vb = .slice x m y := by obtain ⟨x, y, h, _⟩ := hb; exact ⟨_, _, h⟩
  have HV := hidI hv
  have HBZ := hidI hb
  unfold maxLen at ha
  clear hv hb
  go_enter Try.func3, Try.ntmps3
  go_wp2_with fail
  refine hby.mono ?_
  rintro e w' ⟨⟨x, rfl⟩, rfl⟩
  clear hby
  cases x
  · clear hsz
    go_wp2
    go_ret
    exact ⟨rfl, Below.refl _ _⟩
  go_wp2_with fail
  refine hsz.mono ?_
  rintro e w2 ⟨⟨s, rfl, hs0, hs1, hs2⟩, b2⟩
  have B2 := hidI b2
  have HS2 := hidI hs2
  clear hsz hs2 b2
  by_cases hbig : 1048576 < s
  · go_wp2
    go_ret
    exact ⟨rfl, B2.out⟩
  have hds : decide ((1048576 : Int) < s) = false := decide_eq_false hbig
  obtain ⟨hn, hm, hSn, hKs⟩ := HS2.out (by omega)
  have HK := hidI hKs
  have HVw := hidI (HV.out.below B2.out)
  have HBw := hidI (HBZ.out.below B2.out)
  have hSn' : (Pl.S L n : Int) ≤ 1048576 := by omega
  clear hKs HS2 hSn
  go_wp2_with fail
  go_loop [10, 11, 12] (fun wA wL i => ∃ k : Nat, k ≤ n ∧ i = .int .i64 k ∧ wA = .int .i64 (Pl.pa L P k) ∧ wL = .int .i64 (Pl.pl L P k)) (fun _ _ i => n - (intOf i).toNat)
  case atStart => exact ⟨0, Nat.zero_le _, rfl, rfl, rfl⟩
  case round =>
    obtain ⟨k, hk, rfl, rfl, rfl⟩ := hrel
    by_cases hlt : k < n
    · obtain ⟨ao, cap, e, _, _, hcells⟩ := HVw.out
      obtain ⟨b, off, hAo, hbl, hel⟩ := hcells (by omega)
      obtain ⟨nm, ty, wa, wc, tk, h0, h1, h2, h3, h4, h5, h6⟩ := hel k hlt
      injection e with e1 e2 e3
      obtain rfl : av = some ⟨b, off, none⟩ := e1.trans hAo
      have hSk := Pl.S_mono L (show k + 1 ≤ n from hlt)
      have hpa := Pl.pa_le L P k
      have hpl := Pl.pl_le L P k
      simp only [Pl.S] at hSk
      have hki : (k : Int) < (n : Int) := by omega
      clear hel hcells e1 e2 e3 hAo h0 h2 h3
      by_cases hc : (k : Int) < P
      · have H1 := hidI (Pl.pa_succ_yes (L := L) hc)
        have H2 := hidI (Pl.pl_succ_yes (L := L) hc)
        go_wp2
        go_round
        case rel => exact ⟨k + 1, by omega, by go_num, by rw [H1.out]; go_num, by rw [H2.out]⟩
        case measure => simp [intOf]; omega
      · have H1 := hidI (Pl.pa_succ_no (L := L) hc)
        have H2 := hidI (Pl.pl_succ_no (L := L) hc)
        go_wp2
        go_round
        case rel => exact ⟨k + 1, by omega, by go_num, by rw [H1.out], by rw [H2.out]; go_num⟩
        case measure => simp [intOf]; omega
    · obtain rfl : k = n := by omega
      go_wp2_with fail
      refine (func_any a _ _ k m L K P hn hm HK.out _ HVw.out HBw.out).mono ?_
      rintro e w3 ⟨⟨p, rfl, hfa⟩, b3⟩
      have B3 := hidI (bstep B2.out b3)
      have HFA := hidI hfa
      clear b3 hfa
      go_wp2_with fail
      refine (layout_any p k L P (by omega) (by omega) _ HFA.out).mono ?_
      rintro e w4 ⟨⟨v, rfl, hoff⟩, b4⟩
      have B4 := hidI (bstep B3.out b4)
      obtain ⟨g, rfl, hg, hcell⟩ := hoff
      have HC := hidI hcell
      have B5 := hidI (bstep B4.out (ball w4 (.cells #[.int .i64 (Pl.pa L P k), .int .i64 (Pl.pl L P k), .slice (some ⟨g, 0, none⟩) k k] 31)))
      have HV4 := hidI (HV.out.below B4.out)
      clear b4 hcell hlt
      obtain ⟨n, hnk⟩ : ∃ n, n = k := ⟨_, rfl⟩
      subst hnk
      go_wp2
      go_loop [14, 15, 16] (fun eA eL i => ∃ k : Nat, k ≤ n ∧ i = .int .i64 k ∧ eA = .int .i64 (Pl.pa L P k) ∧ eL = .int .i64 (Pl.pl L P k)) (fun _ _ i => n - (intOf i).toNat)
      case atStart => exact ⟨0, Nat.zero_le _, rfl, rfl, rfl⟩
      case round =>
        obtain ⟨k, hk, rfl, rfl, rfl⟩ := hrel
        by_cases hlt : k < n
        · obtain ⟨ao, cap, e, _, _, hcells⟩ := HV4.out
          obtain ⟨b, off, hAo, hbl, hel⟩ := hcells (by omega)
          obtain ⟨nm, ty, wa, wc, tk, h0, h1, h2, h3, h4, h5, h6⟩ := hel k hlt
          injection e with e1 e2 e3
          obtain rfl : av = some ⟨b, off, none⟩ := e1.trans hAo
          have hSk := Pl.S_mono L (show k + 1 ≤ n from hlt)
          have hpa := Pl.pa_le L P k
          have hpl := Pl.pl_le L P k
          have hpan := Pl.pa_le L P n
          have hpln := Pl.pl_le L P n
          simp only [Pl.S] at hSk
          have hki : (k : Int) < (n : Int) := by omega
          have hck := HC.out k hlt
          have hm1 := Pl.pa_mono L P (show k + 1 ≤ n from hlt)
          have hm2 := Pl.pl_mono L P (show k + 1 ≤ n from hlt)
          clear hel hcells e1 e2 e3 hAo h0 h2 h3
          by_cases hc : (k : Int) < P
          · have H1 := hidI (Pl.pa_succ_yes (L := L) hc)
            have H2 := hidI (Pl.pl_succ_yes (L := L) hc)
            have ho : Pl.off L P k = Pl.pa L P k := by simp [Pl.off, hc]
            rw [ho] at hck
            rw [Pl.pa_succ_yes hc] at hm1
            clear ho hm2
            have t1 : decide ((Pl.pa L P k : Int) < (Pl.pa L P k : Int)) = false := decide_eq_false (by omega)
            go_wp2
            go_round
            case rel => exact ⟨k + 1, by omega, by go_num, by rw [H1.out]; go_num, by rw [H2.out]⟩
            case measure => simp [intOf]; omega
          · have H1 := hidI (Pl.pa_succ_no (L := L) hc)
            have H2 := hidI (Pl.pl_succ_no (L := L) hc)
            have ho : Pl.off L P k = Pl.pl L P k := by simp [Pl.off, hc]
            rw [ho] at hck
            rw [Pl.pl_succ_no hc] at hm2
            clear ho hm1
            have t1 : decide ((Pl.pl L P k : Int) < (Pl.pl L P k : Int)) = false := decide_eq_false (by omega)
            go_wp2
            go_round
            case rel => exact ⟨k + 1, by omega, by go_num, by rw [H1.out], by rw [H2.out]; go_num⟩
            case measure => simp [intOf]; omega
        · go_wp2
          go_ret
          exact ⟨rfl, B5.out⟩
end Go.Proofs.Qxb6630796a
