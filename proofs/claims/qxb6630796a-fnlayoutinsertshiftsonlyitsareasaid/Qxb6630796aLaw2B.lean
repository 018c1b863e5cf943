import Derived.Test.Qxb6630796aApp
import Derived.Test.Qxb6630796aLayout
import Derived.Test.Qxb6630796aBytes9
import Derived.Test.Qxb6630796aSize
import Derived.Test.Qxb6630796aTail
import Derived.Deep.QuietTactic
import Derived.BigQuiet
namespace Go.Proofs.Qxb6630796a
open Go.RowKit
set_option linter.unusedVariables false
set_option linter.unusedSimpArgs false

set_option maxRecDepth 100000 in
set_option maxHeartbeats 4000000 in
theorem walk4B (a : ByteArray) (ha : a.size ≤ maxLen) (vv vb : Value) (n m : Nat) (L K : Nat → Nat) (P  : Int) (k : Nat) (hP0 : -9223372036854775808 ≤ P) (hP1 : P ≤ 9223372036854775807) (hkn : k ≤ n) (hc : (k : Int) < P) (hd : (n : Int) < P)
    (xn xt : ByteArray) (xa : Option Addr) (xl xc : Nat) (xb : Bool) (hxn : xn.size ≤ maxLen) (hxt : xt.size ≤ maxLen) (hxl : xl ≤ maxLen) (w : World) (hv : Vz w vv n L) (hb : Bz w vb m K) :
    Calls Try.prog 4 #[.string a, vv, vb, .int .i64 P, .int .i64 k, .agg #[.string xn, .slice xa xl xc, .string xt, .bool xb]] w fun e w' => e = .returned (.bool true) ∧ Below w.heap.size w w' := by
  have hw1 := ball w (.cells #[.string xn, .slice xa xl xc, .string xt, .bool xb] 28)
  have hby := bytes9_any a ha vv vb n m L K P k xn xt xa xl xc xb hxn hxt hxl _ (hv.below hw1) (hb.below hw1)
  have HSZ := hidI (fun wx (h1 : Vz wx vv n L) (h2 : Bz wx vb m K) => size_any a ha vv vb n m L K wx h1 h2)
  have HBX := hidI (box_new w xn xt xa xl xc xb)
  have B1 := hidI hw1
  obtain ⟨av, cv, rfl⟩ : ∃ x y, vv = .slice x n y := by obtain ⟨x, y, h, _⟩ := hv; exact ⟨_, _, h⟩
  obtain ⟨ab, cb, rfl⟩ : ∃ x y, vb = .slice x m y := by obtain ⟨x, y, h, _⟩ := hb; exact ⟨_, _, h⟩
  have HV := hidI hv
  have HBZ := hidI hb
  have HXR := hidI (show xn.size ≤ maxLen ∧ xt.size ≤ maxLen ∧ xl ≤ maxLen from ⟨hxn, hxt, hxl⟩)
  unfold maxLen at ha hxn hxt hxl
  clear hv hb hw1
  go_enter Try.func4, Try.ntmps4
  go_wp2_with fail
  refine hby.mono ?_
  rintro e w2 ⟨⟨x, rfl⟩, b2⟩
  have B2 := hidI (bstep B1.out b2)
  have HX2 := hidI (HBX.out.below b2)
  clear hby b2 HBX
  cases x
  · go_wp2
    go_ret
    exact ⟨rfl, B2.out⟩
  go_wp2_with fail
  refine (HSZ.out _ (HV.out.below B2.out) (HBZ.out.below B2.out)).mono ?_
  rintro e w3 ⟨⟨s, rfl, hs0, hs1, hs2⟩, b3⟩
  have B3 := hidI (bstep B2.out b3)
  have HX3 := hidI (HX2.out.below b3)
  have HS2 := hidI hs2
  clear hs2 b3 HSZ HX2
  obtain ⟨x0, x1, x2, x3⟩ := HX3.out
  by_cases hbig : 1048576 < s
  · go_wp2
    go_ret
    exact ⟨rfl, B3.out⟩
  have hds : decide ((1048576 : Int) < s) = false := decide_eq_false hbig
  by_cases f1 : 1048576 < xn.size
  · go_wp2
    go_ret
    exact ⟨rfl, B3.out⟩
  by_cases f2 : 1048576 < xl
  · go_wp2
    go_ret
    exact ⟨rfl, B3.out⟩
  by_cases f3 : 1048576 < xt.size
  · go_wp2
    go_ret
    exact ⟨rfl, B3.out⟩
  have e1 : decide ((1048576 : Int) < (xn.size : Int)) = false := decide_eq_false (by omega)
  have e2 : decide ((1048576 : Int) < (xl : Int)) = false := decide_eq_false (by omega)
  have e3 : decide ((1048576 : Int) < (xt.size : Int)) = false := decide_eq_false (by omega)
  by_cases f4 : 1048576 < s + (8 + (xn.size : Int) + (xl : Int) + (xt.size : Int))
  · go_wp2
    go_ret
    exact ⟨rfl, B3.out⟩
  have e4 : decide ((1048576 : Int) < s + (8 + (xn.size : Int) + (xl : Int) + (xt.size : Int))) = false := decide_eq_false f4
  obtain ⟨hn, hm, hSn, hKs⟩ := HS2.out (by omega)
  have HK := hidI hKs
  have hSn' : (Pl.S L n : Int) + (xl : Int) ≤ 1048576 := by omega
  clear hKs HS2 hSn
  have ek1 : decide ((k : Int) < 0) = false := decide_eq_false (by omega)
  have ek2 : decide ((n : Int) < (k : Int)) = false := decide_eq_false (by omega)
  have ec1 : decide ((k : Int) < P) = true := decide_eq_true (by omega)
  have HSD := hidI (show Pl.Sides P ((n : Int) + 1) k n from by have h := Pl.sides_arg hkn (by omega : (k : Int) < P); rw [if_pos (by omega)] at h; exact h)
  go_wp2_with fail
  go_loop [18, 19] (fun tot i => ∃ j : Nat, j ≤ n ∧ i = .int .i64 j ∧ tot = .int .i64 ((xl : Int) + (Pl.S L j : Int))) (fun _ i => n - (intOf i).toNat)
  case atStart => exact ⟨0, Nat.zero_le _, rfl, by simp [Pl.S]⟩
  case round =>
    obtain ⟨j, hj, rfl, rfl⟩ := hrel
    by_cases hlt : j < n
    · obtain ⟨ao, cap, e, _, _, hcells⟩ := HV.out
      obtain ⟨b, off, hAo, hbl, hel⟩ := hcells (by omega)
      obtain ⟨nm, ty, wa, wc, tk, h0, h1, h2, h3, h4, h5, h6⟩ := hel j hlt
      injection e with ee1 ee2 ee3
      obtain rfl : av = some ⟨b, off, none⟩ := ee1.trans hAo
      have h1 := cell_on B3.out h1
      have hSk := Pl.S_mono L (show j + 1 ≤ n from hlt)
      simp only [Pl.S] at hSk
      have hji : (j : Int) < (n : Int) := by omega
      clear hel hcells ee1 ee2 ee3 hAo h0 h2 h3
      go_wp2
      go_round
      case rel => exact ⟨j + 1, by omega, by go_num, by simp only [Pl.S]; go_num⟩
      case measure => simp [intOf]; omega
    · obtain rfl : j = n := by omega
      obtain ⟨n, hnn⟩ : ∃ n, n = j := ⟨_, rfl⟩
      subst hnn
      clear hlt hj
      go_wp2_with fail
      refine (func_any a _ _ n m L K P hn hm HK.out _ (HV.out.below B3.out) (HBZ.out.below B3.out)).mono ?_
      rintro e w4 ⟨⟨p, rfl, hfa⟩, b4⟩
      have B4 := hidI (bstep B3.out b4)
      have HX4 := hidI (HX3.out.below b4)
      have HFA := hidI hfa
      obtain ⟨cs, hcs, hmk⟩ := make_cap_ex n (by omega)
      have HA0 := hidI (AppV.made w4 (n + 1) cs hcs (by unfold maxLen; omega) (Pl.ins L k xl))
      have BM := hidI (ball w4 (.cells cs 37))
      clear b4 hfa x0 x1 x2 x3 hcs HX3
      go_wp2_with fail
      clear hmk
      go_loopw [21, 22] (fun vs i wr => ∃ j : Nat, j ≤ k ∧ i = .int .i64 j ∧ vs = .slice (some ⟨w4.heap.size, 0, none⟩) j (n + 1) ∧ Hid (AppV wr w4.heap.size j (n + 1) (Pl.ins L k xl)) ∧ Hid (Below w4.heap.size w4 wr)) (fun _ i _ => k - (intOf i).toNat)
      case atStart => exact ⟨0, Nat.zero_le _, rfl, rfl, HA0, BM⟩
      case round =>
        obtain ⟨j, hj, rfl, rfl, hap, hbel⟩ := hrel
        clear HA0 BM
        by_cases hlt : j < k
        · obtain ⟨ao, cap, e, _, _, hcells⟩ := HV.out
          obtain ⟨b, off, hAo, hbl, hel⟩ := hcells (by omega)
          obtain ⟨nm, ty, wa, wc, tk, h0, h1, h2, h3, h4⟩ := hel j (by omega)
          injection e with ee1 ee2 ee3
          obtain rfl : av = some ⟨b, off, none⟩ := ee1.trans hAo
          have hBB := bstep B4.out hbel.out
          have h0 := cell_on hBB h0
          have h1 := cell_on hBB h1
          have h2 := cell_on hBB h2
          have h3 := cell_on hBB h3
          have H4 := hidI h4
          have hji : (j : Int) < (n : Int) := by omega
          have hins := hidI (show Pl.ins L k xl j = L j from by simp [Pl.ins, hlt])
          clear hel hcells ee1 ee2 ee3 hAo h4 hBB
          go_wp2_with fail
          refine (var_any nm ty wa (L j) wc tk _).mono ?_
          rintro e w5 ⟨rfl, b5⟩
          have hap5 := hidI (hap.out.below b5)
          have hbel5 := hidI (bstep hbel.out b5)
          clear b5 h0 h1 h2 h3
          go_wp2_with (at_builtin; go_must (refine wpList_append37 nm ty wa (L j) wc tk rfl (.tmp 128) (.tmp 134) rfl w4.heap.size j (n + 1) (Pl.ins L k xl) rfl hap5.out w5.heap.size 1 rfl rfl (by omega) hins.out H4.out ?_; intro w6 hap6 hbe6; have HA6 := hidI hap6; have HB6 := hidI (hbe6 _ _ hbel5.out (Nat.le_refl _)); clear hap6 hbe6))
          go_roundw
          case rel => exact ⟨j + 1, by omega, by go_num, rfl, HA6, HB6⟩
          case measure => simp [intOf]; omega
        · obtain rfl : j = k := by omega
          obtain ⟨k, hkk⟩ : ∃ k, k = j := ⟨_, rfl⟩
          subst hkk
          have HX5 := hidI (HX4.out.below hbel.out)
          obtain ⟨x0, x1, x2, x3⟩ := HX5.out
          have hins := hidI (show Pl.ins L k xl k = xl from by simp [Pl.ins])
          clear hlt hj
          go_wp2_with fail
          refine (var_any xn xt xa xl xc xb _).mono ?_
          rintro e w5 ⟨rfl, b5⟩
          have hap5 := hidI (hap.out.below b5)
          have hbel5 := hidI (bstep hbel.out b5)
          clear b5 x0 x1 x2 x3 hap hbel HX5
          go_wp2_with (at_builtin; go_must (refine wpList_append37 xn xt xa xl xc xb rfl (.tmp 136) (.tmp 139) rfl w4.heap.size k (n + 1) (Pl.ins L k xl) rfl hap5.out w5.heap.size 1 rfl rfl (by omega) hins.out HXR.out ?_; intro w6 hap6 hbe6; have HA6 := hidI hap6; have HB6 := hidI (hbe6 _ _ hbel5.out (Nat.le_refl _)); clear hap6 hbe6))
          go_loopw [21, 23] (fun vs i wr => ∃ j : Nat, k ≤ j ∧ j ≤ n ∧ i = .int .i64 j ∧ vs = .slice (some ⟨w4.heap.size, 0, none⟩) (j + 1) (n + 1) ∧ Hid (AppV wr w4.heap.size (j + 1) (n + 1) (Pl.ins L k xl)) ∧ Hid (Below w4.heap.size w4 wr)) (fun _ i _ => n - (intOf i).toNat)
          case atStart => exact ⟨k, Nat.le_refl _, by omega, rfl, rfl, HA6, HB6⟩
          case round =>
            obtain ⟨j, hkj, hj, rfl, rfl, hap, hbel⟩ := hrel
            clear HA6 HB6 hins hap5 hbel5
            by_cases hlt : j < n
            · obtain ⟨ao, cap, e, _, _, hcells⟩ := HV.out
              obtain ⟨b, off, hAo, hbl, hel⟩ := hcells (by omega)
              obtain ⟨nm, ty, wa, wc, tk, h0, h1, h2, h3, h4⟩ := hel j (by omega)
              injection e with ee1 ee2 ee3
              obtain rfl : av = some ⟨b, off, none⟩ := ee1.trans hAo
              have hBB := bstep B4.out hbel.out
              have h0 := cell_on hBB h0
              have h1 := cell_on hBB h1
              have h2 := cell_on hBB h2
              have h3 := cell_on hBB h3
              have H4 := hidI h4
              have hji : (j : Int) < (n : Int) := by omega
              have hins := hidI (show Pl.ins L k xl (j + 1) = L j from by unfold Pl.ins; rw [if_neg (by omega), if_neg (by omega)]; rfl)
              clear hel hcells ee1 ee2 ee3 hAo h4 hBB
              go_wp2_with fail
              refine (var_any nm ty wa (L j) wc tk _).mono ?_
              rintro e w7 ⟨rfl, b7⟩
              have hap7 := hidI (hap.out.below b7)
              have hbel7 := hidI (bstep hbel.out b7)
              clear b7 h0 h1 h2 h3
              go_wp2_with (at_builtin; go_must (refine wpList_append37 nm ty wa (L j) wc tk rfl (.tmp 147) (.tmp 153) rfl w4.heap.size (j + 1) (n + 1) (Pl.ins L k xl) rfl hap7.out w7.heap.size 1 rfl rfl (by omega) hins.out H4.out ?_; intro w8 hap8 hbe8; have HA8 := hidI hap8; have HB8 := hidI (hbe8 _ _ hbel7.out (Nat.le_refl _)); clear hap8 hbe8))
              go_roundw
              case rel => exact ⟨j + 1, by omega, by omega, by go_num, rfl, HA8, HB8⟩
              case measure => simp [intOf]; omega
            · obtain rfl : j = n := by omega
              obtain ⟨n, hnn⟩ : ∃ n, n = j := ⟨_, rfl⟩
              subst hnn
              obtain ⟨wp, rfl⟩ : ∃ x, x = wr := ⟨_, rfl⟩
              have HVZ := hidI hap.out.done
              have B7 := hidI (bstep B4.out hbel.out)
              have HFA7 := hidI (HFA.out.below hbel.out)
              clear hlt hj hap hbel HFA HX4
              go_wp2_with fail
              refine (blocks_any _ m K hm HK.out _ (HBZ.out.below B7.out)).mono ?_
              rintro e w8 ⟨⟨y1, y2, y3, rfl⟩, b8⟩
              have hx8 := bstep b8 (ball w8 (.cells #[.string a, .slice (some ⟨w4.heap.size, 0, none⟩) (n + 1) (n + 1), .slice y1 y2 y3, .int .i64 ((n : Int) + 1)] 42))
              have HFG := hidI (func_box (v0 := .string a) (v2 := .slice y1 y2 y3) (P := ((n : Int) + 1)) (HVZ.out.below b8))
              have HFA8 := hidI (HFA7.out.below hx8)
              have B8 := hidI (bstep B7.out hx8)
              clear b8 hx8 HVZ HFA7
              go_wp2_with fail
              refine (layout_any p n L P (by omega) (by omega) _ HFA8.out).mono ?_
              rintro e w9 ⟨⟨v, rfl, hoff⟩, b9⟩
              obtain ⟨g1, rfl, hg1, hcell1⟩ := hoff
              have hx9 := bstep b9 (ball w9 (.cells #[.int .i64 (Pl.pa L P n), .int .i64 (Pl.pl L P n), .slice (some ⟨g1, 0, none⟩) n n] 31))
              have HFG9 := hidI (HFG.out.below hx9)
              have B9 := hidI (bstep B8.out hx9)
              have hbx := heap_alloc_new w9 (.cells #[.int .i64 (Pl.pa L P n), .int .i64 (Pl.pl L P n), .slice (some ⟨g1, 0, none⟩) n n] 31)
              have FF0 := hidI ((cell_of_row _ _ 0 _ 31 (0, 0) hbx).trans rfl : (w9.alloc (.cells #[.int .i64 (Pl.pa L P n), .int .i64 (Pl.pl L P n), .slice (some ⟨g1, 0, none⟩) n n] 31)).cell? ⟨w9.heap.size, 0, none⟩ = some (.int .i64 (Pl.pa L P n)))
              have FF1 := hidI ((cell_of_row _ _ 1 _ 31 (0, 0) hbx).trans rfl : (w9.alloc (.cells #[.int .i64 (Pl.pa L P n), .int .i64 (Pl.pl L P n), .slice (some ⟨g1, 0, none⟩) n n] 31)).cell? ⟨w9.heap.size, 1, none⟩ = some (.int .i64 (Pl.pl L P n)))
              have FF2 := hidI ((cell_of_row _ _ 2 _ 31 (0, 0) hbx).trans rfl : (w9.alloc (.cells #[.int .i64 (Pl.pa L P n), .int .i64 (Pl.pl L P n), .slice (some ⟨g1, 0, none⟩) n n] 31)).cell? ⟨w9.heap.size, 2, none⟩ = some (.slice (some ⟨g1, 0, none⟩) n n))
              have OC1 := hidI (fun j (h : j < n) => cell_on (ball w9 (.cells #[.int .i64 (Pl.pa L P n), .int .i64 (Pl.pl L P n), .slice (some ⟨g1, 0, none⟩) n n] 31)) (hcell1 j h))
              have hSi := hidI (Pl.S_ins L xl (show k ≤ n from by omega))
              clear b9 hx9 hbx hcell1 HFG HFA8 hg1
              go_wp2_with fail
              refine (layout_any _ (n + 1) (Pl.ins L k xl) ((n : Int) + 1) (by omega) (by rw [hSi.out]; omega) _ HFG9.out).mono ?_
              rintro e w10 ⟨⟨v, rfl, hoff⟩, b10⟩
              obtain ⟨g2, rfl, hg2, hcell2⟩ := hoff
              have ff0 := cell_on b10 FF0.out
              have ff1 := cell_on b10 FF1.out
              have ff2 := cell_on b10 FF2.out
              have OD1 := hidI (fun j (h : j < n) => cell_on b10 (OC1.out j h))
              have OD2 := hidI hcell2
              have hffl : w9.heap.size < w10.heap.size := World.block_lt_of_cell? w10 _ ff0
              obtain ⟨hta, htl⟩ := Pl.total_ins (L := L) (z := xl) HSD.out (show k ≤ n from by omega)
              have B10 := hidI (bstep B9.out (bstep b10 (ball w10 (.cells #[.int .i64 (Pl.pa (Pl.ins L k xl) ((n : Int) + 1) (n + 1)), .int .i64 (Pl.pl (Pl.ins L k xl) ((n : Int) + 1) (n + 1)), .slice (some ⟨g2, 0, none⟩) (n + 1) (n + 1)] 31))))
              have hpaP := Pl.pa_pl L P n
              have hpaQ := Pl.pa_pl (Pl.ins L k xl) ((n : Int) + 1) (n + 1)
              rw [hSi.out] at hpaQ
              have HTA := hidI hta
              have HTL := hidI htl
              have HPQ := hidI hpaQ
              obtain ⟨qa, hqa⟩ : ∃ x, x = Pl.pa (Pl.ins L k xl) ((n : Int) + 1) (n + 1) := ⟨_, rfl⟩
              obtain ⟨ql, hql⟩ : ∃ x, x = Pl.pl (Pl.ins L k xl) ((n : Int) + 1) (n + 1) := ⟨_, rfl⟩
              rw [← hqa, ← hql] at B10 hpaQ ⊢
              rw [← hqa] at HTA
              rw [← hql] at HTL
              have qb1 : qa ≤ 1048576 := by omega
              have qb2 : ql ≤ 1048576 := by omega
              have pb1 : Pl.pa L P n ≤ 1048576 := by omega
              have pb2 : Pl.pl L P n ≤ 1048576 := by omega
              have hsum : (Pl.pa L P n : Int) + (xl : Int) + (Pl.pl L P n : Int) = (xl : Int) + (Pl.S L n : Int) := by omega
              have ea : (qa : Int) = (Pl.pa L P n : Int) + (xl : Int) := by have h := HTA.out; rw [if_pos (by omega)] at h; omega
              have eb : (ql : Int) = (Pl.pl L P n : Int) := by have h := HTL.out; rw [if_pos (by omega)] at h; omega
              have TL : Hid (Tail w (w10.alloc (.cells #[.int .i64 qa, .int .i64 ql, .slice (some ⟨g2, 0, none⟩) (n + 1) (n + 1)] 31)) w9.heap.size w10.heap.size g1 g2 n k (Pl.pa L P n) (Pl.pl L P n) ((Pl.pa L P n : Int) + (xl : Int)) ((Pl.pl L P n : Int)) xl (Pl.off L P) P) := hidI (Tail.start rfl B10.out HSD.out (by omega) ff0 ff1 ff2 OD1.out OD2.out ea eb)
              have HSUM := hidI hsum
              clear b10 hta htl FF0 FF1 FF2 OC1 HFG9 hpaP hpaQ HPQ hqa hql hcell2 ea eb hsum HTA HTL OD1 OD2 B10
              go_wp2_with fail
              clear ff0 ff1 ff2 hffl hg2 B9 B8 B7 qb1 qb2
              go_loopw [27] (fun i wr => ∃ j : Nat, j ≤ k ∧ i = .int .i64 j ∧ Hid (Tail w wr w9.heap.size w10.heap.size g1 g2 n k (Pl.pa L P n) (Pl.pl L P n) ((Pl.pa L P n : Int) + (xl : Int)) ((Pl.pl L P n : Int)) xl (Pl.off L P) P)) (fun i _ => k - (intOf i).toNat)
              case atStart => exact ⟨0, Nat.zero_le _, rfl, TL⟩
              case round =>
                obtain ⟨j, hj, rfl, htl⟩ := hrel
                obtain ⟨hB, ⟨f0, f1, f2⟩, ⟨q0, q1, q2⟩, HO1, HO2, HO3⟩ := htl.out
                clear TL
                by_cases hlt : j < k
                · have c1 := HO1 j (by omega)
                  have c2 := HO2 j (by omega)
                  have hjn : (j : Int) < (n : Int) := by omega
                  clear HO1 HO2 HO3 hB f0 f1 q0 q1
                  go_wp2_with fail
                  go_quiet (fail)
                  go_wp2
                  go_roundw
                  case rel => exact ⟨j + 1, by omega, by go_num, hidI (htl.out.drewN _)⟩
                  case measure => simp [intOf]; omega
                · obtain rfl : j = k := by omega
                  obtain ⟨k, hkk⟩ : ∃ k, k = j := ⟨_, rfl⟩
                  subst hkk
                  clear hlt hj
                  have hQ := HO2 k (Nat.le_refl _)
                  by_cases hkl : k < n
                  · have c1 := HO1 k hkl
                    have dk : (k : Int) < (n : Int) := by omega
                    clear HO1 HO2 HO3 hB
                    go_wp2_with fail
                    clear f0 f1 f2 q0 q1 q2 c1 hQ
                    go_loopw [29, 30] (fun i ad wr => ∃ j : Nat, k ≤ j ∧ j ≤ n ∧ i = .int .i64 j ∧ Hid (Tail w wr w9.heap.size w10.heap.size g1 g2 n k (Pl.pa L P n) (Pl.pl L P n) ((Pl.pa L P n : Int) + (xl : Int)) ((Pl.pl L P n : Int)) xl (Pl.off L P) P)) (fun i _ _ => n - (intOf i).toNat)
                    case atStart => exact ⟨k, Nat.le_refl _, by omega, rfl, htl⟩
                    case round =>
                      obtain ⟨j, hkj, hj, rfl, htl⟩ := hrel
                      obtain ⟨hB, ⟨f0, f1, f2⟩, ⟨q0, q1, q2⟩, HO1, HO2, HO3⟩ := htl.out
                      by_cases hlt : j < n
                      · have c1 := HO1 j hlt
                        have hjn : (j : Int) < (n : Int) := by omega
                        have hof := Pl.off_le L P (show j ≤ n from by omega)
                        by_cases c : (j : Int) < P
                        · have c3 : wr.cell? ⟨g2, j + 1, none⟩ = some (.int .i64 ((Pl.off L P j : Int) + (xl : Int))) := by
                            have h := HO3 j hkj hlt
                            rw [if_pos (by omega)] at h
                            simpa using h
                          have dc : decide ((j : Int) < P) = true := decide_eq_true c
                          clear HO1 HO2 HO3 hB f0 f1 q0 q1
                          go_wp2_with fail
                          go_quiet (fail)
                          go_wp2
                          go_roundw
                          case rel => exact ⟨j + 1, by omega, by omega, by go_num, hidI (htl.out.drewN _)⟩
                          case measure => simp [intOf]; omega
                        · exfalso; omega
                      · obtain rfl : j = n := by omega
                        obtain ⟨n, hnn⟩ : ∃ n, n = j := ⟨_, rfl⟩
                        subst hnn
                        clear hlt hj HO1 HO2 HO3 f2 q2
                        have HBE := hidI hB
                        clear hB
                        go_wp2_with fail
                        go_ret
                        exact ⟨congrArg (fun b => Ending.returned (Value.bool b)) (beq_iff_eq.2 HSUM.out : (((Pl.pa L P n : Int) + (xl : Int) + (Pl.pl L P n : Int)) == (xl : Int) + (Pl.S L n : Int)) = true), HBE.out⟩
                  · have hke : Pl.off L P k = Pl.pa L P n := by
                      obtain rfl : k = n := by omega
                      simp only [Pl.off]
                      rw [if_pos (by omega)]
                    have dk : decide ((k : Int) < (n : Int)) = false := decide_eq_false (by omega)
                    rw [hke] at hQ
                    clear HO1 HO2 HO3 hB hke
                    go_wp2_with fail
                    clear f0 f1 f2 q0 q1 q2 hQ
                    go_loopw [29, 30] (fun i ad wr => ∃ j : Nat, k ≤ j ∧ j ≤ n ∧ i = .int .i64 j ∧ Hid (Tail w wr w9.heap.size w10.heap.size g1 g2 n k (Pl.pa L P n) (Pl.pl L P n) ((Pl.pa L P n : Int) + (xl : Int)) ((Pl.pl L P n : Int)) xl (Pl.off L P) P)) (fun i _ _ => n - (intOf i).toNat)
                    case atStart => exact ⟨k, Nat.le_refl _, by omega, rfl, htl⟩
                    case round =>
                      obtain ⟨j, hkj, hj, rfl, htl⟩ := hrel
                      obtain ⟨hB, ⟨f0, f1, f2⟩, ⟨q0, q1, q2⟩, HO1, HO2, HO3⟩ := htl.out
                      by_cases hlt : j < n
                      · exfalso; omega
                      · obtain rfl : j = n := by omega
                        obtain ⟨n, hnn⟩ : ∃ n, n = j := ⟨_, rfl⟩
                        subst hnn
                        clear hlt hj HO1 HO2 HO3 f2 q2
                        have HBE := hidI hB
                        clear hB
                        go_wp2_with fail
                        go_ret
                        exact ⟨congrArg (fun b => Ending.returned (Value.bool b)) (beq_iff_eq.2 HSUM.out : (((Pl.pa L P n : Int) + (xl : Int) + (Pl.pl L P n : Int)) == (xl : Int) + (Pl.S L n : Int)) = true), HBE.out⟩
end Go.Proofs.Qxb6630796a
