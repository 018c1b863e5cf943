import Derived.Test.Qxb6630796aMem
import Derived.Test.Qxb6630796aPlain
namespace Go.Proofs.Qxb6630796a
open Go.RowKit
set_option linter.unusedVariables false

/-- what zzSize's answer tells -/
def SizeOk (e : Ending) (n m : Nat) (L K : Nat → Nat) : Prop :=
  ∃ s : Int, e = .returned (.int .i64 s) ∧ 0 ≤ s ∧ s ≤ 1048577 ∧ (s ≤ 1048576 → n ≤ 1048576 ∧ m ≤ 1048576 ∧ (Pl.S L n : Int) ≤ s ∧ ∀ i, i < m → K i ≤ 1048576)
theorem size_big (n m : Nat) (L K : Nat → Nat) : SizeOk (.returned (.int .i64 1048577)) n m L K := ⟨1048577, rfl, by omega, by omega, fun h => by omega⟩

set_option maxRecDepth 100000 in
set_option maxHeartbeats 2000000 in
theorem size_any (a : ByteArray) (ha : a.size ≤ maxLen) (vv vb : Value) (n m : Nat) (L K : Nat → Nat) (w : World) (hv : Vz w vv n L) (hb : Bz w vb m K) :
    Calls Try.prog 6 #[.string a, vv, vb] w fun e w' => SizeOk e n m L K ∧ Below w.heap.size w w' := by
  obtain ⟨av, cv, rfl, hv1, hv2, hv3⟩ := hv
  obtain ⟨ab, cb, rfl, hb1, hb2, hb3⟩ := hb
  unfold maxLen at ha hv2 hb2
  have HV := hidI hv3
  have HB := hidI hb3
  clear hv3 hb3
  by_cases c1 : 1048576 < a.size
  · go_enter Try.func6, Try.ntmps6
    go_wp2
    go_ret
    exact ⟨size_big _ _ _ _, Below.refl _ _⟩
  by_cases c2 : 1048576 < n
  · go_enter Try.func6, Try.ntmps6
    go_wp2
    go_ret
    exact ⟨size_big _ _ _ _, Below.refl _ _⟩
  by_cases c3 : 1048576 < m
  · go_enter Try.func6, Try.ntmps6
    go_wp2
    go_ret
    exact ⟨size_big _ _ _ _, Below.refl _ _⟩
  have d1 : decide ((1048576 : Int) < (a.size : Int)) = false := decide_eq_false (by omega)
  have d2 : decide ((1048576 : Int) < (n : Int)) = false := decide_eq_false (by omega)
  have d3 : decide ((1048576 : Int) < (m : Int)) = false := decide_eq_false (by omega)
  go_enter Try.func6, Try.ntmps6
  go_wp2
  go_loopw [7, 8] (fun z i wr => ∃ (k : Nat) (s : Int), k ≤ n ∧ i = .int .i64 k ∧ z = .int .i64 s ∧ 0 ≤ s ∧ s ≤ 1048576 ∧ (Pl.S L k : Int) ≤ s ∧ Hid (Below w.heap.size w wr)) (fun _ i _ => n - (intOf i).toNat)
  case atStart => exact ⟨0, _, Nat.zero_le _, rfl, rfl, by omega, by omega, by simp [Pl.S], Below.refl _ _⟩
  case round =>
    obtain ⟨k, s, hk, rfl, rfl, hs0, hs1, hs2, hbel⟩ := hrel
    by_cases hlt : k < n
    · obtain ⟨b, off, rfl, hbl, hel⟩ := HV.out (by omega)
      obtain ⟨nm, ty, wa, wc, tk, h0, h1, h2, h3, h4, h5, h6⟩ := (hel k hlt)
      have h0 := cell_on hbel.out h0
      have h1 := cell_on hbel.out h1
      have h2 := cell_on hbel.out h2
      have h3 := cell_on hbel.out h3
      have hbl' : b < wr.heap.size := Nat.lt_of_lt_of_le hbl hbel.out.size
      have hS : Pl.S L (k + 1) = Pl.S L k + L k := rfl
      have HS := hidI hS
      have hbel1 := hidI (bstep hbel.out (ball wr (.cells #[.string nm, .slice wa (L k) wc, .string ty, .bool tk] 28)))
      unfold maxLen at h4 h5 h6
      clear hel hS
      by_cases e1 : 1048576 < nm.size
      · go_wp2
        go_ret
        exact ⟨size_big _ _ _ _, hbel1.out⟩
      by_cases e2 : 1048576 < L k
      · go_wp2
        go_ret
        exact ⟨size_big _ _ _ _, hbel1.out⟩
      by_cases e3 : 1048576 < ty.size
      · go_wp2
        go_ret
        exact ⟨size_big _ _ _ _, hbel1.out⟩
      go_wp2
      · go_ret
        exact ⟨size_big _ _ _ _, hbel1.out⟩
      · go_roundw
        case rel => exact ⟨k + 1, _, by omega, by go_num, rfl, by omega, by omega, by rw [HS.out]; omega, hbel1⟩
        case measure => simp [intOf]; omega
    · have hSn : (Pl.S L n : Int) ≤ s := by obtain rfl : k = n := by omega
                                            exact hs2
      clear hs2
      go_wp2
      go_loopw [7, 10] (fun z i wr => ∃ (k : Nat) (s : Int), k ≤ m ∧ i = .int .i64 k ∧ z = .int .i64 s ∧ 0 ≤ s ∧ s ≤ 1048576 ∧ (Pl.S L n : Int) ≤ s ∧ Hid (∀ i, i < k → K i ≤ 1048576) ∧ Hid (Below w.heap.size w wr)) (fun _ i _ => m - (intOf i).toNat)
      case atStart => exact ⟨0, _, Nat.zero_le _, rfl, rfl, hs0, hs1, hSn, hidI (fun i h => by omega), hbel⟩
      case round =>
        obtain ⟨k2, s2, hk2, rfl, rfl, hs20, hs21, hs22, hKs, hbel2⟩ := hrel
        obtain ⟨wo, rfl⟩ : ∃ x, x = wr := ⟨_, rfl⟩
        clear hbel hSn hs0 hs1 hlt
        by_cases hlt2 : k2 < m
        · obtain ⟨b, off, rfl, hbl, hel⟩ := HB.out (by omega)
          obtain ⟨lb, ia, sa, ic, sl, sc, h0, h1, h2, h3, h4, h5⟩ := hel k2 hlt2
          have h0 := cell_on hbel2.out h0
          have h1 := cell_on hbel2.out h1
          have h2 := cell_on hbel2.out h2
          have hbl' : b < wo.heap.size := Nat.lt_of_lt_of_le hbl hbel2.out.size
          have hbox := ball wo (.cells #[.string lb, .slice ia (K k2) ic, .slice sa sl sc] 45)
          have HBX := hidI (bstep hbel2.out hbox)
          have H5 := hidI (h5.below HBX.out)
          have hK5 := h5.1
          have hK6 := h5.2.1
          unfold maxLen at h3 h4 hK6
          have cb1 : (wo.alloc (.cells #[.string lb, .slice ia (K k2) ic, .slice sa sl sc] 45)).cell? ⟨wo.heap.size, 1, none⟩ = some (.slice ia (K k2) ic) := (cell_of_row _ _ 1 _ 45 (0, 0) (heap_alloc_new wo _)).trans rfl
          have CB1 := hidI cb1
          clear hel h5 cb1 hbox
          by_cases e1 : 1048576 < lb.size
          · go_wp2
            go_ret
            exact ⟨size_big _ _ _ _, HBX.out⟩
          by_cases e2 : 1048576 < sl
          · go_wp2
            go_ret
            exact ⟨size_big _ _ _ _, HBX.out⟩
          by_cases e3 : 1048576 < K k2
          · go_wp2
            go_ret
            exact ⟨size_big _ _ _ _, HBX.out⟩
          have HKs := hidI (show ∀ i, i < k2 + 1 → K i ≤ 1048576 from fun i hi => by
            rcases Nat.lt_or_ge i k2 with h | h
            · exact hKs.out i h
            · obtain rfl : i = k2 := by omega
              omega)
          obtain ⟨KK, hKK⟩ : ∃ x, x = K k2 := ⟨_, rfl⟩
          rw [← hKK] at h1 HBX H5 hK5 CB1 e3
          clear hKK
          by_cases e4 : 1048576 < s2 + (8 + (lb.size : Int) + 8 * (sl : Int))
          · go_wp2
            go_ret
            exact ⟨size_big _ _ _ _, HBX.out⟩
          go_wp2
          go_loopw [7, 12] (fun z i wr => ∃ (j : Nat) (s : Int), j ≤ KK ∧ i = .int .i64 j ∧ z = .int .i64 s ∧ 0 ≤ s ∧ s ≤ 1048576 ∧ (Pl.S L n : Int) ≤ s ∧ Hid (Below (wo.alloc (.cells #[.string lb, .slice ia KK ic, .slice sa sl sc] 45)).heap.size (wo.alloc (.cells #[.string lb, .slice ia KK ic, .slice sa sl sc] 45)) wr)) (fun _ i _ => KK - (intOf i).toNat)
          case atStart => exact ⟨0, _, Nat.zero_le _, rfl, rfl, by omega, by omega, by omega, Below.refl _ _⟩
          case round =>
            obtain ⟨j, s3, hj, rfl, rfl, hs30, hs31, hs32, hbel3⟩ := hrel
            have cb1 := cell_on hbel3.out CB1.out
            have hb4 := hidI (bstep HBX.out hbel3.out)
            by_cases hlt3 : j < KK
            · obtain ⟨b2, off2, rfl, hbl2, hel2⟩ := H5.out.2.2 (by omega)
              obtain ⟨kd, dest, aa, pa, al, ac, pl, pc, cal, pt, g0, g1, g2, g3, g4, g5, g6, g7, g8⟩ := hel2 j hlt3
              have g0 := cell_on hbel3.out g0
              have g1 := cell_on hbel3.out g1
              have g2 := cell_on hbel3.out g2
              have g3 := cell_on hbel3.out g3
              have g4 := cell_on hbel3.out g4
              have g5 := cell_on hbel3.out g5
              have hbl2' : b2 < wr.heap.size := World.block_lt_of_cell? wr _ g0
              have hbl3' : wo.heap.size < wr.heap.size := World.block_lt_of_cell? wr _ cb1
              have HX := hidI (bstep hb4.out (ball wr (.cells #[.int .u8 kd, .int .i64 dest, .slice aa al ac, .slice pa pl pc, .string cal, .bool pt] 47)))
              have HX3 := hidI (bstep hbel3.out (ball wr (.cells #[.int .u8 kd, .int .i64 dest, .slice aa al ac, .slice pa pl pc, .string cal, .bool pt] 47)))
              unfold maxLen at g6 g7 g8
              clear hel2
              by_cases f1 : 1048576 < cal.size
              · go_wp2
                go_ret
                exact ⟨size_big _ _ _ _, HX.out⟩
              by_cases f2 : 1048576 < al
              · go_wp2
                go_ret
                exact ⟨size_big _ _ _ _, HX.out⟩
              by_cases f3 : 1048576 < pl
              · go_wp2
                go_ret
                exact ⟨size_big _ _ _ _, HX.out⟩
              go_wp2
              · go_ret
                exact ⟨size_big _ _ _ _, HX.out⟩
              · go_roundw
                case rel => exact ⟨j + 1, _, by omega, by go_num, rfl, by omega, by omega, by omega, HX3⟩
                case measure => simp [intOf]; omega
            · go_wp2
              go_roundw
              case rel => exact ⟨k2 + 1, _, by omega, by go_num, rfl, hs30, hs31, hs32, HKs, hb4⟩
              case measure => simp [intOf]; omega
        · go_wp2
          go_ret
          exact ⟨⟨s2, rfl, hs20, by omega, fun _ => ⟨by omega, by omega, hs22, fun i hi => hKs.out i (by omega)⟩⟩, hbel2.out⟩
end Go.Proofs.Qxb6630796a
