import Derived.Test.Qxb6630762aLaw1
import Derived.Deep.OwnRows
namespace Go.Proofs.Qxb6630762a
open Go.RowKit
set_option linter.unusedVariables false
set_option linter.unusedSimpArgs false

theorem Try.info4 : (Try.prog.info? 4).map (fun i => (i.zero, i.size, i.bytes)) = some (some (.bool false), 1, 1) := by kernel_rfl

/-- a row of bools -/
def Bs (w : World) (g n : Nat) (c : Nat → Bool) : Prop := w.rowIs g 4 n (fun j => .bool (c j))

theorem Bs.set {w : World} {g n : Nat} {c : Nat → Bool} (h : Bs w g n c) (i : Nat) (v : Bool) : Bs (w.setCell ⟨g, i, none⟩ (.bool v)) g n (fun j => if j = i then v else c j) :=
  (World.rowIs.set h i (.bool v)).congr (fun j _ => by by_cases e : j = i <;> simp [e])
theorem Bs.other {w : World} {g n : Nat} {c : Nat → Bool} (h : Bs w g n c) {a : Addr} (ha : g ≠ a.block) (v : Value) : Bs (w.setCell a v) g n c := World.rowIs.setOther h ha v
theorem Bs.cell {w : World} {g n : Nat} {c : Nat → Bool} (h : Bs w g n c) {i : Nat} (hi : i < n) : w.cell? ⟨g, i, none⟩ = some (.bool (c i)) := World.rowIs.cell h hi
theorem Bs.frozen {w : World} {g n : Nat} {c : Nat → Bool} (h : Bs w g n c) (i : Nat) : w.frozen? ⟨g, i, none⟩ = false := World.rowIs.frozen h i

theorem bs_start (w : World) (m : Nat) :
    Bs ((w.alloc (.cells ((madeCells #[Value.bool false] (m + 1)).setIfInBounds 0 (.bool true)) 4)).alloc (.cells (madeCells #[Value.bool false] (m + 1)) 4)) w.heap.size (m + 1) (fun j => decide (j = 0)) ∧
    Bs ((w.alloc (.cells ((madeCells #[Value.bool false] (m + 1)).setIfInBounds 0 (.bool true)) 4)).alloc (.cells (madeCells #[Value.bool false] (m + 1)) 4)) (w.heap.size + 1) (m + 1) (fun _ => false) := by
  have hs : (madeCells #[Value.bool false] (m + 1)).size = m + 1 := by simp [madeCells]
  constructor
  · have h := World.rowIs_alloc w ((madeCells #[Value.bool false] (m + 1)).setIfInBounds 0 (.bool true)) 4 (fun j => .bool (decide (j = 0))) (fun i hi => by
      simp only [Array.size_setIfInBounds, hs] at hi
      rw [Array.getElem?_setIfInBounds]
      by_cases e : i = 0
      · subst e; simp [hs]
      · have e' : ¬ 0 = i := by omega
        simp [e, e', madeCells, hi, Nat.mod_one])
    simp only [Array.size_setIfInBounds, hs] at h
    exact h.alloc _
  · have h := World.rowIs_made (w.alloc (.cells ((madeCells #[Value.bool false] (m + 1)).setIfInBounds 0 (.bool true)) 4)) (.bool false) (m + 1) 4
    have e : (w.alloc (.cells ((madeCells #[Value.bool false] (m + 1)).setIfInBounds 0 (.bool true)) 4)).heap.size = w.heap.size + 1 := by simp
    rw [e] at h
    exact h

set_option maxHeartbeats 1000000 in
theorem dp_any (a b : ByteArray) (wa : a.size ≤ 1000000) (wb : b.size ≤ 1000000) (w : World) :
    Calls Try.prog 7 #[.string a, .string b] w fun e w' => ∃ r, e = .returned (.bool r) ∧ (r = true ↔ Pl.G a.data.toList b.data.toList) ∧ Below w.heap.size w w' := by
  have LA := hidI (show a.data.toList.length = a.size from by simp)
  have LB := hidI (show b.data.toList.length = b.size from by simp)
  have hmk := run_make_row' (P := Try.prog) 24 4 (.bool false) 1 Try.underlying24 Try.info4 rfl .i64 .i64 (b.size + 1) (by omega) (by omega)
  rw [show ((b.size + 1 : Nat) : Int) = (b.size : Int) + 1 from by omega] at hmk
  have hc0 : (madeCells #[.bool false] (b.size + 1))[0]? = some (Value.bool false) := by simp [madeCells]
  have hs0 : (madeCells #[Value.bool false] (b.size + 1)).size = b.size + 1 := by simp [madeCells]
  have HST := hidI (bs_start w b.size)
  have HB0 := hidI (((Below.refl w.heap.size w).alloc (Nat.le_refl _) (.cells ((madeCells #[Value.bool false] (b.size + 1)).setIfInBounds 0 (.bool true)) 4)).alloc (by simp) (.cells (madeCells #[Value.bool false] (b.size + 1)) 4))
  go_enter Try.func7, Try.ntmps7
  go_wp2
  clear hmk hc0 hs0
  go_loopw [6, 7, 8] (fun cur nxt i wr => ∃ (k g g' : Nat) (c d : Nat → Bool), k ≤ a.size ∧ i = .int .i64 k ∧ cur = .slice (some ⟨g, 0, none⟩) (b.size + 1) (b.size + 1) ∧ nxt = .slice (some ⟨g', 0, none⟩) (b.size + 1) (b.size + 1) ∧ g ≠ g' ∧ w.heap.size ≤ g ∧ w.heap.size ≤ g' ∧
      Hid (Bs wr g (b.size + 1) c) ∧ Hid (Bs wr g' (b.size + 1) d) ∧ Hid (∀ j, j ≤ b.size → (c j = true ↔ Pl.G (a.data.toList.take k) (b.data.toList.take j))) ∧ Hid (Below w.heap.size w wr)) (fun _ _ i _ => a.size - (intOf i).toNat)
  case atStart => exact ⟨0, w.heap.size, w.heap.size + 1, _, _, Nat.zero_le _, rfl, rfl, rfl, by omega, Nat.le_refl _, by omega, hidI HST.out.1, hidI HST.out.2, hidI (fun j hj => by rw [List.take_zero, Pl.dp_zero _ _ (by rw [LB.out]; omega)]; simp), HB0⟩
  case round =>
    obtain ⟨k, g, g', c, d, hk, rfl, rfl, rfl, hgg, hg1, hg2, hc, hd, hrow, hbel⟩ := hrel
    obtain ⟨wo, rfl⟩ : ∃ x, x = wr := ⟨_, rfl⟩
    by_cases hlt : k < a.size
    · have IA := hidI (at_byte a k hlt)
      have TK := hidI (Pl.take_at a.data.toList k (by rw [LA.out]; omega))
      by_cases h42 : a[k] = 42
      · have t1 : ((a[k].toNat : Int) == 42) = true := byte_42.2 h42
        have H42 := hidI h42
        clear h42
        go_wp2
        go_loopw [10, 11] (fun acc jv wr => ∃ (j : Nat) (A : Bool) (e : Nat → Bool), j ≤ b.size + 1 ∧ jv = .int .i64 j ∧ acc = .bool A ∧ Hid (Bs wr g (b.size + 1) c) ∧ Hid (Bs wr g' (b.size + 1) e) ∧ Hid (A = true ↔ ∃ i, i < j ∧ c i = true) ∧ Hid (∀ i, i < j → (e i = true ↔ ∃ i', i' ≤ i ∧ c i' = true)) ∧ Hid (Below w.heap.size w wr)) (fun _ jv _ => b.size + 1 - (intOf jv).toNat)
        case atStart => exact ⟨0, false, d, Nat.zero_le _, rfl, rfl, hc, hd, hidI (by simp), hidI (fun i h => by omega), hbel⟩
        case round =>
          obtain ⟨j, A, e, hj, rfl, rfl, hc2, he2, hA, hE, hbel2⟩ := hrel
          by_cases hjl : j ≤ b.size
          · have f1 := hc2.out.cell (i := j) (by omega)
            have f2 := he2.out.cell (i := j) (by omega)
            have f3 := he2.out.frozen j
            have hji : (j : Int) ≤ (b.size : Int) := by omega
            cases hcj : c j
            · have HCJ := hidI hcj
              rw [hcj] at f1
              clear hcj
              go_wp2
              go_roundw
              case rel => exact ⟨j + 1, A, _, by omega, by go_num, rfl, hidI (hc2.out.other hgg _), hidI (he2.out.set j A), hidI (by
                  rw [hA.out]
                  constructor
                  · rintro ⟨i, h1, h2⟩; exact ⟨i, by omega, h2⟩
                  · rintro ⟨i, h1, h2⟩
                    refine ⟨i, ?_, h2⟩
                    rcases Nat.lt_or_ge i j with h | h
                    · exact h
                    · obtain rfl : i = j := by omega
                      rw [HCJ.out] at h2; cases h2), hidI (fun i hi => by
                  by_cases e' : i = j
                  · subst e'
                    simp only [if_true]
                    rw [hA.out]
                    constructor
                    · rintro ⟨i', h1, h2⟩; exact ⟨i', by omega, h2⟩
                    · rintro ⟨i', h1, h2⟩
                      refine ⟨i', ?_, h2⟩
                      rcases Nat.lt_or_ge i' i with h | h
                      · exact h
                      · obtain rfl : i' = i := by omega
                        rw [HCJ.out] at h2; cases h2
                  · simp only [e', if_false]
                    exact hE.out i (by omega)), hidI (hbel2.out.setCell hg2 _)⟩
              case measure => simp [intOf]; omega
            · have HCJ := hidI hcj
              rw [hcj] at f1
              clear hcj
              go_wp2
              go_roundw
              case rel => exact ⟨j + 1, true, _, by omega, by go_num, rfl, hidI (hc2.out.other hgg _), hidI (he2.out.set j true), hidI ⟨fun _ => ⟨j, by omega, HCJ.out⟩, fun _ => rfl⟩, hidI (fun i hi => by
                  by_cases e' : i = j
                  · subst e'
                    simp only [if_true, true_iff]
                    exact ⟨i, Nat.le_refl _, HCJ.out⟩
                  · simp only [e', if_false]
                    exact hE.out i (by omega)), hidI (hbel2.out.setCell hg2 _)⟩
              case measure => simp [intOf]; omega
          · go_wp2
            go_roundw
            case rel => exact ⟨k + 1, g', g, e, c, by omega, by go_num, rfl, rfl, fun h => hgg h.symm, hg2, hg1, he2, hc2, hidI (fun i hi => by
                rw [hE.out i (by omega), TK.out, IA.out, H42.out, Pl.dp_star _ _ _ (by rw [LB.out]; omega)]
                constructor
                · rintro ⟨i', h1, h2⟩; exact ⟨i', h1, (hrow.out i' (by omega)).1 h2⟩
                · rintro ⟨i', h1, h2⟩; exact ⟨i', h1, (hrow.out i' (by omega)).2 h2⟩), hbel2⟩
            case measure => simp [intOf]; omega
      · have t1 : ((a[k].toNat : Int) == 42) = false := byte_n42 h42
        have H42 := hidI h42
        clear h42
        have f2 := hd.out.cell (i := 0) (by omega)
        have f3 := hd.out.frozen 0
        have hz := hidI (hd.out.set 0 false)
        have hcz := hidI (hc.out.other (a := ⟨g', 0, none⟩) hgg (.bool false))
        have hbz := hidI (hbel.out.setCell (p := ⟨g', 0, none⟩) hg2 (.bool false))
        go_wp2
        clear f2 f3
        go_loopw [12] (fun jv wr => ∃ (j : Nat) (e : Nat → Bool), 1 ≤ j ∧ j ≤ b.size + 1 ∧ jv = .int .i64 j ∧ Hid (Bs wr g (b.size + 1) c) ∧ Hid (Bs wr g' (b.size + 1) e) ∧ Hid (e 0 = false) ∧ Hid (∀ i, i + 1 < j → (e (i + 1) = true ↔ c i = true ∧ Pl.at' b.data.toList i = a[k])) ∧ Hid (Below w.heap.size w wr)) (fun jv _ => b.size + 1 - (intOf jv).toNat)
        case atStart => exact ⟨1, _, Nat.le_refl _, by omega, rfl, hcz, hz, hidI rfl, hidI (fun i h => by omega), hbz⟩
        case round =>
          obtain ⟨j, e, hj1, hj, rfl, hc2, he2, he0, hE, hbel2⟩ := hrel
          clear hz hcz hbz
          by_cases hjl : j ≤ b.size
          · have f1 := hc2.out.cell (i := j - 1) (by omega)
            have f2 := he2.out.cell (i := j) (by omega)
            have f3 := he2.out.frozen j
            have hji : (j : Int) ≤ (b.size : Int) := by omega
            have hjb : j - 1 < b.size := by omega
            have IB := hidI (at_byte b (j - 1) hjb)
            have hstep : ∀ (v : Bool), (v = true ↔ c (j - 1) = true ∧ b[j - 1] = a[k]) → (∀ i, i + 1 < j + 1 → ((if i + 1 = j then v else e (i + 1)) = true ↔ c i = true ∧ Pl.at' b.data.toList i = a[k])) := by
              intro v hv i hi
              by_cases e' : i + 1 = j
              · have : i = j - 1 := by omega
                subst this
                rw [if_pos e', hv, IB.out]
              · rw [if_neg e']
                exact hE.out i (by omega)
            have HSTEP := hidI hstep
            clear hstep
            cases hcj : c (j - 1)
            · have HV := hidI (show (false = true ↔ c (j - 1) = true ∧ b[j - 1] = a[k]) from by rw [hcj]; simp)
              rw [hcj] at f1
              clear hcj
              go_wp2
              go_roundw
              case rel => exact ⟨j + 1, _, by omega, by omega, by go_num, hidI (hc2.out.other hgg _), hidI (he2.out.set j false), hidI (by rw [if_neg (by omega)]; exact he0.out), hidI (HSTEP.out false HV.out), hidI (hbel2.out.setCell hg2 _)⟩
              case measure => simp [intOf]; omega
            · by_cases heq : b[j - 1] = a[k]
              · have HV := hidI (show (true = true ↔ c (j - 1) = true ∧ b[j - 1] = a[k]) from by rw [hcj]; simp [heq])
                have t2 : ((b[j - 1].toNat : Int) == (a[k].toNat : Int)) = true := byte_eq.2 heq
                rw [hcj] at f1
                clear hcj heq
                go_wp2
                go_roundw
                case rel => exact ⟨j + 1, _, by omega, by omega, by go_num, hidI (hc2.out.other hgg _), hidI (he2.out.set j true), hidI (by rw [if_neg (by omega)]; exact he0.out), hidI (HSTEP.out true ⟨fun _ => HV.out.1 (by trivial), fun _ => rfl⟩), hidI (hbel2.out.setCell hg2 _)⟩
                case measure => simp [intOf]; omega
              · have HV := hidI (show (false = true ↔ c (j - 1) = true ∧ b[j - 1] = a[k]) from by simp [heq])
                have t2 : ((b[j - 1].toNat : Int) == (a[k].toNat : Int)) = false := byte_ne heq
                rw [hcj] at f1
                clear hcj heq
                go_wp2
                go_roundw
                case rel => exact ⟨j + 1, _, by omega, by omega, by go_num, hidI (hc2.out.other hgg _), hidI (he2.out.set j false), hidI (by rw [if_neg (by omega)]; exact he0.out), hidI (HSTEP.out false HV.out), hidI (hbel2.out.setCell hg2 _)⟩
                case measure => simp [intOf]; omega
          · go_wp2
            go_roundw
            case rel => exact ⟨k + 1, g', g, e, c, by omega, by go_num, rfl, rfl, fun h => hgg h.symm, hg2, hg1, he2, hc2, hidI (fun i hi => by
                rw [TK.out, IA.out]
                cases i with
                | zero =>
                  rw [he0.out]
                  exact ⟨fun h => (by cases h), fun h => absurd h (Pl.dp_char0 _ _ H42.out _)⟩
                | succ i =>
                  rw [hE.out i (by omega), Pl.dp_char _ _ _ H42.out _ (by rw [LB.out]; omega), hrow.out i (by omega)]), hbel2⟩
            case measure => simp [intOf]; omega
    · have f1 := hc.out.cell (i := b.size) (by omega)
      have hke : k = a.size := by omega
      have hfin := hidI (hrow.out b.size (Nat.le_refl _))
      rw [hke, List.take_of_length_le (by rw [LA.out]; omega), List.take_of_length_le (by rw [LB.out]; omega)] at hfin
      generalize c b.size = r at f1 hfin
      go_wp2
      go_ret
      exact ⟨r, rfl, hfin.out, hbel.out⟩

theorem bool_same {r q : Bool} {p : Prop} (h : r = true ↔ p) (k : q = true ↔ p) : r = q := by
  cases r <;> cases q
  · rfl
  · exact absurd (h.2 (k.1 rfl)) (by simp)
  · exact absurd (k.2 (h.1 rfl)) (by simp)
  · rfl

set_option maxHeartbeats 400000 in
theorem walk3 (a0 a1 : ByteArray) (w0 : a0.size ≤ maxLen) (w1 : a1.size ≤ maxLen) (w : World) :
    Calls Try.prog 3 #[.string a0, .string a1] w fun e w' => e = .returned (.bool true) ∧ Below w.heap.size w w' := by
  have hby := bytes5_any a0 a1 w0 w1 w
  unfold maxLen at w0 w1
  go_enter Try.func3, Try.ntmps3
  go_wp2_with fail
  refine hby.mono ?_
  rintro e w' ⟨⟨x, rfl⟩, rfl⟩
  clear hby
  cases x
  · go_wp2
    go_ret
    exact ⟨rfl, Below.refl _ _⟩
  by_cases h0 : 4096 < a0.size
  · go_wp2
    go_ret
    exact ⟨rfl, Below.refl _ _⟩
  by_cases h1 : 4096 < a1.size
  · go_wp2
    go_ret
    exact ⟨rfl, Below.refl _ _⟩
  go_wp2_with fail
  refine (match_bel a0 a1 (by omega) (by omega) _).mono ?_
  rintro e w3 ⟨r, rfl, hr, b3⟩
  have HR := hidI hr
  have B3 := hidI b3
  clear hr b3
  go_wp2_with fail
  refine (dp_any a0 a1 (by omega) (by omega) _).mono ?_
  rintro e w4 ⟨q, rfl, hq, b4⟩
  have B4 := hidI (bstep B3.out b4)
  have hrq : r = q := bool_same HR.out hq
  subst hrq
  clear hq b4
  go_wp2
  go_ret
  exact ⟨ret_bool (by simp), B4.out⟩
end Go.Proofs.Qxb6630762a
