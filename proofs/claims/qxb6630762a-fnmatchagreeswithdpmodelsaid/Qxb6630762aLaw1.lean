import Derived.Test.Qxb6630762aMatch
import Derived.Lib.Strings
import Derived.Lib.SmallJoins
import Derived.Lib.IndexBytes
namespace Go.Proofs.Qxb6630762a
open Go.RowKit
set_option linter.unusedVariables false
set_option linter.unusedSimpArgs false

theorem bdrew {B : Nat} {w w' : World} (h : Below B w w') (n : Nat) : Below B w (w'.drewN n) := ⟨h.os, h.tape, h.output, h.size, h.block⟩
theorem bstep {w w1 w2 : World} (h : Below w.heap.size w w1) (k : Below w1.heap.size w1 w2) : Below w.heap.size w w2 := h.trans (k.mono h.size)

theorem match_bel (a b : ByteArray) (wa : a.size ≤ 1000000) (wb : b.size ≤ 1000000) (w : World) :
    Calls Try.prog 6 #[.string a, .string b] w fun e w' => ∃ r, e = .returned (.bool r) ∧ (r = true ↔ Pl.G a.data.toList b.data.toList) ∧ Below w.heap.size w w' :=
  (match_any a b wa wb w).mono fun e w' ⟨r, h1, h2, n, hw⟩ => ⟨r, h1, h2, hw ▸ bdrew (Below.refl _ _) n⟩

theorem bytes8_any (a b c : ByteArray) (wa : a.size ≤ maxLen) (wb : b.size ≤ maxLen) (wc : c.size ≤ maxLen) (w : World) :
    Calls Try.prog 8 #[.string a, .string b, .string c] w fun e w' => (∃ x, e = .returned (.bool x)) ∧ w' = w := by
  unfold maxLen at wa wb wc
  go_enter Try.func8, Try.ntmps8
  go_wp2
  all_goals (go_ret; exact ⟨⟨_, rfl⟩, rfl⟩)
theorem bytes5_any (a b : ByteArray) (wa : a.size ≤ maxLen) (wb : b.size ≤ maxLen) (w : World) :
    Calls Try.prog 5 #[.string a, .string b] w fun e w' => (∃ x, e = .returned (.bool x)) ∧ w' = w := by
  unfold maxLen at wa wb
  go_enter Try.func5, Try.ntmps5
  go_wp2
  all_goals (go_ret; exact ⟨⟨_, rfl⟩, rfl⟩)

theorem bool_of_iff {r : Bool} {p : Prop} (h : r = true ↔ p) (hp : ¬ p) : r = false := by
  cases r
  · rfl
  · exact absurd (h.1 rfl) hp

set_option maxHeartbeats 400000 in
theorem walk4 (a0 a1 a2 : ByteArray) (w0 : a0.size ≤ maxLen) (w1 : a1.size ≤ maxLen) (w2 : a2.size ≤ maxLen) (w : World) :
    Calls Try.prog 4 #[.string a0, .string a1, .string a2] w fun e w' => e = .returned (.bool true) ∧ Below w.heap.size w w' := by
  have hby := bytes8_any a0 a1 a2 w0 w1 w2 w
  unfold maxLen at w0 w1 w2
  go_enter Try.func4, Try.ntmps4
  go_wp2_with fail
  refine hby.mono ?_
  rintro e w' ⟨⟨x, rfl⟩, rfl⟩
  clear hby
  cases x
  · go_wp2
    go_ret
    exact ⟨rfl, Below.refl _ _⟩
  by_cases h0 : 256 < a0.size
  · go_wp2
    go_ret
    exact ⟨rfl, Below.refl _ _⟩
  by_cases h1 : 256 < a1.size
  · go_wp2
    go_ret
    exact ⟨rfl, Below.refl _ _⟩
  by_cases h2 : 256 < a2.size
  · go_wp2
    go_ret
    exact ⟨rfl, Below.refl _ _⟩
  have hd0 : decide ((256 : Int) < (a0.size : Int)) = false := decide_eq_false (by omega)
  have hd1 : decide ((256 : Int) < (a1.size : Int)) = false := decide_eq_false (by omega)
  have hd2 : decide ((256 : Int) < (a2.size : Int)) = false := decide_eq_false (by omega)
  go_wp2_with fail
  refine (match_bel (a0 ++ a1) (a0 ++ a1) (by rw [ByteArray.size_append]; omega) (by rw [ByteArray.size_append]; omega) _).mono ?_
  rintro e w3 ⟨r, rfl, hr, b3⟩
  have hrt : r = true := hr.2 (Pl.G_refl _)
  subst hrt
  have B3 := hidI b3
  clear hr b3
  go_wp2_with fail
  go_loopw [8, 9] (fun want i wr => ∃ k : Nat, k ≤ a2.size + 1 ∧ i = .int .i64 k ∧ want = .bool false ∧ Hid (∀ j, j < k → j ≤ a2.size → ¬ (Pl.G a0.data.toList (a2.data.toList.take j) ∧ Pl.G a1.data.toList (a2.data.toList.drop j))) ∧ Hid (Below w'.heap.size w' wr)) (fun _ i _ => a2.size + 1 - (intOf i).toNat)
  case atStart => exact ⟨0, by omega, rfl, rfl, fun j h => by omega, B3⟩
  case round =>
    obtain ⟨k, hk, rfl, rfl, hno, hb⟩ := hrel
    by_cases hlt : k ≤ a2.size
    · have hki : (k : Int) ≤ (a2.size : Int) := by omega
      go_wp2_with fail
      refine (match_bel a0 (a2.extract 0 k) (by omega) (by rw [ByteArray.size_extract]; omega) _).mono ?_
      rintro e w4 ⟨r1, rfl, hr1, b4⟩
      have hb4 := hidI (bstep hb.out b4)
      have HR1 := hidI hr1
      rw [Go.Lib.extract_data, List.drop_zero, Nat.sub_zero] at HR1
      clear hr1 b4
      cases r1
      · go_wp2
        go_roundw
        case rel => exact ⟨k + 1, by omega, by go_num, rfl, fun j h1 h2 h3 => (by rcases Nat.lt_or_ge j k with h | h
                                                                                  · exact hno.out j h h2 h3
                                                                                  · obtain rfl : j = k := by omega
                                                                                    exact absurd (HR1.out.2 h3.1) (by simp)), hb4⟩
        case measure => simp [intOf]; omega
      · go_wp2_with fail
        refine (match_bel a1 (a2.extract k a2.size) (by omega) (by rw [ByteArray.size_extract]; omega) _).mono ?_
        rintro e w5 ⟨r2, rfl, hr2, b5⟩
        have hb5 := hidI (bstep hb4.out b5)
        have HR2 := hidI hr2
        rw [Go.Lib.extract_to_end] at HR2
        clear hr2 b5
        cases r2
        · go_wp2
          go_roundw
          case rel => exact ⟨k + 1, by omega, by go_num, rfl, fun j h1 h2 h3 => (by rcases Nat.lt_or_ge j k with h | h
                                                                                    · exact hno.out j h h2 h3
                                                                                    · obtain rfl : j = k := by omega
                                                                                      exact absurd (HR2.out.2 h3.2) (by simp)), hb5⟩
          case measure => simp [intOf]; omega
        · go_wp2_with fail
          refine (match_bel (a0 ++ a1) a2 (by rw [ByteArray.size_append]; omega) (by omega) _).mono ?_
          rintro e w6 ⟨r3, rfl, hr3, b6⟩
          have hb6 := hidI (bstep hb5.out b6)
          have hrt : r3 = true := hr3.2 (by rw [Go.Joins.data_append, Pl.G_append]; exact ⟨k, by simpa using hlt, HR1.out.1 (by trivial), HR2.out.1 (by trivial)⟩)
          subst hrt
          clear hr3 b6
          go_wp2
          go_ret
          exact ⟨rfl, hb6.out⟩
    · go_wp2_with fail
      refine (match_bel (a0 ++ a1) a2 (by rw [ByteArray.size_append]; omega) (by omega) _).mono ?_
      rintro e w6 ⟨r3, rfl, hr3, b6⟩
      have hb6 := hidI (bstep hb.out b6)
      have hrt : r3 = false := bool_of_iff hr3 (by
        rw [Go.Joins.data_append, Pl.G_append]
        rintro ⟨j, hj, g1, g2⟩
        exact hno.out j (by simp at hj; omega) (by simpa using hj) ⟨g1, g2⟩)
      subst hrt
      clear hr3 b6
      go_wp2
      go_ret
      exact ⟨rfl, hb6.out⟩
end Go.Proofs.Qxb6630762a
