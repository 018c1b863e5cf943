import Derived.Test.Qxb6630674aIn
namespace Go.Proofs.Qxb6630674a
open Go.RowKit

set_option maxHeartbeats 800000 in
/-- zzPairsCanon: where it answers true, the pairs are canonical. -/
theorem pcanon_any (l : List Pl.R) (v : Value) (w : World) (hv : Rs w v l) :
    Calls Try.prog 6 #[v] w fun e w' => (∃ b, e = .returned (.bool b) ∧ (b = true → Pl.Canon (-1) l)) ∧ ∃ n, w' = w.drewN n := by
  obtain ⟨ao, cap, rfl, hlc, hcm, hcells⟩ := hv
  unfold maxLen at hcm
  obtain ⟨n, hn⟩ : ∃ n, n = l.length := ⟨_, rfl⟩
  have HN : Hid (n = l.length) := hn
  rw [← hn] at hlc hcells ⊢
  clear hn
  go_enter Try.func6, Try.ntmps6
  go_wp2
  go_loopw [3] (fun i wr => ∃ k m : Nat, k ≤ n ∧ i = .int .i64 k ∧ wr = w.drewN m ∧ ∀ j, j < k → 0 ≤ Pl.A l j ∧ Pl.A l j ≤ Pl.B l j ∧ Pl.B l j ≤ 1114111 ∧ (0 < j → Pl.B l (j - 1) + 1 < Pl.A l j)) (fun i _ => n - (intOf i).toNat)
  case atStart => exact ⟨0, 0, Nat.zero_le _, rfl, rfl, fun j h => by omega⟩
  case round =>
    obtain ⟨k, m, hk, rfl, rfl, hall⟩ := hrel
    have HA : Hid (∀ j, j < k → 0 ≤ Pl.A l j ∧ Pl.A l j ≤ Pl.B l j ∧ Pl.B l j ≤ 1114111 ∧ (0 < j → Pl.B l (j - 1) + 1 < Pl.A l j)) := hall
    clear hall
    by_cases hlt : k < n
    · obtain ⟨bb, off, rfl, hb, hc⟩ := hcells (by omega)
      obtain ⟨h1, h2⟩ := hc k hlt
      have hki : (k : Int) < (n : Int) := by omega
      by_cases c1 : Pl.A l k < 0
      · clear hcells hc
        go_wp2
        go_quiet (fail)
        go_wp2
        go_ret
        exact ⟨⟨_, rfl, fun h => by cases h⟩, by simp only [World.drewN_drewN]; exact ⟨_, rfl⟩⟩
      have d1 : decide (Pl.A l k < 0) = false := decide_eq_false c1
      by_cases c2 : 1114111 < Pl.B l k
      · clear hcells hc
        go_wp2
        go_quiet (fail)
        go_wp2
        go_ret
        exact ⟨⟨_, rfl, fun h => by cases h⟩, by simp only [World.drewN_drewN]; exact ⟨_, rfl⟩⟩
      have d2 : decide (1114111 < Pl.B l k) = false := decide_eq_false c2
      by_cases c3 : Pl.B l k < Pl.A l k
      · clear hcells hc
        go_wp2
        go_quiet (fail)
        go_wp2
        go_ret
        exact ⟨⟨_, rfl, fun h => by cases h⟩, by simp only [World.drewN_drewN]; exact ⟨_, rfl⟩⟩
      have d3 : decide (Pl.B l k < Pl.A l k) = false := decide_eq_false c3
      by_cases h0 : k = 0
      · subst h0
        simp only [Nat.zero_mul, Nat.add_zero] at h1 h2
        clear hcells hc
        go_wp2
        go_quiet (fail)
        go_wp2
        go_quiet (fail)
        go_wp2
        go_roundw
        case rel => exact ⟨1, _, by omega, by go_num, rfl, fun j hj => by obtain rfl : j = 0 := by omega
                                                                          exact ⟨by omega, by omega, by omega, fun h => by omega⟩⟩
        case measure => simp [intOf]; omega
      · obtain ⟨g0, g1, g2', _⟩ := HA.out (k - 1) (by omega)
        have g2 := (hc (k - 1) (by omega)).2
        have hk0 : decide (0 < k) = true := decide_eq_true (by omega)
        clear hcells hc
        by_cases c4 : Pl.A l k ≤ Pl.B l (k - 1) + 1
        · go_wp2
          go_quiet (fail)
          go_wp2
          go_quiet (fail)
          go_wp2
          go_ret
          exact ⟨⟨_, rfl, fun h => by cases h⟩, by simp only [World.drewN_drewN]; exact ⟨_, rfl⟩⟩
        · go_wp2
          go_quiet (fail)
          go_wp2
          go_quiet (fail)
          go_wp2
          go_roundw
          case rel => exact ⟨k + 1, _, by omega, by go_num, rfl, fun j hj => by rcases Nat.lt_or_ge j k with h | h
                                                                                · exact HA.out j h
                                                                                · obtain rfl : j = k := by omega
                                                                                  exact ⟨by omega, by omega, by omega, fun h => by omega⟩⟩
          case measure => simp [intOf]; omega
    · go_wp2
      go_ret
      refine ⟨⟨_, rfl, fun _ => Pl.canon_of_index (fun i hi => ?_) (fun hi => ?_)⟩, _, rfl⟩
      · have := HA.out i (by have := HN.out; omega); exact this.2
      · have := HA.out 0 (by have := HN.out; omega); omega
end Go.Proofs.Qxb6630674a
