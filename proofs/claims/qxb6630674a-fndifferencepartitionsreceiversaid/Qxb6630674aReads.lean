import Derived.Test.Qxb6630674aIn
namespace Go.Proofs.Qxb6630674a
open Go.RowKit

/-- zzRangesCanon answers true at what is canonical. -/
theorem rcanon_any (l : List Pl.R) (hl : Pl.Canon (-1) l) (v : Value) (w : World) (hv : Rs w v l) :
    Calls Try.prog 11 #[v] w fun e w' => e = .returned (.bool true) ∧ ∃ n, w' = w.drewN n := by
  obtain ⟨ao, cap, rfl, hlc, hcm, hcells⟩ := hv
  unfold maxLen at hcm
  obtain ⟨n, hn⟩ : ∃ n, n = l.length := ⟨_, rfl⟩
  have HN : Hid (n = l.length) := hn
  rw [← hn] at hlc hcells ⊢
  clear hn
  go_enter Try.func11, Try.ntmps11
  go_wp2
  go_loopw [3] (fun i wr => ∃ k m : Nat, k ≤ n ∧ i = .int .i64 k ∧ wr = w.drewN m) (fun i _ => n - (intOf i).toNat)
  case atStart => exact ⟨0, 0, Nat.zero_le _, rfl, rfl⟩
  case round =>
    obtain ⟨k, m, hk, rfl, rfl⟩ := hrel
    by_cases hlt : k < n
    · obtain ⟨bb, off, rfl, hb, hc⟩ := hcells (by omega)
      obtain ⟨i1, i2, i3, i4⟩ := Pl.canon_index hl k (by have := HN.out; omega)
      obtain ⟨h1, h2⟩ := hc k hlt
      have hki : (k : Int) < (n : Int) := by omega
      by_cases h0 : k = 0
      · subst h0
        simp only [Nat.zero_mul, Nat.add_zero] at h1 h2
        clear hcells hc
        have d1 : decide (Pl.A l 0 < 0) = false := decide_eq_false (by omega)
        have d2 : decide (1114111 < Pl.B l 0) = false := decide_eq_false (by omega)
        go_wp2
        go_quiet (fail)
        go_wp2
        go_quiet (fail)
        go_wp2
        go_roundw
        case rel => exact ⟨1, _, by omega, by go_num, rfl⟩
        case measure => simp [intOf]; omega
      · have i5 := i4 (by omega)
        obtain ⟨_, j2, j3, _⟩ := Pl.canon_index hl (k - 1) (by have := HN.out; omega)
        have g2 := (hc (k - 1) (by omega)).2
        have hk0 : decide (0 < k) = true := decide_eq_true (by omega)
        clear hcells hc
        have d1 : decide (Pl.A l k < 0) = false := decide_eq_false (by omega)
        have d2 : decide (1114111 < Pl.B l k) = false := decide_eq_false (by omega)
        go_wp2
        go_quiet (fail)
        go_wp2
        go_quiet (fail)
        go_wp2
        go_roundw
        case rel => exact ⟨k + 1, _, by omega, by go_num, rfl⟩
        case measure => simp [intOf]; omega
    · go_wp2
      go_ret
      exact ⟨rfl, _, rfl⟩
end Go.Proofs.Qxb6630674a
