import Derived.Test.Qxb6630796aMem
namespace Go.Proofs.Qxb6630796a
open Go.RowKit
set_option linter.unusedVariables false

set_option maxRecDepth 100000 in
set_option maxHeartbeats 2000000 in
theorem bytes9_any (a : ByteArray) (ha : a.size ≤ maxLen) (vv vb : Value) (n m : Nat) (L KK : Nat → Nat) (p q : Int) (xn xt : ByteArray) (xa : Option Addr) (xl xc : Nat) (xb : Bool) (hxn : xn.size ≤ maxLen) (hxt : xt.size ≤ maxLen) (hxl : xl ≤ maxLen) (w : World) (hv : Vz w vv n L) (hb : Bz w vb m KK) :
    Calls Try.prog 9 #[.string a, vv, vb, .int .i64 p, .int .i64 q, .agg #[.string xn, .slice xa xl xc, .string xt, .bool xb]] w fun e w' => AnyB e ∧ Below w.heap.size w w' := by
  obtain ⟨av, cv, rfl, hv1, hv2, hv3⟩ := hv
  obtain ⟨ab, cb, rfl, hb1, hb2, hb3⟩ := hb
  unfold maxLen at ha hv2 hb2 hxn hxt hxl
  have HV := hidI hv3
  have HB := hidI hb3
  clear hv3 hb3
  go_enter Try.func9, Try.ntmps9
  go_wp2
  all_goals try (go_ret; exact ⟨anyB _, ball _ _⟩)
  go_loop [13, 14] (fun z i => ∃ (k : Nat) (s : Int), k ≤ n ∧ i = .int .i64 k ∧ z = .int .i64 s ∧ 0 ≤ s ∧ s ≤ 1048576) (fun _ i => n - (intOf i).toNat)
  case atStart => exact ⟨0, _, Nat.zero_le _, rfl, rfl, by omega, by omega⟩
  case round =>
    obtain ⟨k, s, hk, rfl, rfl, hs0, hs1⟩ := hrel
    by_cases hlt : k < n
    · obtain ⟨b, off, rfl, hbl, hel⟩ := HV.out (by omega)
      obtain ⟨nm, ty, wa, wc, tk, h0, h1, h2, h3, h4, h5, h6⟩ := hel k hlt
      unfold maxLen at h4 h5 h6
      clear hel h3
      go_wp2
      all_goals try (go_ret; exact ⟨anyB _, ball _ _⟩)
      go_round
      case rel => exact ⟨k + 1, _, by omega, by go_num, rfl, by omega, by omega⟩
      case measure => simp [intOf]; omega
    · go_wp2
      all_goals try (go_ret; exact ⟨anyB _, ball _ _⟩)
      go_loop [13, 15, 16] (fun z i _ => ∃ (k : Nat) (s : Int), k ≤ m ∧ i = .int .i64 k ∧ z = .int .i64 s ∧ 0 ≤ s ∧ s ≤ 1048576) (fun _ i _ => m - (intOf i).toNat)
      case atStart => exact ⟨0, _, Nat.zero_le _, rfl, rfl, by omega, by omega⟩
      case round =>
        obtain ⟨k2, s2, hk2, rfl, rfl, hs20, hs21⟩ := hrel
        by_cases hlt2 : k2 < m
        · obtain ⟨b, off, rfl, hbl, hel⟩ := HB.out (by omega)
          obtain ⟨lb, ia, sa, ic, sl, sc, h0, h1, h2, h3, h4, h5, h6, h7⟩ := hel k2 hlt2
          obtain ⟨K, hK⟩ : ∃ K, K = KK k2 := ⟨_, rfl⟩
          rw [← hK] at h1 h5 h7
          clear hK
          unfold maxLen at h3 h4 h6
          have H7 := hidI h7
          clear hel h7
          go_wp2
          all_goals try (go_ret; exact ⟨anyB _, ball _ _⟩)
          go_loop [13, 16] (fun z i => ∃ (j : Nat) (s : Int), j ≤ K ∧ i = .int .i64 j ∧ z = .int .i64 s ∧ 0 ≤ s ∧ s ≤ 1048576) (fun _ i => K - (intOf i).toNat)
          case atStart => exact ⟨0, _, Nat.zero_le _, rfl, rfl, by omega, by omega⟩
          case round =>
            obtain ⟨j, s3, hj, rfl, rfl, hs30, hs31⟩ := hrel
            by_cases hlt3 : j < K
            · obtain ⟨b2, off2, rfl, hbl2, hel2⟩ := H7.out (by omega)
              obtain ⟨kd, dest, aa, pa, al, ac, pl, pc, cal, pt, g0, g1, g2, g3, g4, g5, g6, g7, g8⟩ := hel2 j hlt3
              unfold maxLen at g6 g7 g8
              clear hel2 g0 g1 g5
              go_wp2
              all_goals try (go_ret; exact ⟨anyB _, ball _ _⟩)
              go_round
              case rel => exact ⟨j + 1, _, by omega, by go_num, rfl, by omega, by omega⟩
              case measure => simp [intOf]; omega
            · go_wp2
              all_goals try (go_ret; exact ⟨anyB _, ball _ _⟩)
              go_round
              case rel => exact ⟨k2 + 1, _, by omega, by go_num, rfl, by omega, by omega⟩
              case measure => simp [intOf]; omega
        · go_wp2
          all_goals (go_ret; exact ⟨anyB _, ball _ _⟩)
end Go.Proofs.Qxb6630796a
