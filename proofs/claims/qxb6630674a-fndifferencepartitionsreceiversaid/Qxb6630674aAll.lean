import Derived.Test.Qxb6630674aOk
namespace Go.Proofs.Qxb6630674a
open Go.RowKit
set_option linter.unusedSimpArgs false

theorem diffAll_any (s t q : List Pl.R) (hs : Pl.Canon (-1) s) (ht : Pl.Canon (-1) t) (hq : Pl.Canon (-1) q) (vs vt vd vq : Value) (w : World) (rs : Rs w vs s) (rt : Rs w vt t) (rd : Rs w vd (Pl.diff s t)) (rq : Rs w vq q) :
    Calls Try.prog 12 #[vs, vt, vd, vq] w fun e w' => e = .returned (.bool true) ∧ w' = w := by
  have HC : ∀ c, Calls Try.prog 16 #[vs, vt, vd, .int .i32 c] w fun e w' => e = .returned (.bool true) ∧ w' = w := fun c => diffOK_any s t hs ht c vs vt vd w rs rt rd
  clear rs rt rd hs ht
  obtain ⟨ao, cap, rfl, hlc, hcm, hcells⟩ := rq
  unfold maxLen at hcm
  obtain ⟨n, hn⟩ : ∃ n, n = q.length := ⟨_, rfl⟩
  have HN : Hid (n = q.length) := hn
  rw [← hn] at hlc hcells ⊢
  clear hn
  go_enter Try.func12, Try.ntmps12
  go_wp2
  go_loop [9] (fun i => ∃ k : Nat, k ≤ n ∧ i = .int .i64 k) (fun i => n - (intOf i).toNat)
  case atStart => exact ⟨0, Nat.zero_le _, rfl⟩
  case round =>
    obtain ⟨k, hk, rfl⟩ := hrel
    by_cases hlt : k < n
    · obtain ⟨bb, off, rfl, hb, hc⟩ := hcells (by omega)
      obtain ⟨i1, i2, i3, i4⟩ := Pl.canon_index hq k (by have := HN.out; omega)
      obtain ⟨h1, h2⟩ := hc k hlt
      have hki : (k : Int) < (n : Int) := by omega
      clear hcells hc
      go_wp2_with (go_at_call 16; refine (HC _).mono ?_; rintro e w' ⟨rfl, rfl⟩)
      go_round
      case rel => exact ⟨k + 1, by omega, by go_num⟩
      case measure => simp [intOf]; omega
    · go_wp2
      go_ret
      exact ⟨rfl, rfl⟩

theorem partOK_any (s t : List Pl.R) (hs : Pl.Canon (-1) s) (ht : Pl.Canon (-1) t) (c : Int) (vs vt vd vi : Value) (w : World) (rs : Rs w vs s) (rt : Rs w vt t) (rd : Rs w vd (Pl.diff s t)) (ri : Rs w vi (Pl.diff s (Pl.diff s t))) :
    Calls Try.prog 17 #[vs, vt, vd, vi, .int .i32 c] w fun e w' => e = .returned (.bool true) ∧ w' = w := by
  have hd := Pl.diff_canon s t hs ht
  have hi := Pl.diff_canon s _ hs hd
  have he := Pl.inB_diff hs ht c
  have hf := Pl.inB_diff hs hd c
  have KS := in_any s _ hs c vs _ rs
  have KT := in_any t _ ht c vt _ rt
  have KD := in_any _ _ hd c vd _ rd
  have KI := in_any _ _ hi c vi _ ri
  rw [hf, he] at KI
  rw [he] at KD
  clear he hf hd hi rs rt rd ri hs ht
  generalize Pl.inB s c = bs at *
  generalize Pl.inB t c = bt at *
  cases bs <;> cases bt
  all_goals
    simp only [Bool.and_true, Bool.and_false, Bool.not_true, Bool.not_false, Bool.true_and, Bool.false_and] at KI KD
    go_enter Try.func17, Try.ntmps17
    go_wp2_with fail
    refine KS.mono ?_
    rintro e w' ⟨rfl, rfl⟩
    go_wp2_with fail
    refine KT.mono ?_
    rintro e w' ⟨rfl, rfl⟩
    go_wp2_with fail
    refine KD.mono ?_
    rintro e w' ⟨rfl, rfl⟩
    go_wp2_with fail
    refine KI.mono ?_
    rintro e w' ⟨rfl, rfl⟩
    go_wp2
    go_ret
    exact ⟨rfl, rfl⟩

theorem partAll_any (s t q : List Pl.R) (hs : Pl.Canon (-1) s) (ht : Pl.Canon (-1) t) (hq : Pl.Canon (-1) q) (vs vt vd vi vq : Value) (w : World) (rs : Rs w vs s) (rt : Rs w vt t) (rd : Rs w vd (Pl.diff s t)) (ri : Rs w vi (Pl.diff s (Pl.diff s t))) (rq : Rs w vq q) :
    Calls Try.prog 15 #[vs, vt, vd, vi, vq] w fun e w' => e = .returned (.bool true) ∧ w' = w := by
  have HC : ∀ c, Calls Try.prog 17 #[vs, vt, vd, vi, .int .i32 c] w fun e w' => e = .returned (.bool true) ∧ w' = w := fun c => partOK_any s t hs ht c vs vt vd vi w rs rt rd ri
  clear rs rt rd ri hs ht
  obtain ⟨ao, cap, rfl, hlc, hcm, hcells⟩ := rq
  unfold maxLen at hcm
  obtain ⟨n, hn⟩ : ∃ n, n = q.length := ⟨_, rfl⟩
  have HN : Hid (n = q.length) := hn
  rw [← hn] at hlc hcells ⊢
  clear hn
  go_enter Try.func15, Try.ntmps15
  go_wp2
  go_loop [11] (fun i => ∃ k : Nat, k ≤ n ∧ i = .int .i64 k) (fun i => n - (intOf i).toNat)
  case atStart => exact ⟨0, Nat.zero_le _, rfl⟩
  case round =>
    obtain ⟨k, hk, rfl⟩ := hrel
    by_cases hlt : k < n
    · obtain ⟨bb, off, rfl, hb, hc⟩ := hcells (by omega)
      obtain ⟨i1, i2, i3, i4⟩ := Pl.canon_index hq k (by have := HN.out; omega)
      obtain ⟨h1, h2⟩ := hc k hlt
      have hki : (k : Int) < (n : Int) := by omega
      clear hcells hc
      go_wp2_with (go_at_call 17; refine (HC _).mono ?_; rintro e w' ⟨rfl, rfl⟩)
      go_round
      case rel => exact ⟨k + 1, by omega, by go_num⟩
      case measure => simp [intOf]; omega
    · go_wp2
      go_ret
      exact ⟨rfl, rfl⟩

/-- zzRangesEqual answers true at two slices of one list. -/
theorem equal_any (l : List Pl.R) (v v' : Value) (w : World) (hv : Rs w v l) (hv' : Rs w v' l) :
    Calls Try.prog 14 #[v, v'] w fun e w' => e = .returned (.bool true) ∧ ∃ n, w' = w.drewN n := by
  obtain ⟨ao, cap, rfl, hlc, hcm, hcells⟩ := hv
  obtain ⟨ao', cap', rfl, hlc', hcm', hcells'⟩ := hv'
  unfold maxLen at hcm hcm'
  obtain ⟨n, hn⟩ : ∃ n, n = l.length := ⟨_, rfl⟩
  rw [← hn] at hlc hcells hlc' hcells' ⊢
  clear hn
  go_enter Try.func14, Try.ntmps14
  go_wp2
  go_loopw [5] (fun i wr => ∃ k m : Nat, k ≤ n ∧ i = .int .i64 k ∧ wr = w.drewN m) (fun i _ => n - (intOf i).toNat)
  case atStart => exact ⟨0, 0, Nat.zero_le _, rfl, rfl⟩
  case round =>
    obtain ⟨k, m, hk, rfl, rfl⟩ := hrel
    by_cases hlt : k < n
    · obtain ⟨bb, off, rfl, hb, hc⟩ := hcells (by omega)
      obtain ⟨bb', off', rfl, hb', hc'⟩ := hcells' (by omega)
      obtain ⟨h1, h2⟩ := hc k hlt
      obtain ⟨h1', h2'⟩ := hc' k hlt
      have hki : (k : Int) < (n : Int) := by omega
      clear hcells hc hcells' hc'
      go_wp2
      go_quiet (fail)
      go_wp2
      go_roundw
      case rel => exact ⟨k + 1, _, by omega, by go_num, rfl⟩
      case measure => simp [intOf]; omega
    · go_wp2
      go_ret
      exact ⟨rfl, _, rfl⟩

theorem bytes5_any (a b : Option Addr) (n m c d : Nat) (hn : n ≤ maxLen) (hm : m ≤ maxLen) (w : World) :
    Calls Try.prog 5 #[.slice a n c, .slice b m d] w fun e w' => (∃ x, e = .returned (.bool x)) ∧ w' = w := by
  unfold maxLen at hn hm
  go_enter Try.func5, Try.ntmps5
  go_wp2
  all_goals (go_ret; exact ⟨⟨_, rfl⟩, rfl⟩)

theorem bytes13_any (a b : Option Addr) (n m c d : Nat) (hn : n ≤ maxLen) (hm : m ≤ maxLen) (w : World) :
    Calls Try.prog 13 #[.slice a n c, .slice b m d] w fun e w' => (∃ x, e = .returned (.bool x)) ∧ w' = w := by
  unfold maxLen at hn hm
  go_enter Try.func13, Try.ntmps13
  go_wp2
  all_goals (go_ret; exact ⟨⟨_, rfl⟩, rfl⟩)
end Go.Proofs.Qxb6630674a
