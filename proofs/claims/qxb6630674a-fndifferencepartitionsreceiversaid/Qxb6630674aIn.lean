import Derived.Test.Qxb6630674aRows
import Derived.Test.Qxb6630674aPlain
import Derived.WalkKit
import Derived.WalkSpells
import Derived.Deep.QuietTactic
import Derived.BigQuiet
namespace Go.Proofs.Qxb6630674a
open Go.RowKit

/-- The slice value v leads to the pairs l in the world w. -/
def Rs (w : World) (v : Value) (l : List Pl.R) : Prop :=
  ∃ ao cap, v = .slice ao l.length cap ∧ l.length ≤ cap ∧ cap ≤ maxLen ∧ (0 < l.length → ∃ b off, ao = some ⟨b, off, none⟩ ∧ b < w.heap.size ∧
    ∀ i, i < l.length → w.cell? ⟨b, off + i * 2, none⟩ = some (.int .i32 (Pl.A l i)) ∧ w.cell? ⟨b, off + i * 2 + 1, none⟩ = some (.int .i32 (Pl.B l i)))

theorem ret_bool {a b : Bool} (h : a = b) : Ending.returned (.bool a) = .returned (.bool b) := by rw [h]

set_option maxHeartbeats 400000 in
theorem in_any (l : List Pl.R) (lo : Int) (hl : Pl.Canon lo l) (c : Int) (v : Value) (w : World) (hv : Rs w v l) :
    Calls Try.prog 18 #[v, .int .i32 c] w fun e w' => e = .returned (.bool (Pl.inB l c)) ∧ w' = w := by
  obtain ⟨ao, cap, rfl, hlc, hcm, hcells⟩ := hv
  unfold maxLen at hcm
  obtain ⟨n, hn⟩ : ∃ n, n = l.length := ⟨_, rfl⟩
  have HN : Hid (n = l.length) := hn
  rw [← hn] at hlc hcells ⊢
  clear hn
  go_enter Try.func18, Try.ntmps18
  go_wp2
  go_loop [5, 6, 7] (fun i j _ => ∃ a b : Nat, a ≤ b ∧ b ≤ n ∧ i = .int .i64 a ∧ j = .int .i64 b ∧ (∀ i, i < a → Pl.A l i ≤ c) ∧ (∀ i, b ≤ i → i < n → c < Pl.A l i)) (fun i j _ => ((intOf j) - (intOf i)).toNat)
  case atStart => exact ⟨0, n, Nat.zero_le _, Nat.le_refl _, rfl, rfl, fun i h => by omega, fun i h h' => by omega⟩
  case round =>
    obtain ⟨a, b, hab, hbn, rfl, rfl, hlow, hhigh⟩ := hrel
    have HL : Hid (∀ i, i < a → Pl.A l i ≤ c) := hlow
    have HH : Hid (∀ i, b ≤ i → i < n → c < Pl.A l i) := hhigh
    clear hlow hhigh
    by_cases hlt : a < b
    · obtain ⟨bb, off, rfl, hb, hc⟩ := hcells (by omega)
      have h1 := (hc (a + (b - a) / 2) (by omega)).1
      clear hcells hc
      by_cases ht : Pl.A l (a + (b - a) / 2) ≤ c
      · go_wp2
        go_round
        case rel => exact ⟨a + (b - a) / 2 + 1, b, by omega, by omega, by go_num, rfl, fun i hi => by have := Pl.A_mono hl i (a + (b - a) / 2) (by omega) (by have := HN.out; omega); omega, HH⟩
        case measure => simp [intOf]; omega
      · go_wp2
        go_round
        case rel => exact ⟨a, a + (b - a) / 2, by omega, by omega, rfl, by go_num, HL, fun i h1 h2 => by have := Pl.A_mono hl (a + (b - a) / 2) i (by omega) (by have := HN.out; omega); omega⟩
        case measure => simp [intOf]; omega
    · obtain rfl : a = b := by omega
      have hdone := Pl.search_done hl c a (by have := HN.out; omega) HL (fun i h1 h2 => HH i h1 (by have := HN.out; omega))
      have HD : Hid (Pl.inB l c = (decide (0 < a) && decide (c ≤ Pl.B l (a - 1)))) := hdone
      clear hdone
      by_cases h0 : a = 0
      · subst h0
        go_wp2
        go_ret
        exact ⟨ret_bool (by rw [HD.out]; simp), rfl⟩
      · obtain ⟨bb, off, rfl, hb, hc⟩ := hcells (by omega)
        have h1 := (hc (a - 1) (by omega)).2
        clear hcells hc
        go_wp2
        go_ret
        exact ⟨ret_bool (by rw [HD.out]; simp; omega), rfl⟩
end Go.Proofs.Qxb6630674a
