/-
  THE PLAIN MATHEMATICS of the match clock: no Go in sight.
-/
import Derived.Below
import Derived.RowKit
namespace Go.Proofs.Qxb6630732a.Pl
open Go.RowKit

/-- the loop's sum, wrapping at every step -/
def el (f : Int → Int) (c : Int) : Nat → Int
  | 0 => c
  | n + 1 => wrap64 (el f c n + f ((n : Int) + 1))

/-- the bare sum -/
def S (f : Int → Int) : Nat → Int
  | 0 => 0
  | n + 1 => S f n + f ((n : Int) + 1)

def Fit (x : Int) : Prop := -9223372036854775808 ≤ x ∧ x ≤ 9223372036854775807

theorem wrap_fit {x : Int} (h : Fit x) : wrap64 x = x := by unfold Fit at h; unfold wrap64; omega
theorem wrap_add (a b : Int) : wrap64 (wrap64 a + b) = wrap64 (a + b) := by unfold wrap64; omega
theorem wrap_is_fit (x : Int) : Fit (wrap64 x) := by unfold Fit wrap64; omega

theorem el_sum (f : Int → Int) (c : Int) (hc : Fit c) (n : Nat) : el f c n = wrap64 (c + S f n) := by
  induction n with
  | zero => simp only [el, S, Int.add_zero]; exact (wrap_fit hc).symm
  | succ n ih => simp only [el, S, ih]; rw [wrap_add, Int.add_assoc]

theorem el_start (f : Int → Int) (c : Int) (hc : Fit c) (n : Nat) : el f c n = wrap64 (el f 0 n + c) := by
  rw [el_sum f c hc, el_sum f 0 (by unfold Fit; omega), wrap_add]
  congr 1
  omega

/-- one key's value is moved by d -/
theorem S_move {f g : Int → Int} {j d : Int} (hj : g j = wrap64 (f j + d)) (n : Nat) (h : ∀ x : Int, 1 ≤ x → x ≤ (n : Int) → x ≠ j → g x = f x) :
    wrap64 (S g n) = wrap64 (S f n + if 1 ≤ j ∧ j ≤ n then d else 0) := by
  induction n with
  | zero =>
    simp only [S]
    rw [if_neg (by omega)]
    rfl
  | succ n ih =>
    have ih' := ih (fun x h1 h2 h3 => h x h1 (by omega) h3)
    simp only [S]
    by_cases e : (n : Int) + 1 = j
    · rw [if_neg (by omega)] at ih'
      rw [if_pos (by omega), e, hj]
      unfold wrap64 at ih' ⊢
      omega
    · rw [h _ (by omega) (by omega) e]
      by_cases hc : 1 ≤ j ∧ j ≤ n
      · rw [if_pos hc] at ih'
        rw [if_pos (by omega)]
        unfold wrap64 at ih' ⊢
        omega
      · rw [if_neg hc] at ih'
        rw [if_neg (by omega)]
        unfold wrap64 at ih' ⊢
        omega

theorem el_move {f g : Int → Int} {j d c : Int} (hc : Fit c) (hj : g j = wrap64 (f j + d)) (n : Nat) (h : ∀ x : Int, 1 ≤ x → x ≤ (n : Int) → x ≠ j → g x = f x) :
    el g c n = if 1 ≤ j ∧ j ≤ n then wrap64 (el f c n + d) else el f c n := by
  have hs := S_move hj n h
  rw [el_sum g c hc, el_sum f c hc]
  by_cases hb : 1 ≤ j ∧ j ≤ n
  · rw [if_pos hb] at hs ⊢
    rw [wrap_add]
    unfold wrap64 at hs ⊢
    omega
  · rw [if_neg hb] at hs ⊢
    unfold wrap64 at hs ⊢
    omega

end Go.Proofs.Qxb6630732a.Pl
