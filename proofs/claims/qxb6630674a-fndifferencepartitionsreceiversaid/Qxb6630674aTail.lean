import Derived.Test.Qxb6630674aPlain
namespace Go.Proofs.Qxb6630674a.Pl

/-- what is still to come of the difference, in the middle of the inner loop -/
def tail (b a : Int) (l s t : List R) : List R := (cuts b a l).1 ++ last (cuts b a l).2 b ++ diff s t

theorem tail_break {b a : Int} {c : R} {l s t : List R} (h : b < c.1) : tail b a (c :: l) s t = last a b ++ diff s t := by
  simp [tail, cuts, h]
theorem tail_nil {b a : Int} {s t : List R} : tail b a [] s t = last a b ++ diff s t := by simp [tail, cuts]
theorem tail_piece {b a : Int} {c : R} {l s t : List R} (h : ¬ b < c.1) (ha : a < c.1) : tail b a (c :: l) s t = (a, c.1 - 1) :: tail b (c.2 + 1) l s t := by
  simp [tail, cuts, h, ha]
theorem tail_skip {b a : Int} {c : R} {l s t : List R} (h : ¬ b < c.1) (ha : ¬ a < c.1) : tail b a (c :: l) s t = tail b (c.2 + 1) l s t := by
  simp [tail, cuts, h, ha]
theorem diff_tail (r : R) (s t : List R) : diff (r :: s) t = tail r.2 r.1 (dropW r.1 t) s (dropW r.1 t) := rfl
theorem last_yes {a b : Int} (h : a ≤ b) : last a b = [(a, b)] := by simp [last, h]
theorem last_no {a b : Int} (h : ¬ a ≤ b) : last a b = [] := by simp [last, h]

theorem drop_index (l : List R) (k : Nat) (h : k < l.length) : l.drop k = (A l k, B l k) :: l.drop (k + 1) := by
  have e : (A l k, B l k) = l[k] := by simp [A, B, h]
  rw [e]
  exact List.drop_eq_getElem_cons h
theorem dropW_yes {a : Int} {r : R} {t : List R} (h : r.2 < a) : dropW a (r :: t) = dropW a t := by simp [dropW, h]
theorem dropW_no {a : Int} {r : R} {t : List R} (h : ¬ r.2 < a) : dropW a (r :: t) = r :: t := by simp [dropW, h]

theorem canon_length' {l : List R} (h : Canon (-1) l) : l.length ≤ 600000 := by
  rcases canon_length h with h | rfl
  · omega
  · simp
end Go.Proofs.Qxb6630674a.Pl
