/-
  THE PLAIN MATHEMATICS of globs: no Go in sight.
-/
import Derived.Below
namespace Go.Proofs.Qxb6630762a.Pl

/-- the pattern covers the whole text; 42 is the star -/
def G : List UInt8 → List UInt8 → Prop
  | [], s => s = []
  | c :: p, s => if c = 42 then ∃ k, G p (s.drop k) else ∃ t, s = c :: t ∧ G p t

theorem G_nil (s : List UInt8) : G [] s ↔ s = [] := Iff.rfl
theorem G_star {c : UInt8} (h : c = 42) (p s : List UInt8) : G (c :: p) s ↔ ∃ k, G p (s.drop k) := by simp [G, h]
theorem G_char {c : UInt8} (h : c ≠ 42) (p s : List UInt8) : G (c :: p) s ↔ ∃ t, s = c :: t ∧ G p t := by simp [G, h]

theorem G_refl (p : List UInt8) : G p p := by
  induction p with
  | nil => rfl
  | cons c p ih =>
    by_cases h : c = 42
    · exact (G_star h p _).2 ⟨1, ih⟩
    · exact (G_char h p _).2 ⟨p, rfl, ih⟩

theorem G_append (p q : List UInt8) : ∀ s, G (p ++ q) s ↔ ∃ k, k ≤ s.length ∧ G p (s.take k) ∧ G q (s.drop k) := by
  induction p with
  | nil =>
    intro s
    constructor
    · intro h; exact ⟨0, by omega, by simp [G], by simpa using h⟩
    · rintro ⟨k, hk, h1, h2⟩
      have : k = 0 ∨ s = [] := by simpa [G] using h1
      rcases this with rfl | rfl
      · simpa using h2
      · simpa using h2
  | cons c p ih =>
    intro s
    rw [List.cons_append]
    by_cases h : c = 42
    · rw [G_star h]
      constructor
      · rintro ⟨k, hk⟩
        obtain ⟨j, hj, h1, h2⟩ := (ih _).1 hk
        simp only [List.length_drop] at hj
        by_cases hks : k ≤ s.length
        · refine ⟨k + j, by omega, (G_star h _ _).2 ⟨k, ?_⟩, by rw [List.drop_drop] at h2; exact h2⟩
          rw [List.drop_take, Nat.add_sub_cancel_left]
          exact h1
        · have e : s.drop k = [] := List.drop_eq_nil_of_le (by omega)
          rw [e] at h1 h2
          refine ⟨s.length, Nat.le_refl _, (G_star h _ _).2 ⟨k, ?_⟩, ?_⟩
          · rw [List.take_length, e]; simpa using h1
          · rw [List.drop_length]; simpa using h2
      · rintro ⟨k, hk, h1, h2⟩
        obtain ⟨j, hj⟩ := (G_star h _ _).1 h1
        refine ⟨min j k, (ih _).2 ⟨k - min j k, by simp only [List.length_drop]; omega, ?_, ?_⟩⟩
        · rw [List.drop_take] at hj
          by_cases hjk : j ≤ k
          · rw [Nat.min_eq_left hjk]; exact hj
          · rw [Nat.min_eq_right (by omega)]
            rw [show k - j = 0 from by omega] at hj
            rw [Nat.sub_self]
            simpa using hj
        · rw [List.drop_drop, show min j k + (k - min j k) = k from by omega]; exact h2
    · rw [G_char h]
      constructor
      · rintro ⟨t, rfl, ht⟩
        obtain ⟨k, hk, h1, h2⟩ := (ih _).1 ht
        exact ⟨k + 1, by simp; omega, (G_char h _ _).2 ⟨t.take k, rfl, h1⟩, h2⟩
      · rintro ⟨k, hk, h1, h2⟩
        obtain ⟨t, ht, h1'⟩ := (G_char h _ _).1 h1
        cases k with
        | zero => simp at ht
        | succ k =>
          cases s with
          | nil => simp at ht
          | cons d s =>
            simp only [List.take_succ_cons, List.cons.injEq] at ht
            obtain ⟨rfl, rfl⟩ := ht
            exact ⟨s, rfl, (ih _).2 ⟨k, by simpa using hk, h1', h2⟩⟩

/-! ### the backtracking search -/

/-- what holds at every round: the text from i on is to be covered by the pattern from p on, or, where a star was passed, the pattern behind it covers the text from some later place on -/
structure Inv (P T : List UInt8) (p i : Nat) (star : Int) (nx : Nat) : Prop where
  hp : p ≤ P.length
  hi : i ≤ T.length
  hs : -1 ≤ star
  hsp : star < p
  hn : nx ≤ i + 1
  main : G P T ↔ G (P.drop p) (T.drop i) ∨ (0 ≤ star ∧ ∃ k, nx ≤ k ∧ G (P.drop (star.toNat + 1)) (T.drop k))
  later : 0 ≤ star → ∀ k, nx ≤ k → G (P.drop (star.toNat + 1)) (T.drop k) → ∃ k', i ≤ k' ∧ G (P.drop p) (T.drop k')

theorem inv_start (P T : List UInt8) : Inv P T 0 0 (-1) 0 :=
  ⟨by omega, by omega, by omega, by omega, by omega, by simp, fun h => by omega⟩

def at' (l : List UInt8) (i : Nat) : UInt8 := l[i]?.getD 0
theorem drop_at (l : List UInt8) (i : Nat) (h : i < l.length) : l.drop i = at' l i :: l.drop (i + 1) := by
  rw [List.drop_eq_getElem_cons h]; simp [at', h]

theorem inv_star {P T : List UInt8} {p i nx : Nat} {star : Int} (h : Inv P T p i star nx) (hp : p < P.length) (hc : at' P p = 42) : Inv P T (p + 1) i (p : Int) (i + 1) := by
  obtain ⟨h1, h2, h3, h4, h5, hm, hl⟩ := h
  have e := drop_at P p hp
  have key : ∀ s, G (P.drop p) s ↔ ∃ k, G (P.drop (p + 1)) (s.drop k) := fun s => by rw [e]; exact G_star hc _ _
  refine ⟨by omega, h2, by omega, by omega, by omega, ?_, fun _ k hk hg => ⟨k, by omega, by simpa using hg⟩⟩
  rw [hm]
  simp only [Int.toNat_natCast]
  constructor
  · intro hh
    have : ∃ k, i ≤ k ∧ G (P.drop (p + 1)) (T.drop k) := by
      rcases hh with hh | ⟨hs, k, hk, hg⟩
      · obtain ⟨k, hk⟩ := (key _).1 hh
        exact ⟨i + k, by omega, by rw [List.drop_drop] at hk; exact hk⟩
      · obtain ⟨k', hk', hg'⟩ := hl hs k hk hg
        obtain ⟨k2, hk2⟩ := (key _).1 hg'
        exact ⟨k' + k2, by omega, by rw [List.drop_drop] at hk2; exact hk2⟩
    obtain ⟨k, hk, hg⟩ := this
    by_cases e : k = i
    · subst e; exact .inl hg
    · exact .inr ⟨by omega, k, by omega, hg⟩
  · rintro (hh | ⟨_, k, hk, hg⟩)
    · exact .inl ((key _).2 ⟨0, by simpa using hh⟩)
    · exact .inl ((key _).2 ⟨k - i, by rw [List.drop_drop, show i + (k - i) = k from by omega]; exact hg⟩)

theorem inv_char {P T : List UInt8} {p i nx : Nat} {star : Int} (h : Inv P T p i star nx) (hp : p < P.length) (hi : i < T.length) (hc : at' P p ≠ 42) (he : at' P p = at' T i) : Inv P T (p + 1) (i + 1) star nx := by
  obtain ⟨h1, h2, h3, h4, h5, hm, hl⟩ := h
  have e := drop_at P p hp
  have key : ∀ s, G (P.drop p) s ↔ ∃ t, s = at' P p :: t ∧ G (P.drop (p + 1)) t := fun s => by rw [e]; exact G_char hc _ _
  refine ⟨by omega, by omega, by omega, by omega, by omega, ?_, fun hs k hk hg => ?_⟩
  · rw [hm, key, drop_at T i hi, he]
    constructor
    · rintro (⟨t, ht, hg⟩ | hh)
      · injection ht with _ ht; subst ht; exact .inl hg
      · exact .inr hh
    · rintro (hg | hh)
      · exact .inl ⟨_, rfl, hg⟩
      · exact .inr hh
  · obtain ⟨k', hk', hg'⟩ := hl hs k hk hg
    obtain ⟨t, ht, hg''⟩ := (key _).1 hg'
    refine ⟨k' + 1, by omega, ?_⟩
    have hlt : k' < T.length := by
      rcases Nat.lt_or_ge k' T.length with h | h
      · exact h
      · rw [List.drop_eq_nil_of_le h] at ht; cases ht
    rw [drop_at T k' hlt] at ht
    injection ht with _ ht
    rw [ht]; exact hg''

/-- here the pattern from p on cannot cover the text from i on -/
theorem no_cover {P T : List UInt8} {p i : Nat} (hi : i < T.length) (hc : P.length ≤ p ∨ (at' P p ≠ 42 ∧ at' P p ≠ at' T i)) : ¬ G (P.drop p) (T.drop i) := by
  rw [drop_at T i hi]
  by_cases hp : P.length ≤ p
  · rw [List.drop_eq_nil_of_le hp]; intro h; cases h
  · obtain ⟨h1, h2⟩ := hc.resolve_left hp
    rw [drop_at P p (by omega), G_char h1]
    rintro ⟨t, ht, _⟩
    injection ht with ht _
    exact h2 ht.symm

theorem inv_back {P T : List UInt8} {p i nx : Nat} {star : Int} (h : Inv P T p i star nx) (hi : i < T.length) (hs : 0 ≤ star) (hc : P.length ≤ p ∨ (at' P p ≠ 42 ∧ at' P p ≠ at' T i)) : Inv P T (star.toNat + 1) nx star (nx + 1) := by
  obtain ⟨h1, h2, h3, h4, h5, hm, hl⟩ := h
  have hno := no_cover hi hc
  refine ⟨by omega, by omega, by omega, by omega, by omega, ?_, fun _ k hk hg => ⟨k, by omega, hg⟩⟩
  rw [hm]
  constructor
  · rintro (hh | ⟨_, k, hk, hg⟩)
    · exact absurd hh hno
    · by_cases e : k = nx
      · subst e; exact .inl hg
      · exact .inr ⟨hs, k, by omega, hg⟩
  · rintro (hh | ⟨_, k, hk, hg⟩)
    · exact .inr ⟨hs, nx, Nat.le_refl _, hh⟩
    · exact .inr ⟨hs, k, by omega, hg⟩

theorem inv_fail {P T : List UInt8} {p i nx : Nat} {star : Int} (h : Inv P T p i star nx) (hi : i < T.length) (hs : ¬ 0 ≤ star) (hc : P.length ≤ p ∨ (at' P p ≠ 42 ∧ at' P p ≠ at' T i)) : ¬ G P T := by
  rw [h.main]
  rintro (hh | ⟨h0, _⟩)
  · exact no_cover hi hc hh
  · exact hs h0

theorem inv_end {P T : List UInt8} {p i nx : Nat} {star : Int} (h : Inv P T p i star nx) (hi : ¬ i < T.length) : G P T ↔ G (P.drop p) [] := by
  obtain ⟨h1, h2, h3, h4, h5, hm, hl⟩ := h
  have e : ∀ k, i ≤ k → T.drop k = [] := fun k hk => List.drop_eq_nil_of_le (by omega)
  rw [hm, e i (Nat.le_refl _)]
  constructor
  · rintro (hh | ⟨hs, k, hk, hg⟩)
    · exact hh
    · obtain ⟨k', hk', hg'⟩ := hl hs k hk hg
      rw [e k' hk'] at hg'
      exact hg'
  · exact .inl

/-- trailing stars -/
theorem tail_star {P : List UInt8} {p : Nat} (hp : p < P.length) (hc : at' P p = 42) : G (P.drop p) [] ↔ G (P.drop (p + 1)) [] := by
  rw [drop_at P p hp, G_star hc]
  simp
theorem tail_no {P : List UInt8} {p : Nat} (hp : p < P.length) (hc : at' P p ≠ 42) : ¬ G (P.drop p) [] := by
  rw [drop_at P p hp, G_char hc]
  rintro ⟨t, ht, _⟩
  cases ht
theorem tail_end {P : List UInt8} {p : Nat} (hp : P.length ≤ p) : G (P.drop p) [] := by
  rw [List.drop_eq_nil_of_le hp]; rfl

/-! ### the dynamic program -/
theorem G_snoc (p s : List UInt8) (c : UInt8) : G (p ++ [c]) s ↔ ∃ k, k ≤ s.length ∧ G p (s.take k) ∧ G [c] (s.drop k) := G_append p [c] s

theorem dp_zero (s : List UInt8) (j : Nat) (hj : j ≤ s.length) : G [] (s.take j) ↔ j = 0 := by
  rw [G_nil]
  constructor
  · intro h
    have := congrArg List.length h
    simp at this
    rcases this with h | h
    · exact h
    · subst h; simp at hj; exact hj
  · rintro rfl; rfl

theorem dp_star (p s : List UInt8) (j : Nat) (hj : j ≤ s.length) : G (p ++ [42]) (s.take j) ↔ ∃ i, i ≤ j ∧ G p (s.take i) := by
  rw [G_snoc]
  constructor
  · rintro ⟨k, hk, h1, _⟩
    simp only [List.length_take] at hk
    rw [List.take_take] at h1
    exact ⟨min k j, by omega, h1⟩
  · rintro ⟨i, hi, h1⟩
    refine ⟨i, by simp only [List.length_take]; omega, ?_, (G_star rfl _ _).2 ⟨j, ?_⟩⟩
    · rw [List.take_take, Nat.min_eq_left hi]; exact h1
    · rw [List.drop_drop, G_nil]
      exact List.drop_eq_nil_of_le (by simp only [List.length_take]; omega)

theorem dp_char (p s : List UInt8) (c : UInt8) (hc : c ≠ 42) (j : Nat) (hj : j < s.length) : G (p ++ [c]) (s.take (j + 1)) ↔ G p (s.take j) ∧ at' s j = c := by
  rw [G_snoc]
  constructor
  · rintro ⟨k, hk, h1, h2⟩
    simp only [List.length_take] at hk
    rw [G_char hc] at h2
    obtain ⟨t, ht, rfl⟩ := h2
    have hlen := congrArg List.length ht
    simp only [List.length_drop, List.length_take, List.length_cons, List.length_nil] at hlen
    have hkj : k = j := by omega
    subst hkj
    rw [List.take_take, Nat.min_eq_left (by omega)] at h1
    refine ⟨h1, ?_⟩
    have := congrArg (fun l => l[0]?) ht
    simp only [List.getElem?_drop, Nat.add_zero, List.getElem?_cons_zero] at this
    rw [List.getElem?_take, if_pos (by omega)] at this
    simp [at', this]
  · rintro ⟨h1, h2⟩
    refine ⟨j, by simp only [List.length_take]; omega, ?_, (G_char hc _ _).2 ⟨[], ?_, rfl⟩⟩
    · rw [List.take_take, Nat.min_eq_left (by omega)]; exact h1
    · rw [List.drop_take, Nat.add_sub_cancel_left, drop_at s j hj, h2]; rfl

theorem dp_char0 (p : List UInt8) (c : UInt8) (hc : c ≠ 42) (s : List UInt8) : ¬ G (p ++ [c]) (s.take 0) := by
  rw [G_snoc]
  rintro ⟨k, _, _, h2⟩
  rw [G_char hc] at h2
  obtain ⟨t, ht, _⟩ := h2
  simp at ht

theorem take_at (l : List UInt8) (i : Nat) (h : i < l.length) : l.take (i + 1) = l.take i ++ [at' l i] := by
  rw [List.take_succ_eq_append_getElem h]; simp [at', h]

end Go.Proofs.Qxb6630762a.Pl
