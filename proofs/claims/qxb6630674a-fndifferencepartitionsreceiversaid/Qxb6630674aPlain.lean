/-
  THE PLAIN MATHEMATICS of sets of code points kept as ranges: no Go in sight.
-/
import Derived.Below
namespace Go.Proofs.Qxb6630674a.Pl

abbrev R : Type := Int × Int

def dropW (a : Int) : List R → List R
  | [] => []
  | r :: t => if r.2 < a then dropW a t else r :: t

def cuts (b : Int) : Int → List R → List R × Int
  | a, [] => ([], a)
  | a, c :: t => if b < c.1 then ([], a) else ((if a < c.1 then (a, c.1 - 1) :: (cuts b (c.2 + 1) t).1 else (cuts b (c.2 + 1) t).1), (cuts b (c.2 + 1) t).2)

def last (a b : Int) : List R := if a ≤ b then [(a, b)] else []

def diff : List R → List R → List R
  | [], _ => []
  | r :: s, t => (cuts r.2 r.1 (dropW r.1 t)).1 ++ last (cuts r.2 r.1 (dropW r.1 t)).2 r.2 ++ diff s (dropW r.1 t)

def Canon : Int → List R → Prop
  | _, [] => True
  | lo, r :: t => lo < r.1 ∧ r.1 ≤ r.2 ∧ r.2 ≤ 1114111 ∧ Canon (r.2 + 1) t

def Mem (c : Int) (l : List R) : Prop := ∃ r ∈ l, r.1 ≤ c ∧ c ≤ r.2

theorem mem_nil (c : Int) : ¬ Mem c [] := by rintro ⟨r, h, _⟩; cases h
theorem mem_cons (c : Int) (r : R) (l : List R) : Mem c (r :: l) ↔ (r.1 ≤ c ∧ c ≤ r.2) ∨ Mem c l := by
  constructor
  · rintro ⟨x, hx, h⟩
    rcases List.mem_cons.1 hx with rfl | hx
    · exact .inl h
    · exact .inr ⟨x, hx, h⟩
  · rintro (h | ⟨x, hx, h⟩)
    · exact ⟨r, List.mem_cons_self, h⟩
    · exact ⟨x, List.mem_cons_of_mem _ hx, h⟩
theorem mem_append (c : Int) (l m : List R) : Mem c (l ++ m) ↔ Mem c l ∨ Mem c m := by
  induction l with
  | nil => simp [mem_nil]
  | cons r l ih => rw [List.cons_append, mem_cons, mem_cons, ih]; exact ⟨fun h => by rcases h with h | h | h <;> simp [h], fun h => by rcases h with (h | h) | h <;> simp [h]⟩

theorem canon_mono {lo lo' : Int} {l : List R} (h : Canon lo l) (hl : lo' ≤ lo) : Canon lo' l := by
  cases l with
  | nil => trivial
  | cons r t => exact ⟨by have := h.1; omega, h.2⟩

theorem canon_low {l : List R} : ∀ {lo : Int}, Canon lo l → ∀ c, Mem c l → lo < c ∧ c ≤ 1114111 := by
  induction l with
  | nil => intro lo _ c h; exact absurd h (mem_nil c)
  | cons r t ih =>
    intro lo h c hc
    obtain ⟨h1, h2, h3, h4⟩ := h
    rcases (mem_cons c r t).1 hc with h | h
    · omega
    · have := ih h4 c h; omega

theorem canon_elem {l : List R} : ∀ {lo : Int}, Canon lo l → ∀ r ∈ l, lo < r.1 ∧ r.1 ≤ r.2 ∧ r.2 ≤ 1114111 := by
  induction l with
  | nil => intro lo _ r h; cases h
  | cons x t ih =>
    intro lo h r hr
    obtain ⟨h1, h2, h3, h4⟩ := h
    rcases List.mem_cons.1 hr with rfl | hr
    · exact ⟨h1, h2, h3⟩
    · have := ih h4 r hr; omega

theorem canon_append {l m : List R} {b : Int} : ∀ {lo : Int}, Canon lo l → (∀ r ∈ l, r.2 ≤ b) → Canon (b + 1) m → lo ≤ b + 1 → Canon lo (l ++ m) := by
  induction l with
  | nil => intro lo _ _ hm hlo; exact canon_mono hm hlo
  | cons r t ih =>
    intro lo h hb hm _
    obtain ⟨h1, h2, h3, h4⟩ := h
    have := hb r List.mem_cons_self
    exact ⟨h1, h2, h3, ih h4 (fun x hx => hb x (List.mem_cons_of_mem _ hx)) hm (by omega)⟩

theorem canon_length {l : List R} : ∀ {lo : Int}, Canon lo l → 2 * (l.length : Int) ≤ 1114112 - lo ∨ l = [] := by
  induction l with
  | nil => intro lo _; exact .inr rfl
  | cons r t ih =>
    intro lo h
    obtain ⟨h1, h2, h3, h4⟩ := h
    left
    rcases ih h4 with h | rfl
    · simp only [List.length_cons]; omega
    · simp only [List.length_cons, List.length_nil]; omega

theorem dropW_canon {a : Int} {t : List R} : ∀ {lo : Int}, Canon lo t → Canon lo (dropW a t) := by
  induction t with
  | nil => intro lo _; trivial
  | cons r t ih =>
    intro lo h
    unfold dropW
    split
    · obtain ⟨h1, h2, h3, h4⟩ := h
      exact canon_mono (ih h4) (by omega)
    · exact h

theorem dropW_last {a : Int} {t : List R} : ∀ {lo : Int}, Canon lo t → ∀ r ∈ dropW a t, a ≤ r.2 := by
  induction t with
  | nil => intro lo _ r h; cases h
  | cons x t ih =>
    intro lo h r hr
    unfold dropW at hr
    split at hr
    · exact ih h.2.2.2 r hr
    · obtain ⟨h1, h2, h3, h4⟩ := h
      rcases List.mem_cons.1 hr with rfl | hr
      · omega
      · have := canon_elem h4 r hr; omega

theorem dropW_mem {a c : Int} (hc : a ≤ c) (t : List R) : Mem c (dropW a t) ↔ Mem c t := by
  induction t with
  | nil => rfl
  | cons x t ih =>
    unfold dropW
    split
    · rw [ih, mem_cons]; exact ⟨.inr, fun h => h.elim (fun h => by omega) (fun h => h)⟩
    · rfl

theorem last_mem (a b c : Int) : Mem c (last a b) ↔ a ≤ c ∧ c ≤ b := by
  unfold last
  split
  · rw [mem_cons]; simp [mem_nil]
  · exact ⟨fun h => absurd h (mem_nil c), fun h => by omega⟩

theorem cuts_mem (b c : Int) (t : List R) : ∀ {lo : Int} (a : Int), Canon lo t → (∀ r ∈ t, a ≤ r.2 + 1) →
    (Mem c ((cuts b a t).1 ++ last (cuts b a t).2 b) ↔ (a ≤ c ∧ c ≤ b) ∧ ¬ Mem c t) := by
  induction t with
  | nil => intro lo a _ _; simp [cuts, last_mem, mem_nil]
  | cons x t ih =>
    intro lo a h hl
    obtain ⟨h1, h2, h3, h4⟩ := h
    have hx := hl x List.mem_cons_self
    have low : Mem c t → x.2 + 1 < c := fun h => (canon_low h4 c h).1
    unfold cuts
    by_cases hb : b < x.1
    · simp only [hb, if_true, List.nil_append, last_mem, mem_cons]
      constructor
      · intro h; exact ⟨h, fun h' => h'.elim (fun h' => by omega) (fun h' => by have := low h'; omega)⟩
      · exact fun h => h.1
    · have ih' := ih (x.2 + 1) h4 (fun r hr => by have := canon_elem h4 r hr; omega)
      simp only [hb, if_false]
      by_cases ha : a < x.1
      · simp only [ha, if_true, List.cons_append, mem_cons, ih']
        constructor
        · rintro (h | ⟨h, h'⟩)
          · exact ⟨by omega, fun h' => h'.elim (fun h' => by omega) (fun h' => by have := low h'; omega)⟩
          · exact ⟨by omega, fun h'' => h''.elim (fun h'' => by omega) (fun h'' => h' h'')⟩
        · rintro ⟨h, h'⟩
          by_cases hc : c < x.1
          · left; omega
          · right; exact ⟨⟨by have : ¬ (x.1 ≤ c ∧ c ≤ x.2) := fun h'' => h' (.inl h''); omega, h.2⟩, fun h'' => h' (.inr h'')⟩
      · simp only [ha, if_false, mem_cons, ih']
        constructor
        · rintro ⟨h, h'⟩
          exact ⟨by omega, fun h'' => h''.elim (fun h'' => by omega) (fun h'' => h' h'')⟩
        · rintro ⟨h, h'⟩
          exact ⟨⟨by have : ¬ (x.1 ≤ c ∧ c ≤ x.2) := fun h'' => h' (.inl h''); omega, h.2⟩, fun h'' => h' (.inr h'')⟩

theorem cuts_canon (b : Int) (hb : b ≤ 1114111) (t : List R) : ∀ {lo lo' : Int} (a : Int), lo' < a → Canon lo t → (∀ r ∈ t, a ≤ r.2 + 1) →
    Canon lo' ((cuts b a t).1 ++ last (cuts b a t).2 b) ∧ ∀ r ∈ (cuts b a t).1 ++ last (cuts b a t).2 b, r.2 ≤ b := by
  induction t with
  | nil =>
    intro lo lo' a hl _ _
    simp only [cuts, List.nil_append, last]
    by_cases hab : a ≤ b <;> simp only [hab, if_true, if_false]
    · exact ⟨⟨hl, hab, hb, trivial⟩, fun r hr => by simp at hr; subst hr; exact Int.le_refl _⟩
    · exact ⟨trivial, fun r hr => by cases hr⟩
  | cons x t ih =>
    intro lo lo' a hlo h hl
    obtain ⟨h1, h2, h3, h4⟩ := h
    have hx := hl x List.mem_cons_self
    unfold cuts
    by_cases hbx : b < x.1
    · simp only [hbx, if_true, List.nil_append, last]
      by_cases hab : a ≤ b <;> simp only [hab, if_true, if_false]
      · exact ⟨⟨hlo, hab, hb, trivial⟩, fun r hr => by simp at hr; subst hr; exact Int.le_refl _⟩
      · exact ⟨trivial, fun r hr => by cases hr⟩
    · simp only [hbx, if_false]
      by_cases ha : a < x.1
      · obtain ⟨i1, i2⟩ := ih (lo' := x.1) (x.2 + 1) (by omega) h4 (fun r hr => by have := canon_elem h4 r hr; omega)
        simp only [ha, if_true, List.cons_append]
        refine ⟨⟨hlo, by simp only; omega, by simp only; omega, canon_mono i1 (by simp only; omega)⟩, fun r hr => ?_⟩
        rcases List.mem_cons.1 hr with rfl | hr
        · simp only; omega
        · exact i2 r hr
      · simp only [ha, if_false]
        exact ih (lo' := lo') (x.2 + 1) (by omega) h4 (fun r hr => by have := canon_elem h4 r hr; omega)

theorem diff_mem (c : Int) (s : List R) : ∀ {lo lo' : Int} (t : List R), Canon lo s → Canon lo' t → (Mem c (diff s t) ↔ Mem c s ∧ ¬ Mem c t) := by
  induction s with
  | nil => intro lo lo' t _ _; simp [diff, mem_nil]
  | cons x s ih =>
    intro lo lo' t hs ht
    obtain ⟨h1, h2, h3, h4⟩ := hs
    have hd := dropW_canon (a := x.1) ht
    unfold diff
    rw [mem_append, cuts_mem x.2 c _ x.1 hd (fun r hr => by have := dropW_last ht r hr; omega), ih _ h4 hd, mem_cons]
    constructor
    · rintro (⟨h, h'⟩ | ⟨h, h'⟩)
      · exact ⟨.inl h, fun h'' => h' ((dropW_mem h.1 t).2 h'')⟩
      · have := (canon_low h4 c h).1
        exact ⟨.inr h, fun h'' => h' ((dropW_mem (by omega) t).2 h'')⟩
    · rintro ⟨h | h, h'⟩
      · exact .inl ⟨h, fun h'' => h' ((dropW_mem h.1 t).1 h'')⟩
      · have := (canon_low h4 c h).1
        exact .inr ⟨h, fun h'' => h' ((dropW_mem (by omega) t).1 h'')⟩

theorem diff_canon (s : List R) : ∀ {lo lo' : Int} (t : List R), Canon lo s → Canon lo' t → Canon lo (diff s t) := by
  induction s with
  | nil => intro lo lo' t _ _; trivial
  | cons x s ih =>
    intro lo lo' t hs ht
    obtain ⟨h1, h2, h3, h4⟩ := hs
    have hd := dropW_canon (a := x.1) ht
    unfold diff
    obtain ⟨c1, c2⟩ := cuts_canon x.2 h3 (dropW x.1 t) (lo' := lo) x.1 h1 hd (fun r hr => by have := dropW_last ht r hr; omega)
    exact canon_append c1 c2 (ih _ h4 hd) (by omega)

theorem canon_ext {l : List R} : ∀ {lo lo' : Int} {m : List R}, Canon lo l → Canon lo' m → (∀ c, Mem c l ↔ Mem c m) → l = m := by
  induction l with
  | nil =>
    intro lo lo' m _ hm h
    cases m with
    | nil => rfl
    | cons y m => exact absurd ((h y.1).2 ((mem_cons _ _ _).2 (.inl ⟨Int.le_refl _, hm.2.1⟩))) (mem_nil _)
  | cons x l ih =>
    intro lo lo' m hl hm h
    cases m with
    | nil => exact absurd ((h x.1).1 ((mem_cons _ _ _).2 (.inl ⟨Int.le_refl _, hl.2.1⟩))) (mem_nil _)
    | cons y m =>
      obtain ⟨a1, a2, a3, a4⟩ := hl
      obtain ⟨b1, b2, b3, b4⟩ := hm
      have lowx : ∀ c, Mem c l → x.2 + 1 < c := fun c h => (canon_low a4 c h).1
      have lowy : ∀ c, Mem c m → y.2 + 1 < c := fun c h => (canon_low b4 c h).1
      have hx1 := (mem_cons _ _ _).1 ((h x.1).1 ((mem_cons _ _ _).2 (.inl ⟨Int.le_refl _, a2⟩)))
      have hy1 := (mem_cons _ _ _).1 ((h y.1).2 ((mem_cons _ _ _).2 (.inl ⟨Int.le_refl _, b2⟩)))
      have e1 : x.1 = y.1 := by
        rcases hx1 with h1 | h1 <;> rcases hy1 with h2 | h2
        · omega
        · have := lowx _ h2; omega
        · have := lowy _ h1; omega
        · have := lowx _ h2; have := lowy _ h1; omega
      have e2 : x.2 = y.2 := by
        rcases Int.lt_trichotomy x.2 y.2 with hlt | heq | hgt
        · have := (mem_cons _ _ _).1 ((h (x.2 + 1)).2 ((mem_cons _ _ _).2 (.inl (by omega))))
          rcases this with h1 | h1
          · omega
          · have := lowx _ h1; omega
        · exact heq
        · have := (mem_cons _ _ _).1 ((h (y.2 + 1)).1 ((mem_cons _ _ _).2 (.inl (by omega))))
          rcases this with h1 | h1
          · omega
          · have := lowy _ h1; omega
      have exy : x = y := Prod.ext e1 e2
      subst exy
      have := ih a4 b4 (fun c => ?_)
      · rw [this]
      constructor
      · intro hc
        have h1 := lowx c hc
        rcases (mem_cons _ _ _).1 ((h c).1 ((mem_cons _ _ _).2 (.inr hc))) with h2 | h2
        · omega
        · exact h2
      · intro hc
        have h1 := lowy c hc
        rcases (mem_cons _ _ _).1 ((h c).2 ((mem_cons _ _ _).2 (.inr hc))) with h2 | h2
        · omega
        · exact h2

/-! ### the answer of zzIn -/
def inB (l : List R) (c : Int) : Bool := l.any fun r => decide (r.1 ≤ c) && decide (c ≤ r.2)
theorem inB_iff (l : List R) (c : Int) : inB l c = true ↔ Mem c l := by
  simp [inB, Mem]

theorem inB_diff {lo lo' : Int} {s t : List R} (hs : Canon lo s) (ht : Canon lo' t) (c : Int) : inB (diff s t) c = (inB s c && !inB t c) := by
  rw [Bool.eq_iff_iff, inB_iff, diff_mem c s t hs ht]
  simp [← inB_iff]

theorem diff_again {lo lo' : Int} {s t : List R} (hs : Canon lo s) (ht : Canon lo' t) : diff (diff s t) t = diff s t := by
  have hd := diff_canon s t hs ht
  refine canon_ext (diff_canon _ t hd ht) hd fun c => ?_
  rw [diff_mem c _ t hd ht, diff_mem c s t hs ht]
  exact ⟨fun h => h.1, fun h => ⟨h, h.2⟩⟩

/-! ### by index -/
def A (l : List R) (i : Nat) : Int := (l[i]?.getD (0, 0)).1
def B (l : List R) (i : Nat) : Int := (l[i]?.getD (0, 0)).2

theorem canon_index {l : List R} : ∀ {lo : Int}, Canon lo l → ∀ i, i < l.length → lo < A l i ∧ A l i ≤ B l i ∧ B l i ≤ 1114111 ∧ (0 < i → B l (i - 1) + 1 < A l i) := by
  induction l with
  | nil => intro lo _ i h; simp at h
  | cons r t ih =>
    intro lo h i hi
    obtain ⟨h1, h2, h3, h4⟩ := h
    cases i with
    | zero => exact ⟨h1, h2, h3, fun h => by omega⟩
    | succ i =>
      simp only [List.length_cons] at hi
      have := ih h4 i (by omega)
      refine ⟨?_, this.2.1, this.2.2.1, fun _ => ?_⟩
      · have := this.1; simp only [A, List.getElem?_cons_succ] at this ⊢; omega
      · cases i with
        | zero => exact this.1
        | succ i => exact this.2.2.2 (by omega)

theorem canon_of_index {l : List R} : ∀ {lo : Int}, (∀ i, i < l.length → A l i ≤ B l i ∧ B l i ≤ 1114111 ∧ (0 < i → B l (i - 1) + 1 < A l i)) → (0 < l.length → lo < A l 0) → Canon lo l := by
  induction l with
  | nil => intro lo _ _; trivial
  | cons r t ih =>
    intro lo h h0
    have a0 := h 0 (by simp)
    refine ⟨h0 (by simp), a0.1, a0.2.1, ih (fun i hi => ?_) (fun hl => ?_)⟩
    · have := h (i + 1) (by simp; omega)
      refine ⟨this.1, this.2.1, fun hi0 => ?_⟩
      have := this.2.2 (by omega)
      obtain ⟨j, rfl⟩ : ∃ j, i = j + 1 := ⟨i - 1, by omega⟩
      exact this
    · exact (h 1 (by simp; omega)).2.2 (by omega)

theorem canon_sorted {lo : Int} {l : List R} (h : Canon lo l) : ∀ j i, i < j → j < l.length → B l i + 1 < A l j := by
  intro j
  induction j with
  | zero => intro i hi; omega
  | succ j ih =>
    intro i hi hj
    have h1 := (canon_index h (j + 1) hj).2.2.2 (by omega)
    simp only [Nat.add_sub_cancel] at h1
    by_cases e : i = j
    · subst e; exact h1
    · have h2 := ih i (by omega) (by omega)
      have h3 := canon_index h j (by omega)
      omega

theorem mem_index (l : List R) (c : Int) : Mem c l ↔ ∃ i, i < l.length ∧ A l i ≤ c ∧ c ≤ B l i := by
  constructor
  · rintro ⟨r, hr, h⟩
    obtain ⟨i, hi, rfl⟩ := List.mem_iff_getElem.1 hr
    exact ⟨i, hi, by simpa [A, B, hi] using h⟩
  · rintro ⟨i, hi, h⟩
    exact ⟨l[i], List.getElem_mem hi, by simpa [A, B, hi] using h⟩

/-- what the binary search comes to -/
theorem search_done {lo : Int} {l : List R} (h : Canon lo l) (c : Int) (k : Nat) (hk : k ≤ l.length) (hl : ∀ i, i < k → A l i ≤ c) (hr : ∀ i, k ≤ i → i < l.length → c < A l i) :
    inB l c = (decide (0 < k) && decide (c ≤ B l (k - 1))) := by
  rw [Bool.eq_iff_iff, inB_iff, mem_index]
  simp only [Bool.and_eq_true, decide_eq_true_eq]
  constructor
  · rintro ⟨i, hi, h1, h2⟩
    have hik : i < k := by
      rcases Nat.lt_or_ge i k with h' | h'
      · exact h'
      · have := hr i h' hi; omega
    refine ⟨by omega, ?_⟩
    by_cases e : i = k - 1
    · subst e; exact h2
    · have h3 := canon_sorted h (k - 1) i (by omega) (by omega)
      have h4 := hl (k - 1) (by omega)
      omega
  · rintro ⟨h1, h2⟩
    exact ⟨k - 1, by omega, hl _ (by omega), h2⟩

theorem A_mono {lo : Int} {l : List R} (h : Canon lo l) (i j : Nat) (hij : i ≤ j) (hj : j < l.length) : A l i ≤ A l j := by
  by_cases e : i = j
  · subst e; exact Int.le_refl _
  · have h1 := canon_sorted h j i (by omega) hj
    have h2 := canon_index h i (by omega)
    omega

end Go.Proofs.Qxb6630674a.Pl
