/-
  THE PLAIN MATHEMATICS of a frame's two areas: no Go in sight.
-/
import Derived.Below
namespace Go.Proofs.Qxb6630796a.Pl
set_option linter.unusedVariables false

/-- words of the first j variables that are parameters (index below P) -/
def pa (L : Nat → Nat) (P : Int) : Nat → Nat
  | 0 => 0
  | j + 1 => pa L P j + if (j : Int) < P then L j else 0
/-- words of the first j variables that are locals -/
def pl (L : Nat → Nat) (P : Int) : Nat → Nat
  | 0 => 0
  | j + 1 => pl L P j + if (j : Int) < P then 0 else L j
/-- all words of the first j -/
def S (L : Nat → Nat) : Nat → Nat
  | 0 => 0
  | j + 1 => S L j + L j
/-- variable j's offset in its own area -/
def off (L : Nat → Nat) (P : Int) (j : Nat) : Nat := if (j : Int) < P then pa L P j else pl L P j

theorem pa_pl (L : Nat → Nat) (P : Int) (j : Nat) : pa L P j + pl L P j = S L j := by
  induction j with
  | zero => rfl
  | succ j ih => simp only [pa, pl, S]; split <;> omega
theorem pa_succ_yes {L : Nat → Nat} {P : Int} {j : Nat} (h : (j : Int) < P) : pa L P (j + 1) = pa L P j + L j := by simp [pa, h]
theorem pa_succ_no {L : Nat → Nat} {P : Int} {j : Nat} (h : ¬ (j : Int) < P) : pa L P (j + 1) = pa L P j := by simp [pa, h]
theorem pl_succ_yes {L : Nat → Nat} {P : Int} {j : Nat} (h : (j : Int) < P) : pl L P (j + 1) = pl L P j := by simp [pl, h]
theorem pl_succ_no {L : Nat → Nat} {P : Int} {j : Nat} (h : ¬ (j : Int) < P) : pl L P (j + 1) = pl L P j + L j := by simp [pl, h]
theorem pa_mono (L : Nat → Nat) (P : Int) {i j : Nat} (h : i ≤ j) : pa L P i ≤ pa L P j := by
  induction j with
  | zero => obtain rfl : i = 0 := by omega
            exact Nat.le_refl _
  | succ j ih =>
    by_cases e : i = j + 1
    · subst e; exact Nat.le_refl _
    · have := ih (by omega); simp only [pa]; omega
theorem pl_mono (L : Nat → Nat) (P : Int) {i j : Nat} (h : i ≤ j) : pl L P i ≤ pl L P j := by
  induction j with
  | zero => obtain rfl : i = 0 := by omega
            exact Nat.le_refl _
  | succ j ih =>
    by_cases e : i = j + 1
    · subst e; exact Nat.le_refl _
    · have := ih (by omega); simp only [pl]; omega
theorem S_mono (L : Nat → Nat) {i j : Nat} (h : i ≤ j) : S L i ≤ S L j := by
  induction j with
  | zero => obtain rfl : i = 0 := by omega
            exact Nat.le_refl _
  | succ j ih =>
    by_cases e : i = j + 1
    · subst e; exact Nat.le_refl _
    · have := ih (by omega); simp only [S]; omega
theorem L_le (L : Nat → Nat) {i n : Nat} (h : i < n) : L i ≤ S L n := by
  have := S_mono L (show i + 1 ≤ n from h)
  simp only [S] at this
  omega
theorem pa_le (L : Nat → Nat) (P : Int) (j : Nat) : pa L P j ≤ S L j := by have := pa_pl L P j; omega
theorem pl_le (L : Nat → Nat) (P : Int) (j : Nat) : pl L P j ≤ S L j := by have := pa_pl L P j; omega

/-! ### a variable of z words put in at k -/
def ins (L : Nat → Nat) (k z : Nat) (i : Nat) : Nat := if i < k then L i else if i = k then z else L (i - 1)

section
variable {L : Nat → Nat} {P Q : Int} {k z n : Nat}

/-- which side the other variables lie on is kept -/
def Sides (P Q : Int) (k n : Nat) : Prop := (∀ i : Nat, i < k → ((i : Int) < Q ↔ (i : Int) < P)) ∧ (∀ i : Nat, k ≤ i → i < n → (((i : Int) + 1 < Q) ↔ (i : Int) < P)) ∧ ((k : Int) < Q ↔ (k : Int) < P)

theorem ins_low (h : Sides P Q k n) (hk : k ≤ n) : ∀ j, j ≤ k → pa (ins L k z) Q j = pa L P j ∧ pl (ins L k z) Q j = pl L P j := by
  intro j
  induction j with
  | zero => intro _; exact ⟨rfl, rfl⟩
  | succ j ih =>
    intro hj
    obtain ⟨h1, h2⟩ := ih (by omega)
    have e := h.1 j (by omega)
    have ei : ins L k z j = L j := by simp [ins]; omega
    simp only [pa, pl, ei, h1, h2]
    by_cases c : (j : Int) < P
    · rw [if_pos c, if_pos (e.2 c), if_pos c, if_pos (e.2 c)]; exact ⟨rfl, rfl⟩
    · rw [if_neg c, if_neg (fun c' => c (e.1 c')), if_neg c, if_neg (fun c' => c (e.1 c'))]; exact ⟨rfl, rfl⟩

theorem ins_high (h : Sides P Q k n) (hk : k ≤ n) : ∀ d, k + d ≤ n → pa (ins L k z) Q (k + d + 1) = pa L P (k + d) + (if (k : Int) < P then z else 0) ∧ pl (ins L k z) Q (k + d + 1) = pl L P (k + d) + (if (k : Int) < P then 0 else z) := by
  intro d
  induction d with
  | zero =>
    intro _
    obtain ⟨h1, h2⟩ := ins_low (L := L) (z := z) h hk k (Nat.le_refl _)
    have ei : ins L k z k = z := by simp [ins]
    simp only [Nat.add_zero, pa, pl, ei, h1, h2]
    by_cases c : (k : Int) < P
    · rw [if_pos c, if_pos (h.2.2.2 c), if_pos c, if_pos (h.2.2.2 c)]; exact ⟨rfl, rfl⟩
    · rw [if_neg c, if_neg (fun c' => c (h.2.2.1 c')), if_neg c, if_neg (fun c' => c (h.2.2.1 c'))]; exact ⟨rfl, rfl⟩
  | succ d ih =>
    intro hd
    obtain ⟨h1, h2⟩ := ih (by omega)
    have e := h.2.1 (k + d) (by omega) (by omega)
    have ei : ins L k z (k + d + 1) = L (k + d) := by
      unfold ins
      rw [if_neg (by omega), if_neg (by omega)]
      rfl
    have e1 : pa (ins L k z) Q (k + (d + 1) + 1) = pa (ins L k z) Q (k + d + 1) + if ((k + d + 1 : Nat) : Int) < Q then ins L k z (k + d + 1) else 0 := rfl
    have e2 : pl (ins L k z) Q (k + (d + 1) + 1) = pl (ins L k z) Q (k + d + 1) + if ((k + d + 1 : Nat) : Int) < Q then 0 else ins L k z (k + d + 1) := rfl
    have e3 : pa L P (k + (d + 1)) = pa L P (k + d) + if ((k + d : Nat) : Int) < P then L (k + d) else 0 := rfl
    have e4 : pl L P (k + (d + 1)) = pl L P (k + d) + if ((k + d : Nat) : Int) < P then 0 else L (k + d) := rfl
    rw [e1, e2, e3, e4, h1, h2, ei]
    have ec : ((k + d + 1 : Nat) : Int) = ((k + d : Nat) : Int) + 1 := by omega
    rw [ec]
    by_cases c : ((k + d : Nat) : Int) < P
    · rw [if_pos c, if_pos (e.2 c), if_pos c, if_pos (e.2 c)]; exact ⟨by omega, by omega⟩
    · rw [if_neg c, if_neg (fun c' => c (e.1 c')), if_neg c, if_neg (fun c' => c (e.1 c'))]; exact ⟨by omega, by omega⟩

/-- offsets before k are kept -/
theorem off_low (h : Sides P Q k n) (hk : k ≤ n) {i : Nat} (hi : i < k) : off (ins L k z) Q i = off L P i := by
  obtain ⟨h1, h2⟩ := ins_low (L := L) (z := z) h hk i (by omega)
  unfold off
  rw [h1, h2]
  by_cases c : (i : Int) < P
  · rw [if_pos c, if_pos ((h.1 i hi).2 c)]
  · rw [if_neg c, if_neg (fun c' => c ((h.1 i hi).1 c'))]
/-- the new one lies where its area stood at k -/
theorem off_new (h : Sides P Q k n) (hk : k ≤ n) : off (ins L k z) Q k = off L P k := by
  obtain ⟨h1, h2⟩ := ins_low (L := L) (z := z) h hk k (Nat.le_refl _)
  unfold off
  rw [h1, h2]
  by_cases c : (k : Int) < P
  · rw [if_pos c, if_pos (h.2.2.2 c)]
  · rw [if_neg c, if_neg (fun c' => c (h.2.2.1 c'))]
/-- the later ones of its area move on by z -/
theorem off_high (h : Sides P Q k n) (hk : k ≤ n) {i : Nat} (hi : k ≤ i) (hn : i < n) : off (ins L k z) Q (i + 1) = off L P i + (if ((i : Int) < P ↔ (k : Int) < P) then z else 0) := by
  obtain ⟨d, rfl⟩ : ∃ d, i = k + d := ⟨i - k, by omega⟩
  obtain ⟨h1, h2⟩ := ins_high (L := L) (z := z) h hk d (by omega)
  have e := h.2.1 (k + d) hi hn
  have ec : ((k + d + 1 : Nat) : Int) = ((k + d : Nat) : Int) + 1 := by omega
  unfold off
  rw [ec, h1, h2]
  by_cases c : ((k + d : Nat) : Int) < P
  · rw [if_pos c, if_pos (e.2 c)]
    by_cases ck : (k : Int) < P
    · rw [if_pos ck, if_pos (iff_of_true c ck)]
    · rw [if_neg ck, if_neg (fun h' => ck (h'.1 c))]
  · rw [if_neg c, if_neg (fun c' => c (e.1 c'))]
    by_cases ck : (k : Int) < P
    · rw [if_pos ck, if_neg (fun h' => c (h'.2 ck))]
    · rw [if_neg ck, if_pos (iff_of_false c ck)]
theorem total_ins (h : Sides P Q k n) (hk : k ≤ n) : pa (ins L k z) Q (n + 1) = pa L P n + (if (k : Int) < P then z else 0) ∧ pl (ins L k z) Q (n + 1) = pl L P n + (if (k : Int) < P then 0 else z) := by
  have := ins_high (L := L) (z := z) h hk (n - k) (by omega)
  rw [show k + (n - k) = n from by omega] at this
  exact this
theorem S_ins (L : Nat → Nat) (z : Nat) {k n : Nat} (hk : k ≤ n) : S (ins L k z) (n + 1) = S L n + z := by
  have h := total_ins (L := L) (z := z) (P := -1) (Q := -1) (k := k) (n := n) ⟨fun i _ => by omega, fun i _ _ => by omega, by omega⟩ hk
  have e1 := pa_pl (ins L k z) (-1) (n + 1)
  have e2 := pa_pl L (-1) n
  rw [if_neg (by omega), if_neg (by omega)] at h
  omega
end

/-- Params moved by one where the new one is a parameter -/
theorem sides_arg {P : Int} {k n : Nat} (hk : k ≤ n) (h : (k : Int) < P) : Sides P (if (n : Int) < P then (n : Int) + 1 else P + 1) k n := by
  unfold Sides
  split
  · exact ⟨fun i hi => by omega, fun i h1 h2 => by omega, by omega⟩
  · exact ⟨fun i hi => by omega, fun i h1 h2 => by omega, by omega⟩
theorem sides_loc {P : Int} {k n : Nat} (hk : k ≤ n) (h : ¬ (k : Int) < P) : Sides P P k n :=
  ⟨fun i hi => by omega, fun i h1 h2 => by omega, by omega⟩

end Go.Proofs.Qxb6630796a.Pl
