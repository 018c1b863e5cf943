import Derived.Test.Qxb6630796aFunc
namespace Go.Proofs.Qxb6630796a
open Go.RowKit
set_option linter.unusedVariables false
set_option linter.unusedSimpArgs false

/-- variables gathered so far in a row of the call's own -/
def AppV (w : World) (g j cap : Nat) (L : Nat → Nat) : Prop := ∃ xs, w.ownsRow g 37 4 (.slice (some ⟨g, 0, none⟩) j cap) j xs ∧ ∀ t, t < j → ElX xs (t * 4) (L t)
theorem AppV.below {w w' : World} {g j cap : Nat} {L : Nat → Nat} (h : AppV w g j cap L) (hb : Below w.heap.size w w') : AppV w' g j cap L := by
  obtain ⟨xs, h, r⟩ := h; exact ⟨xs, h.kept (below_grown hb) (Or.inr (by simp [Value.ownBlock])), r⟩
theorem AppV.lt {w : World} {g j cap : Nat} {L : Nat → Nat} (h : AppV w g j cap L) : g < w.heap.size := by
  obtain ⟨xs, h, r⟩ := h; exact (h.lt g rfl).2
theorem AppV.done {w : World} {g n cap : Nat} {L : Nat → Nat} (h : AppV w g n cap L) : Vz w (.slice (some ⟨g, 0, none⟩) n cap) n L := by
  obtain ⟨xs, h, r⟩ := h; exact vz_of_own h r
theorem AppV.made (w : World) (n : Nat) (cs : Array Value) (hc : cs.size = n * 4) (hn : n ≤ maxLen) (L : Nat → Nat) : AppV (w.alloc (.cells cs 37)) w.heap.size 0 n L :=
  ⟨[], World.ownsRow_made w cs n (Nat.le_refl _) hn hc, fun t h => by omega⟩

theorem make_cap_ex (n : Nat) (h : n ≤ 2097152) : ∃ cs : Array Value, cs.size = (n + 1) * 4 ∧ ∀ w, (Instr.makeSlice 36 (.int .i64 0) (.int .i64 ((n : Int) + 1))).run Try.prog w = .ok (.slice (some ⟨w.heap.size, 0, none⟩) 0 (n + 1)) (w.alloc (.cells cs 37)) := by
  obtain ⟨i, hi, hz, hs, hby⟩ := info_parts Try.info37
  refine ⟨madeCells z37.cells ((n + 1) * 4), size_madeCells _ _, fun w => ?_⟩
  have := run_make (P := Try.prog) w 36 37 i _ Try.underlying36 hi hz .i64 .i64 0 ((n : Int) + 1) (by omega) (by omega) (by rw [hby]; omega) (by omega)
  rw [hs] at this
  rw [this]
  have e : ((n : Int) + 1).toNat = n + 1 := by omega
  rw [e]
  rfl

/-- 'append(vs, v)': within the capacity; the one-element slice lies in a block of its own, laid last. -/
theorem wpList_append37 {ops : Array Oper} {rest : List Oper} {o : Oper} {a : Act} {Q : Exit → Act → World → Prop} {W : World} (nm ty : ByteArray) (wa : Option Addr) (l wc : Nat) (tk : Bool) (hgd : o.guard = none) (s x : Operand)
    (ho : o.op = .call { callee := .builtin .append, args := #[s, x], argTypes := #[36, 36] }) (g j cap : Nat) (L : Nat → Nat) (hs : a.eval s = .slice (some ⟨g, 0, none⟩) j cap) (hown : AppV W g j cap L)
    (q c : Nat) (hq : q = W.heap.size) (hx : a.eval x = .slice (some ⟨q, 0, none⟩) 1 c) (hj : j + 1 ≤ cap) (hL : L j = l) (hr : nm.size ≤ maxLen ∧ ty.size ≤ maxLen ∧ l ≤ maxLen)
    (h : ∀ w', AppV w' g (j + 1) cap L → (∀ B A0, Below B A0 W → B ≤ g → Below B A0 w') → wpList Try.prog ops Q rest (a.put o.dst (.slice (some ⟨g, 0, none⟩) (j + 1) cap)) w') :
    wpList Try.prog ops Q (o :: rest) a (W.alloc (.cells #[.string nm, .slice wa l wc, .string ty, .bool tk] 37)) := by
  subst hq
  obtain ⟨xs, hown, hel⟩ := hown
  obtain ⟨i, hi, hz, hsz, hb⟩ := info_parts Try.info37
  have hnew := heap_alloc_new W (.cells #[.string nm, .slice wa l wc, .string ty, .bool tk] 37)
  have hgl := (hown.lt g rfl).2
  refine wpList_append_fits _ hgd s x 36 ho g 37 i 4 Try.underlying36 hi hsz g j cap xs hs (hown.alloc _) ⟨W.heap.size, 0, none⟩ 1 c [.string nm, .slice wa l wc, .string ty, .bool tk] hx rfl ?_ ?_ hj ?_
  · intro t u ht
    match t, ht with
    | 0, ht => simp at ht; subst ht; exact (cell_of_row _ _ 0 _ 37 (0, 0) hnew).trans rfl
    | 1, ht => simp at ht; subst ht; exact (cell_of_row _ _ 1 _ 37 (0, 0) hnew).trans rfl
    | 2, ht => simp at ht; subst ht; exact (cell_of_row _ _ 2 _ 37 (0, 0) hnew).trans rfl
    | 3, ht => simp at ht; subst ht; exact (cell_of_row _ _ 3 _ 37 (0, 0) hnew).trans rfl
  · intro u hu
    simp at hu
    rcases hu with rfl | rfl | rfl | rfl <;> rfl
  · intro w' h1 h2
    refine h w' ⟨_, h1, fun t ht => ?_⟩ (fun B A0 hb hle => (hb.alloc (by omega) _).grown h2 (by simp; omega) (fun k hk => by cases hk; omega))
    by_cases e : t = j
    · subst e
      have hl := hown.1
      have at' : ∀ (d : Nat) (v : Value), ([.string nm, .slice wa l wc, .string ty, .bool tk] : List Value)[d]? = some v → (xs ++ [.string nm, .slice wa l wc, .string ty, .bool tk])[t * 4 + d]? = some v := fun d v hv => by
        rw [List.getElem?_append_right (by omega), show t * 4 + d - xs.length = d from by omega]
        exact hv
      exact ⟨nm, ty, wa, wc, tk, by simpa using at' 0 _ rfl, by rw [hL]; exact at' 1 _ rfl, at' 2 _ rfl, at' 3 _ rfl, by rw [hL]; exact hr⟩
    · exact (hel t (by omega)).append

/-- the boxed variable that is put in -/
def BoxAt (w : World) (b : Nat) (nm ty : ByteArray) (wa : Option Addr) (l wc : Nat) (tk : Bool) : Prop :=
  w.cell? ⟨b, 0, none⟩ = some (.string nm) ∧ w.cell? ⟨b, 1, none⟩ = some (.slice wa l wc) ∧ w.cell? ⟨b, 2, none⟩ = some (.string ty) ∧ w.cell? ⟨b, 3, none⟩ = some (.bool tk)
theorem BoxAt.below {w w' : World} {b : Nat} {nm ty : ByteArray} {wa : Option Addr} {l wc : Nat} {tk : Bool} (h : BoxAt w b nm ty wa l wc tk) (hb : Below w.heap.size w w') : BoxAt w' b nm ty wa l wc tk :=
  ⟨cell_on hb h.1, cell_on hb h.2.1, cell_on hb h.2.2.1, cell_on hb h.2.2.2⟩
theorem box_new (w : World) (nm ty : ByteArray) (wa : Option Addr) (l wc : Nat) (tk : Bool) : BoxAt (w.alloc (.cells #[.string nm, .slice wa l wc, .string ty, .bool tk] 28)) w.heap.size nm ty wa l wc tk := by
  have h := heap_alloc_new w (.cells #[.string nm, .slice wa l wc, .string ty, .bool tk] 28)
  exact ⟨(cell_of_row _ _ 0 _ 28 (0, 0) h).trans rfl, (cell_of_row _ _ 1 _ 28 (0, 0) h).trans rfl, (cell_of_row _ _ 2 _ 28 (0, 0) h).trans rfl, (cell_of_row _ _ 3 _ 28 (0, 0) h).trans rfl⟩
theorem BoxAt.lt {w : World} {b : Nat} {nm ty : ByteArray} {wa : Option Addr} {l wc : Nat} {tk : Bool} (h : BoxAt w b nm ty wa l wc tk) : b < w.heap.size := World.block_lt_of_cell? w _ h.1

end Go.Proofs.Qxb6630796a
