import Derived.Test.Qxb6630796aBlocks
import Derived.Test.Qxb6630796aPlain
namespace Go.Proofs.Qxb6630796a
open Go.RowKit
set_option linter.unusedVariables false
set_option linter.unusedSimpArgs false

/-- one variable among the cells of a row -/
def ElX (xs : List Value) (o l : Nat) : Prop :=
  ∃ (nm ty : ByteArray) (wa : Option Addr) (wc : Nat) (tk : Bool), xs[o]? = some (.string nm) ∧ xs[o + 1]? = some (.slice wa l wc) ∧ xs[o + 2]? = some (.string ty) ∧ xs[o + 3]? = some (.bool tk) ∧ nm.size ≤ maxLen ∧ ty.size ≤ maxLen ∧ l ≤ maxLen

theorem ElX.set {xs : List Value} {o l i : Nat} (h : ElX xs o l) (hi : i < o ∨ o + 3 < i) (u : Value) : ElX (xs.set i u) o l := by
  obtain ⟨nm, ty, wa, wc, tk, h0, h1, h2, h3, r⟩ := h
  exact ⟨nm, ty, wa, wc, tk, by rw [List.getElem?_set_ne (by omega)]; exact h0, by rw [List.getElem?_set_ne (by omega)]; exact h1, by rw [List.getElem?_set_ne (by omega)]; exact h2, by rw [List.getElem?_set_ne (by omega)]; exact h3, r⟩
theorem ElX.append {xs ys : List Value} {o l : Nat} (h : ElX xs o l) : ElX (xs ++ ys) o l := by
  obtain ⟨nm, ty, wa, wc, tk, h0, h1, h2, h3, r⟩ := h
  have lt : ∀ {i : Nat} {v : Value}, xs[i]? = some v → (xs ++ ys)[i]? = some v := fun {i v} h => by
    rw [List.getElem?_append_left (by rcases Nat.lt_or_ge i xs.length with h' | h'; exact h'; simp [List.getElem?_eq_none h'] at h)]
    exact h
  exact ⟨nm, ty, wa, wc, tk, lt h0, lt h1, lt h2, lt h3, r⟩

theorem vz_of_own {w : World} {base g n cap : Nat} {xs : List Value} {L : Nat → Nat} (h : w.ownsRow base 37 4 (.slice (some ⟨g, 0, none⟩) n cap) n xs) (hx : ∀ j, j < n → ElX xs (j * 4) (L j)) : Vz w (.slice (some ⟨g, 0, none⟩) n cap) n L := by
  have hc : n ≤ cap ∧ cap ≤ maxLen := by
    rcases h.2 with ⟨h', _⟩ | ⟨g', cap', cur, h', _, _, h1, h2, _⟩
    · simp at h'
    · simp only [Value.slice.injEq, Option.some.injEq, Addr.mk.injEq, and_true, true_and] at h'
      obtain ⟨rfl, rfl⟩ := h'
      exact ⟨h1, h2⟩
  refine ⟨_, _, rfl, hc.1, hc.2, fun _ => ⟨g, 0, rfl, (h.lt g rfl).2, fun i hi => ?_⟩⟩
  obtain ⟨nm, ty, wa, wc, tk, h0, h1, h2, h3, r⟩ := hx i hi
  refine ⟨nm, ty, wa, wc, tk, ?_, ?_, ?_, ?_, r⟩
  · rw [Nat.zero_add, h.cellAt _ (by omega)]; exact h0
  · rw [Nat.zero_add, h.cellAt _ (by omega)]; exact h1
  · rw [Nat.zero_add, h.cellAt _ (by omega)]; exact h2
  · rw [Nat.zero_add, h.cellAt _ (by omega)]; exact h3

def LaidV (w : World) (g n : Nat) (L : Nat → Nat) (k : Nat) : Prop := ∃ xs, w.ownsRow g 37 4 (.slice (some ⟨g, 0, none⟩) n n) n xs ∧ ∀ j, j < k → ElX xs (j * 4) (L j)
theorem LaidV.ow {w : World} {g n k : Nat} {L : Nat → Nat} (h : LaidV w g n L k) : Ow w 37 4 g n := by obtain ⟨xs, h, _⟩ := h; exact ⟨xs, h⟩
theorem LaidV.below {w w' : World} {g n k : Nat} {L : Nat → Nat} (h : LaidV w g n L k) (hb : Below w.heap.size w w') : LaidV w' g n L k := by
  obtain ⟨xs, h, r⟩ := h; exact ⟨xs, h.kept (below_grown hb) (Or.inr (by simp [Value.ownBlock])), r⟩
theorem LaidV.step {w : World} {g n k : Nat} {L : Nat → Nat} (h : LaidV w g n L k) (hk : k < n) {nm ty : ByteArray} {wa : Option Addr} {wc : Nat} {tk : Bool} (r : nm.size ≤ maxLen ∧ ty.size ≤ maxLen ∧ L k ≤ maxLen) :
    LaidV ((((w.setCell ⟨g, k * 4, none⟩ (.string nm)).setCell ⟨g, k * 4 + 1, none⟩ (.slice wa (L k) wc)).setCell ⟨g, k * 4 + 2, none⟩ (.string ty)).setCell ⟨g, k * 4 + 3, none⟩ (.bool tk)) g n L (k + 1) := by
  obtain ⟨xs, h, hx⟩ := h
  have s1 := (h.stored (k * 4) (.string nm)).1
  have s2 := (s1.stored (k * 4 + 1) (.slice wa (L k) wc)).1
  have s3 := (s2.stored (k * 4 + 2) (.string ty)).1
  have s4 := (s3.stored (k * 4 + 3) (.bool tk)).1
  refine ⟨_, s4, fun j hj => ?_⟩
  have hl := h.1
  by_cases e : j = k
  · subst e
    refine ⟨nm, ty, wa, wc, tk, ?_, ?_, ?_, ?_, r⟩
    · rw [List.getElem?_set_ne (by omega), List.getElem?_set_ne (by omega), List.getElem?_set_ne (by omega), List.getElem?_set_self (by omega)]
    · rw [List.getElem?_set_ne (by omega), List.getElem?_set_ne (by omega), List.getElem?_set_self (by simp; omega)]
    · rw [List.getElem?_set_ne (by omega), List.getElem?_set_self (by simp; omega)]
    · rw [List.getElem?_set_self (by simp; omega)]
  · exact ((((hx j (by omega)).set (by omega) _).set (by omega) _).set (by omega) _).set (by omega) _

/-- a Func behind a pointer: its variables and its Params -/
def FuncAt (w : World) (p n : Nat) (L : Nat → Nat) (P : Int) : Prop := ∃ vs, w.cell? ⟨p, 1, none⟩ = some vs ∧ w.cell? ⟨p, 3, none⟩ = some (.int .i64 P) ∧ Vz w vs n L
theorem FuncAt.below {w w' : World} {p n : Nat} {L : Nat → Nat} {P : Int} (h : FuncAt w p n L P) (hb : Below w.heap.size w w') : FuncAt w' p n L P := by
  obtain ⟨vs, h1, h2, h3⟩ := h; exact ⟨vs, cell_on hb h1, cell_on hb h2, h3.below hb⟩
theorem func_box {w : World} {n : Nat} {L : Nat → Nat} {P : Int} {vs v0 v2 : Value} (h : Vz w vs n L) : FuncAt (w.alloc (.cells #[v0, vs, v2, .int .i64 P] 42)) w.heap.size n L P :=
  ⟨vs, (cell_of_row _ _ 1 _ 42 (0, 0) (heap_alloc_new w _)).trans rfl, (cell_of_row _ _ 3 _ 42 (0, 0) (heap_alloc_new w _)).trans rfl, h.below (ball _ _)⟩

def FuncOut (e : Ending) (w' : World) (n : Nat) (L : Nat → Nat) (P : Int) : Prop := ∃ p, e = .returned (.pointer (some ⟨p, 0, none⟩)) ∧ FuncAt w' p n L P

set_option maxRecDepth 100000 in
set_option maxHeartbeats 1000000 in
theorem func_any (a : ByteArray) (vv vb : Value) (n m : Nat) (L K : Nat → Nat) (P : Int) (hn : n ≤ 1048576) (hm : m ≤ 1048576) (hK : ∀ i, i < m → K i ≤ 1048576) (w : World) (hv : Vz w vv n L) (hb : Bz w vb m K) :
    Calls Try.prog 8 #[.string a, vv, vb, .int .i64 P] w fun e w' => FuncOut e w' n L P ∧ Below w.heap.size w w' := by
  have hsh : ∃ x y z, vb = .slice x y z := by obtain ⟨x, z, h, _⟩ := hb; exact ⟨_, _, _, h⟩
  obtain ⟨xb, yb, zb, rfl⟩ := hsh
  have HBZ := hidI hb
  have HK := hidI hK
  clear hb hK
  obtain ⟨av, cv, rfl, hv1, hv2, hv3⟩ := hv
  unfold maxLen at hv2
  have hneq := fun wx => Go.run_neq_slice_nil_any (P := Try.prog) wx 22 28 av n cv 0 0 Try.underlying22
  cases av with
  | none =>
    have hn0 : n = 0 := by
      rcases Nat.eq_zero_or_pos n with h | h
      · exact h
      · obtain ⟨b, off, h', _⟩ := hv3 h; cases h'
    have HVN := hidI (show ∀ wx, Vz wx (.slice none 0 0) n L from fun wx => ⟨none, 0, by rw [hn0], by omega, by unfold maxLen; omega, fun h => by omega⟩)
    clear hn0 hv3
    go_enter Try.func8, Try.ntmps8
    go_wp2_with fail
    refine (blocks_any _ m K hm HK.out _ HBZ.out).mono ?_
    rintro e w2 ⟨⟨x, y, z, rfl⟩, b2⟩
    have HF := hidI (func_box (v0 := .string a) (v2 := .slice x y z) (P := P) (HVN.out w2))
    have HB2 := hidI (bstep b2 (ball w2 (.cells #[.string a, .slice none 0 0, .slice x y z, .int .i64 P] 42)))
    clear b2
    go_wp2
    go_ret
    exact ⟨⟨_, rfl, HF.out⟩, HB2.out⟩
  | some ad =>
    obtain ⟨cs37, hcs37, hmk⟩ := run_make_ex 36 37 z37 4 64 Try.underlying36 Try.info37 n (by omega) (by omega)
    have hst := hidI (show LaidV (w.alloc (.cells cs37 37)) w.heap.size n L 0 from by obtain ⟨xs, h⟩ := Ow.made w 37 4 n cs37 hcs37 (by unfold maxLen; omega); exact ⟨xs, h, fun j h => by omega⟩)
    have hst2 := hidI (ball w (.cells cs37 37))
    have HV := hidI hv3
    clear hv3 hcs37
    go_enter Try.func8, Try.ntmps8
    go_wp2
    clear hmk hneq
    go_loopw [10] (fun i wr => ∃ k : Nat, k ≤ n ∧ i = .int .i64 k ∧ Hid (LaidV wr w.heap.size n L k) ∧ Hid (Below w.heap.size w wr)) (fun i _ => n - (intOf i).toNat)
    case atStart => exact ⟨0, Nat.zero_le _, rfl, hst, hst2⟩
    case round =>
      obtain ⟨k, hk, rfl, how, hbel⟩ := hrel
      by_cases hlt : k < n
      · obtain ⟨b, off, hAd, hbl, hel⟩ := HV.out (by omega)
        obtain rfl : ad = ⟨b, off, none⟩ := by injection hAd
        obtain ⟨nm, ty, wa, wc, tk, h0, h1, h2, h3, h4⟩ := hel k hlt
        have h0 := cell_on hbel.out h0
        have h1 := cell_on hbel.out h1
        have h2 := cell_on hbel.out h2
        have h3 := cell_on hbel.out h3
        have H4 := hidI h4
        have hki : (k : Int) < (n : Int) := by omega
        clear hel hAd h4
        go_wp2_with fail
        refine (var_any nm ty wa (L k) wc tk _).mono ?_
        rintro e w2 ⟨rfl, b2⟩
        have how2 := hidI (how.out.below b2)
        have hb2 := hidI (bstep hbel.out b2)
        obtain ⟨x0, y0⟩ := how2.out.ow.cell (j := k * 4) (by omega)
        obtain ⟨x1, y1⟩ := how2.out.ow.cell (j := k * 4 + 1) (by omega)
        obtain ⟨x2, y2⟩ := how2.out.ow.cell (j := k * 4 + 2) (by omega)
        obtain ⟨x3, y3⟩ := how2.out.ow.cell (j := k * 4 + 3) (by omega)
        have z0 := how2.out.ow.frozen (k * 4)
        have z1 := how2.out.ow.frozen (k * 4 + 1)
        have z2 := how2.out.ow.frozen (k * 4 + 2)
        have z3 := how2.out.ow.frozen (k * 4 + 3)
        have HO := hidI (how2.out.step hlt (nm := nm) (ty := ty) (wa := wa) (wc := wc) (tk := tk) H4.out)
        have HBB := hidI ((((hb2.out.setCell (p := ⟨w.heap.size, k * 4, none⟩) (Nat.le_refl _) (.string nm)).setCell (p := ⟨w.heap.size, k * 4 + 1, none⟩) (Nat.le_refl _) (.slice wa (L k) wc)).setCell (p := ⟨w.heap.size, k * 4 + 2, none⟩) (Nat.le_refl _) (.string ty)).setCell (p := ⟨w.heap.size, k * 4 + 3, none⟩) (Nat.le_refl _) (.bool tk))
        clear b2 h0 h1 h2 h3
        go_wp2
        go_roundw
        case rel => exact ⟨k + 1, by omega, by go_num, HO, HBB⟩
        case measure => simp [intOf]; omega
      · have HVZ := hidI (show Vz wr (.slice (some ⟨w.heap.size, 0, none⟩) n n) n L from by
          obtain ⟨xs, h1, h2⟩ := how.out
          exact vz_of_own h1 (fun j hj => h2 j (by omega)))
        go_wp2_with fail
        refine (blocks_any _ m K hm HK.out _ (HBZ.out.below hbel.out)).mono ?_
        rintro e w2 ⟨⟨x, y, z, rfl⟩, b2⟩
        have HF := hidI (func_box (v0 := .string a) (v2 := .slice x y z) (P := P) (HVZ.out.below b2))
        have HB2 := hidI (bstep (bstep hbel.out b2) (ball w2 (.cells #[.string a, .slice (some ⟨w.heap.size, 0, none⟩) n n, .slice x y z, .int .i64 P] 42)))
        clear b2
        go_wp2
        go_ret
        exact ⟨⟨_, rfl, HF.out⟩, HB2.out⟩
end Go.Proofs.Qxb6630796a
