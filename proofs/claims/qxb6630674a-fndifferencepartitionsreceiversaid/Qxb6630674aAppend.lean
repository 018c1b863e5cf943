import Derived.Test.Qxb6630674aMake
namespace Go.Proofs.Qxb6630674a
open Go.RowKit
set_option linter.unusedSimpArgs false

def cs (l : List Pl.R) : List Value := l.flatMap fun r => [.int .i32 r.1, .int .i32 r.2]
theorem cs_append (l : List Pl.R) (r : Pl.R) : cs (l ++ [r]) = cs l ++ [.int .i32 r.1, .int .i32 r.2] := by simp [cs]
theorem cs_length (l : List Pl.R) : (cs l).length = l.length * 2 := by
  induction l with
  | nil => rfl
  | cons r l ih => simp only [cs, List.flatMap_cons, List.length_append, List.length_cons, List.length_nil] at ih ⊢; omega
theorem cs_get (l : List Pl.R) : ∀ i, i < l.length → (cs l)[i * 2]? = some (.int .i32 (Pl.A l i)) ∧ (cs l)[i * 2 + 1]? = some (.int .i32 (Pl.B l i)) := by
  induction l with
  | nil => intro i h; simp at h
  | cons r l ih =>
    intro i hi
    cases i with
    | zero => exact ⟨rfl, rfl⟩
    | succ i =>
      have := ih i (by simpa using hi)
      have e : cs (r :: l) = .int .i32 r.1 :: .int .i32 r.2 :: cs l := rfl
      rw [e, show (i + 1) * 2 = i * 2 + 1 + 1 from by omega]
      exact this

/-- What has been gathered so far lies in a row of the call's own. -/
def Out (w : World) (base : Nat) (v : Value) (l : List Pl.R) : Prop := w.ownsRow base 38 2 v l.length (cs l)

theorem run_append38 (base : Nat) (ty : TypeId) (v : Value) (l : List Pl.R) (w : World) (hown : Out w base v l) (ad : Addr) (c : Nat) (p q : Int)
    (h0 : w.cell? ad = some (.int .i32 p)) (h1 : w.cell? (ad.add 1) = some (.int .i32 q)) (hl : l.length ≤ 1000000) (hbase : base ≤ w.heap.size) :
    ∃ v' w', (Builtin.append_ #[25, 25] ty #[v, .slice (some ad) 1 c]).run Try.prog w = .ok v' w' ∧ Out w' base v' (l ++ [(p, q)]) ∧ w.grownBy w' v.ownBlock ∧
      (∀ k, k < w.heap.size → v.ownBlock ≠ some k → v'.ownBlock ≠ some k) := by
  obtain ⟨i, hi, hz, hs, hb⟩ := info_parts Try.info38
  have hnews : ∀ j u, ([.int .i32 p, .int .i32 q] : List Value)[j]? = some u → w.cell? (ad.add j) = some u := by
    intro j u hj
    match j, hj with
    | 0, hj =>
      simp at hj
      subst hj
      have e : ad.add 0 = ad := by obtain ⟨b, o, s⟩ := ad; cases s <;> simp [Addr.add]
      rw [e]; exact h0
    | 1, hj => simp at hj; subst hj; exact h1
  obtain ⟨v', w', hr, r1, r2, _⟩ := run_append_own (P := Try.prog) w base 25 ty 38 i _ 2 8 Try.underlying25 hi hz hs hb rfl (by decide) v l.length (cs l) hown ad 1 c
    [.int .i32 p, .int .i32 q] rfl hnews (by intro u hu; simp at hu; rcases hu with rfl | rfl <;> rfl) (by unfold maxLen; omega) (by omega) hbase
  refine ⟨v', w', hr, by unfold Out; rw [cs_append, List.length_append]; exact r1, r2, fun k hk hne => ?_⟩
  have hnl : ([.int .i32 p, .int .i32 q] : List Value).length = 1 * i.size := by rw [hs]; rfl
  rcases hown.2 with ⟨rfl, hl0⟩ | ⟨g, cap, cur, rfl, hbg, hg, hnc, hcm, hcs, htake⟩
  · have h2 := run_append_nil (P := Try.prog) w 25 ty 38 i _ Try.underlying25 hi hz ad 1 c _ hnl hnews (by omega) (by omega) (by rw [hb]; omega)
    rw [h2] at hr
    injection hr with e1 e2
    subst e1
    simp only [Value.ownBlock, ne_eq, Option.some.injEq]
    omega
  · by_cases hroom : l.length + 1 ≤ cap
    · have h2 := run_append_room (P := Try.prog) w 25 ty 38 i Try.underlying25 hi g l.length cap cur hg ad 1 c _ hnl hnews (by intro u hu; simp at hu; rcases hu with rfl | rfl <;> rfl) hroom
        (by rw [hs, hcs]; simp only [List.length_cons, List.length_nil]; omega)
      rw [h2] at hr
      injection hr with e1 e2
      subst e1
      simpa [Value.ownBlock] using hne
    · have h2 := run_append_grow (P := Try.prog) w 25 ty 38 i _ Try.underlying25 hi hz ⟨g, 0, none⟩ l.length cap (cs l) (by rw [hs]; exact cs_length l) (World.ownsRow.cells hown rfl) ad 1 c _ hnl hnews (by omega) (by omega)
        (growslice_fits (by omega) (by rw [hb]; omega))
      rw [h2] at hr
      injection hr with e1 e2
      subst e1
      simp only [Value.ownBlock, ne_eq, Option.some.injEq]
      omega

theorem wpList_append38 {ops : Array Oper} {rest : List Oper} {o : Oper} {a : Act} {Q : Exit → Act → World → Prop} {w : World} (hgd : o.guard = none) (s x : Operand)
    (ho : o.op = .call { callee := .builtin .append, args := #[s, x], argTypes := #[25, 25] }) (base : Nat) (v : Value) (l : List Pl.R) (hs : a.eval s = v) (hown : Out w base v l)
    (ad : Addr) (c : Nat) (p q : Int) (hx : a.eval x = .slice (some ad) 1 c) (h0 : w.cell? ad = some (.int .i32 p)) (h1 : w.cell? (ad.add 1) = some (.int .i32 q)) (hl : l.length ≤ 1000000) (hbase : base ≤ w.heap.size)
    (h : ∀ v' w', Out w' base v' (l ++ [(p, q)]) → w.grownBy w' v.ownBlock → (∀ k, k < w.heap.size → v.ownBlock ≠ some k → v'.ownBlock ≠ some k) → wpList Try.prog ops Q rest (a.put o.dst v') w') :
    wpList Try.prog ops Q (o :: rest) a w := by
  refine wpList_plain hgd fun _ hK => ?_
  obtain ⟨v', w', hr, h2, h3, h4⟩ := run_append38 base o.type v l w hown ad c p q h0 h1 hl hbase
  unfold Oper.wp execOp
  simp only [ho, resolve, invoke, builtin, Sem.run_bind, Sem.run_pure, Result.andThen_ok, List.map_toArray, List.map_cons, List.map_nil, hs, hx, hr]
  exact hK _ _ (h v' w' h2 h3 h4)

theorem Out.alloc {w : World} {base : Nat} {v : Value} {l : List Pl.R} (h : Out w base v l) (o : Obj) : Out (w.alloc o) base v l := World.ownsRow.alloc h o
theorem Out.setCell {w : World} {base : Nat} {v : Value} {l : List Pl.R} (h : Out w base v l) {a : Addr} (ha : v.ownBlock ≠ some a.block) (u : Value) : Out (w.setCell a u) base v l := ownsRow_setCell_other h ha u
theorem Out.lt {w : World} {base : Nat} {v : Value} {l : List Pl.R} (h : Out w base v l) : v.ownBlock ≠ some w.heap.size := by
  intro e; have := (World.ownsRow.lt h _ e).2; omega
theorem Out.base {w : World} {base : Nat} {v : Value} {l : List Pl.R} (h : Out w base v l) : ∀ k, v.ownBlock = some k → base ≤ k := fun k e => (World.ownsRow.lt h k e).1

/-- 'append(out, Range{p, q})': the one-element slice lies in a block of its own, laid last. -/
theorem wpList_append38' {ops : Array Oper} {rest : List Oper} {o : Oper} {a : Act} {Q : Exit → Act → World → Prop} {W : World} (p q : Int) (hgd : o.guard = none) (s x : Operand)
    (ho : o.op = .call { callee := .builtin .append, args := #[s, x], argTypes := #[25, 25] }) (base : Nat) (v : Value) (l : List Pl.R) (hs : a.eval s = v) (hown : Out W base v l)
    (g c : Nat) (hg : g = W.heap.size) (hx : a.eval x = .slice (some ⟨g, 0, none⟩) 1 c) (hl : l.length ≤ 1000000) (hbase : base ≤ W.heap.size)
    (h : ∀ v' w', Out w' base v' (l ++ [(p, q)]) → (∀ B A0, Below B A0 W → B ≤ base → Below B A0 w') → (∀ k, k < W.heap.size → v.ownBlock ≠ some k → w'.heap[k]? = W.heap[k]? ∧ v'.ownBlock ≠ some k) →
      W.heap.size ≤ w'.heap.size → wpList Try.prog ops Q rest (a.put o.dst v') w') :
    wpList Try.prog ops Q (o :: rest) a (W.alloc (.cells #[.int .i32 p, .int .i32 q] 38)) := by
  subst hg
  have hnew := heap_alloc_new W (.cells #[.int .i32 p, .int .i32 q] 38)
  refine wpList_append38 hgd s x ho base v l hs (hown.alloc _) ⟨W.heap.size, 0, none⟩ c p q hx ((cell_of_row _ _ 0 _ 38 (0, 0) hnew).trans rfl) ((cell_of_row _ _ 1 _ 38 (0, 0) hnew).trans rfl) hl (by simp; omega) fun v' w' h1 h2 h3 => ?_
  have hsz := h2.size
  simp at hsz
  refine h v' w' h1 (fun B A0 hb hle => ?_) (fun k hk hne => ⟨?_, h3 k (by simp; omega) hne⟩) (by omega)
  · exact (hb.alloc (by omega) _).grown h2 (by simp; omega) (fun k hk => by have := (hown.base k hk); omega)
  · rw [h2.block k (by simp; omega) (fun e => hne e.symm)]
    exact Below.heap_alloc W _ k hk

theorem out_rs {w : World} {base : Nat} {v : Value} {l : List Pl.R} (h : Out w base v l) (_hl : l.length ≤ 1000000) : Rs w v l := by
  rcases h.2 with ⟨rfl, hl0⟩ | ⟨g, cap, cur, rfl, hbg, hg, hnc, hcm, hcs, htake⟩
  · exact ⟨none, 0, by rw [hl0], by omega, by unfold maxLen; omega, fun h => by omega⟩
  · refine ⟨some ⟨g, 0, none⟩, cap, rfl, hnc, hcm, fun _ => ⟨g, 0, rfl, (World.ownsRow.lt h g rfl).2, fun i hi => ?_⟩⟩
    have h2 := cs_get l i hi
    rw [World.ownsRow.cellAt h _ (by omega), World.ownsRow.cellAt h _ (by omega)]
    simpa using h2

end Go.Proofs.Qxb6630674a
