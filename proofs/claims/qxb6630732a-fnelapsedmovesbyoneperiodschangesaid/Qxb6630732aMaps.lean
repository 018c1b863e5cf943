import Derived.Test.Qxb6630732aRows
import Derived.Test.Qxb6630732aPlain
import Derived.WalkKit
import Derived.WalkSpells
import Derived.Maps.OwnSet
namespace Go.Proofs.Qxb6630732a
open Go.RowKit Go.Maps
set_option linter.unusedVariables false

theorem hidI {p : Prop} (h : p) : Hid p := h
theorem law3 : Keyed Try.prog 3 := int_keyed Try.underlying3
theorem zero24 (w : World) : (zeroValue 24).run Try.prog w = .ok (.int .i64 0) w := by kernel_rfl

/-- What the walks are told of a map: what every look-up in it gives, in this world and in every later one in which nothing old has turned. -/
def Mp (w : World) (v : Value) (f : Int → Int) (h : Int → Bool) : Prop :=
  ∃ k : Nat, ∀ w', Below w.heap.size w w' →
    (∀ x, (Lit.int .i64 x).wf = true → (Instr.lookup 23 v (.int .i64 x) false).run Try.prog w' = .ok (.int .i64 (f x)) w' ∧
      (Instr.lookup 23 v (.int .i64 x) true).run Try.prog w' = .ok (.tuple #[.int .i64 (f x), .bool (h x)]) w' ∧ (h x = false → f x = 0) ∧ (Lit.int .i64 (f x)).wf = true) ∧
    ∀ ty, (Builtin.len_ #[23] ty #[v]).run Try.prog w' = .ok (.int .i64 k) w'

theorem Mp.below {w w' : World} {v : Value} {f : Int → Int} {h : Int → Bool} (m : Mp w v f h) (hb : Below w.heap.size w w') : Mp w' v f h := by
  obtain ⟨k, hk⟩ := m
  exact ⟨k, fun w'' hb' => hk w'' (hb.trans (hb'.mono hb.size))⟩

theorem mp_nil (w : World) : Mp w (.map none) (fun _ => 0) (fun _ => false) := by
  refine ⟨0, fun w' _ => ⟨fun x hx => ⟨?_, ?_, fun _ => rfl, show (Lit.int .i64 0).wf = true by decide⟩, fun ty => len_nil Try.underlying23 ty⟩⟩
  · exact look_nil false law3 Try.underlying23 (zero24 _) (keyOf_int_mk Try.underlying3 hx)
  · exact look_nil true law3 Try.underlying23 (zero24 _) (keyOf_int_mk Try.underlying3 hx)

theorem below_grown {w w' : World} (h : Below w.heap.size w w') : w.grownBy w' none := ⟨h.os, h.tape, h.output, h.size, fun k hk _ => h.block k hk⟩

def num {H : Type} : DataW H → Int
  | .lit (.int _ c) => c
  | _ => 0
def fOf {H : Type} (D : DataW H) (x : Int) : Int := num (D.atKey (.int .i64 x) (.lit (.int .i64 0)))
def hOf {H : Type} (D : DataW H) (x : Int) : Bool := Maps.has D (.int .i64 x)

theorem mp_own {H : Type} {w : World} {b n : Nat} {D : DataW H} (h : w.ownsMap Try.prog 3 (plainElem Try.prog 24) b n D) : Mp w (.map (some b)) (fOf D) (hOf D) := by
  refine ⟨Maps.size D, fun w' hb => ?_⟩
  have h' := h.kept (below_grown hb) (by simp)
  refine ⟨fun x hx => ?_, fun ty => h'.len Try.underlying23 ty⟩
  have hkey := keyOf_int_mk Try.underlying3 hx
  obtain ⟨c, hrun, hat, hwc⟩ := h'.lookup_int law3 Try.underlying23 Try.underlying24 (zero24 _) hkey
  obtain ⟨v, ps, hrun2, hv⟩ := h'.look_ok law3 Try.underlying23 (zero24 _) (plainElem_int Try.underlying24 (by decide)) hkey
  obtain ⟨c2, rfl, hc2, _⟩ := plainElem_int_inv Try.underlying24 hv
  have e1 : fOf D x = c := by unfold fOf; rw [hat]; rfl
  have e2 : c2 = c := by
    have := congrArg Prod.fst hc2
    simp only at this
    rw [hat] at this
    injection this with t
    injection t with _ t
    exact t.symm
  subst e2
  refine ⟨by rw [e1]; exact hrun, by rw [e1]; exact hrun2, fun hh => ?_, by rw [e1]; exact hwc⟩
  have h0 := atKey_of_not_has hh (.lit (.int .i64 0))
  unfold fOf
  rw [h0]
  rfl

/-! ### laws at the operations -/
theorem wpList_look {ops : Array Oper} {rest : List Oper} {o : Oper} {a : Act} {Q : Exit → Act → World → Prop} {w : World} (hg : o.guard = none) (m x : Operand) (c : Bool) (hop : o.op = Op.lookup 23 m x c)
    (v key r : Value) (hm : a.eval m = v) (hx : a.eval x = key) (hrun : (Instr.lookup 23 v key c).run Try.prog w = .ok r w) (hK : wpList Try.prog ops Q rest (a.put o.dst r) w) : wpList Try.prog ops Q (o :: rest) a w := by
  refine wpList_plain hg fun K' hK' => ?_
  unfold Oper.wp
  simp [execOp, hop, hm, hx, hrun, Result.andThen]
  exact hK' _ _ hK

theorem wpList_len {ops : Array Oper} {rest : List Oper} {o : Oper} {a : Act} {Q : Exit → Act → World → Prop} {w : World} (hg : o.guard = none) (m : Operand) (hop : o.op = Op.call { callee := Callee.builtin Builtin.len, args := #[m], argTypes := #[23] })
    (v : Value) (k : Nat) (hm : a.eval m = v) (hrun : ∀ ty, (Builtin.len_ #[23] ty #[v]).run Try.prog w = .ok (.int .i64 k) w) (hK : wpList Try.prog ops Q rest (a.put o.dst (.int .i64 k)) w) : wpList Try.prog ops Q (o :: rest) a w := by
  refine wpList_plain hg fun K' hK' => ?_
  unfold Oper.wp
  simp [execOp, hop, resolve, invoke, builtin, hm, hrun o.type, Result.andThen]
  exact hK' _ _ hK

theorem Mp.at {w : World} {v : Value} {f : Int → Int} {h : Int → Bool} (m : Mp w v f h) {w' : World} (hb : Below w.heap.size w w') {x : Int} (hx : (Lit.int .i64 x).wf = true) : (Instr.lookup 23 v (.int .i64 x) false).run Try.prog w' = .ok (.int .i64 (f x)) w' := by
  obtain ⟨k, hk⟩ := m; exact ((hk w' hb).1 x hx).1
theorem Mp.atOk {w : World} {v : Value} {f : Int → Int} {h : Int → Bool} (m : Mp w v f h) {w' : World} (hb : Below w.heap.size w w') {x : Int} (hx : (Lit.int .i64 x).wf = true) :
    (Instr.lookup 23 v (.int .i64 x) true).run Try.prog w' = .ok (.tuple #[.int .i64 (f x), .bool (h x)]) w' := by
  obtain ⟨k, hk⟩ := m; exact ((hk w' hb).1 x hx).2.1
theorem Mp.zero {w : World} {v : Value} {f : Int → Int} {h : Int → Bool} (m : Mp w v f h) {x : Int} (hx : (Lit.int .i64 x).wf = true) (e : h x = false) : f x = 0 := by
  obtain ⟨k, hk⟩ := m; exact ((hk w (Below.refl _ _)).1 x hx).2.2.1 e
theorem Mp.wf {w : World} {v : Value} {f : Int → Int} {h : Int → Bool} (m : Mp w v f h) {x : Int} (hx : (Lit.int .i64 x).wf = true) : (Lit.int .i64 (f x)).wf = true := by
  obtain ⟨k, hk⟩ := m; exact ((hk w (Below.refl _ _)).1 x hx).2.2.2
theorem Mp.len {w : World} {v : Value} {f : Int → Int} {h : Int → Bool} (m : Mp w v f h) : ∃ k : Nat, ∀ w', Below w.heap.size w w' → ∀ ty, (Builtin.len_ #[23] ty #[v]).run Try.prog w' = .ok (.int .i64 k) w' := by
  obtain ⟨k, hk⟩ := m; exact ⟨k, fun w' hb => (hk w' hb).2⟩

theorem ret_int {k : IntKind} {a b : Int} (h : a = b) : Ending.returned (.int k a) = .returned (.int k b) := by rw [h]
theorem ret_bool {a b : Bool} (h : a = b) : Ending.returned (.bool a) = .returned (.bool b) := by rw [h]

/-- Elapsed -/
theorem elapsed_any (v : Value) (f : Int → Int) (h : Int → Bool) (T c : Int) (hT : T ≤ 65536) (hT0 : -9223372036854775808 ≤ T) (w : World) (m : Mp w v f h) :
    Calls Try.prog 5 #[v, .agg #[.int .i64 T, .int .i64 c]] w fun e w' => e = .returned (.int .i64 (Pl.el f c (T - 1).toNat)) ∧ Below w.heap.size w w' := by
  have hbel : Below w.heap.size w (w.alloc (.cells #[.int .i64 T, .int .i64 c] 26)) := (Below.refl _ _).alloc (Nat.le_refl _) _
  have HB := hidI hbel
  have HM := hidI m
  clear hbel m
  go_enter Try.func5, Try.ntmps5
  go_wp2
  go_loop [5, 6] (fun e i => ∃ k : Nat, (k : Int) ≤ 65536 ∧ (0 < k → (k : Int) < T) ∧ i = .int .i64 ((k : Int) + 1) ∧ e = .int .i64 (Pl.el f c k)) (fun _ i => (T - intOf i).toNat)
  case atStart => exact ⟨0, by omega, fun h => by omega, rfl, rfl⟩
  case round =>
    obtain ⟨k, hk, hkT, rfl, rfl⟩ := hrel
    by_cases hlt : (k : Int) + 1 < T
    · have hl := HM.out.at HB.out (x := (k : Int) + 1) (WalkArith.wf_i64 (by omega))
      go_wp2
      go_round
      case rel => exact ⟨k + 1, by omega, fun _ => by omega, by go_num, rfl⟩
      case measure => simp [intOf]; omega
    · go_wp2
      go_ret
      exact ⟨ret_int (congrArg (Pl.el f c) (by omega)), HB.out⟩
end Go.Proofs.Qxb6630732a
