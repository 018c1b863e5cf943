import Derived.Test.Qxb6630796aApp
import Derived.Test.Qxb6630796aLayout
import Derived.Test.Qxb6630796aBytes9
import Derived.Test.Qxb6630796aSize
import Derived.Test.Qxb6630796aTail
import Derived.Deep.QuietTactic
import Derived.BigQuiet
namespace Go.Proofs.Qxb6630796a
open Go.RowKit
set_option linter.unusedVariables false
set_option linter.unusedSimpArgs false

set_option maxRecDepth 100000 in
set_option maxHeartbeats 4000000 in
theorem walk4E (a : ByteArray) (ha : a.size ≤ maxLen) (vv vb : Value) (n m : Nat) (L K : Nat → Nat) (P k : Int) (hP0 : -9223372036854775808 ≤ P) (hP1 : P ≤ 9223372036854775807) (hk : k < 0 ∨ (n : Int) < k)
    (xn xt : ByteArray) (xa : Option Addr) (xl xc : Nat) (xb : Bool) (hxn : xn.size ≤ maxLen) (hxt : xt.size ≤ maxLen) (hxl : xl ≤ maxLen) (w : World) (hv : Vz w vv n L) (hb : Bz w vb m K) :
    Calls Try.prog 4 #[.string a, vv, vb, .int .i64 P, .int .i64 k, .agg #[.string xn, .slice xa xl xc, .string xt, .bool xb]] w fun e w' => e = .returned (.bool true) ∧ Below w.heap.size w w' := by
  have hw1 := ball w (.cells #[.string xn, .slice xa xl xc, .string xt, .bool xb] 28)
  have hby := bytes9_any a ha vv vb n m L K P k xn xt xa xl xc xb hxn hxt hxl _ (hv.below hw1) (hb.below hw1)
  have HSZ := hidI (fun wx (h1 : Vz wx vv n L) (h2 : Bz wx vb m K) => size_any a ha vv vb n m L K wx h1 h2)
  have HBX := hidI (box_new w xn xt xa xl xc xb)
  have B1 := hidI hw1
  obtain ⟨av, cv, rfl⟩ : ∃ x y, vv = .slice x n y := by obtain ⟨x, y, h, _⟩ := hv; exact ⟨_, _, h⟩
  obtain ⟨ab, cb, rfl⟩ : ∃ x y, vb = .slice x m y := by obtain ⟨x, y, h, _⟩ := hb; exact ⟨_, _, h⟩
  have HV := hidI hv
  have HBZ := hidI hb
  have HXR := hidI (show xn.size ≤ maxLen ∧ xt.size ≤ maxLen ∧ xl ≤ maxLen from ⟨hxn, hxt, hxl⟩)
  unfold maxLen at ha hxn hxt hxl
  clear hv hb hw1
  go_enter Try.func4, Try.ntmps4
  go_wp2_with fail
  refine hby.mono ?_
  rintro e w2 ⟨⟨x, rfl⟩, b2⟩
  have B2 := hidI (bstep B1.out b2)
  have HX2 := hidI (HBX.out.below b2)
  clear hby b2 HBX
  cases x
  · go_wp2
    go_ret
    exact ⟨rfl, B2.out⟩
  go_wp2_with fail
  refine (HSZ.out _ (HV.out.below B2.out) (HBZ.out.below B2.out)).mono ?_
  rintro e w3 ⟨⟨s, rfl, hs0, hs1, hs2⟩, b3⟩
  have B3 := hidI (bstep B2.out b3)
  have HX3 := hidI (HX2.out.below b3)
  have HS2 := hidI hs2
  clear hs2 b3 HSZ HX2
  obtain ⟨x0, x1, x2, x3⟩ := HX3.out
  by_cases hbig : 1048576 < s
  · go_wp2
    go_ret
    exact ⟨rfl, B3.out⟩
  have hds : decide ((1048576 : Int) < s) = false := decide_eq_false hbig
  by_cases f1 : 1048576 < xn.size
  · go_wp2
    go_ret
    exact ⟨rfl, B3.out⟩
  by_cases f2 : 1048576 < xl
  · go_wp2
    go_ret
    exact ⟨rfl, B3.out⟩
  by_cases f3 : 1048576 < xt.size
  · go_wp2
    go_ret
    exact ⟨rfl, B3.out⟩
  have e1 : decide ((1048576 : Int) < (xn.size : Int)) = false := decide_eq_false (by omega)
  have e2 : decide ((1048576 : Int) < (xl : Int)) = false := decide_eq_false (by omega)
  have e3 : decide ((1048576 : Int) < (xt.size : Int)) = false := decide_eq_false (by omega)
  by_cases f4 : 1048576 < s + (8 + (xn.size : Int) + (xl : Int) + (xt.size : Int))
  · go_wp2
    go_ret
    exact ⟨rfl, B3.out⟩
  have e4 : decide ((1048576 : Int) < s + (8 + (xn.size : Int) + (xl : Int) + (xt.size : Int))) = false := decide_eq_false f4
  obtain ⟨hn, hm, hSn, hKs⟩ := HS2.out (by omega)
  have HK := hidI hKs
  have hSn' : (Pl.S L n : Int) + (xl : Int) ≤ 1048576 := by omega
  clear hKs HS2 hSn
  rcases hk with hk | hk
  · go_wp2
    go_ret
    exact ⟨rfl, B3.out⟩
  · have hk0 : decide (k < 0) = false := decide_eq_false (by omega)
    have hk1 : decide ((n : Int) < k) = true := decide_eq_true hk
    go_wp2
    go_ret
    exact ⟨rfl, B3.out⟩
end Go.Proofs.Qxb6630796a
