import Derived.Test.Qxb6630796aLaw2E
import Derived.Test.Qxb6630796aLaw2A
import Derived.Test.Qxb6630796aLaw2B
import Derived.Test.Qxb6630796aLaw2C
namespace Go.Proofs.Qxb6630796a
open Go.RowKit
set_option linter.unusedVariables false

/-- the whole law's walk: whatever k -/
theorem walk4 (a : ByteArray) (ha : a.size ≤ maxLen) (vv vb : Value) (n m : Nat) (L K : Nat → Nat) (P k : Int) (hP0 : -9223372036854775808 ≤ P) (hP1 : P ≤ 9223372036854775807)
    (xn xt : ByteArray) (xa : Option Addr) (xl xc : Nat) (xb : Bool) (hxn : xn.size ≤ maxLen) (hxt : xt.size ≤ maxLen) (hxl : xl ≤ maxLen) (w : World) (hv : Vz w vv n L) (hb : Bz w vb m K) :
    Calls Try.prog 4 #[.string a, vv, vb, .int .i64 P, .int .i64 k, .agg #[.string xn, .slice xa xl xc, .string xt, .bool xb]] w fun e w' => e = .returned (.bool true) ∧ Below w.heap.size w w' := by
  by_cases h : k < 0 ∨ (n : Int) < k
  · exact walk4E a ha vv vb n m L K P k hP0 hP1 h xn xt xa xl xc xb hxn hxt hxl w hv hb
  · obtain ⟨j, rfl⟩ : ∃ j : Nat, k = j := ⟨k.toNat, by omega⟩
    by_cases hc : (j : Int) < P
    · by_cases hd : (n : Int) < P
      · exact walk4B a ha vv vb n m L K P j hP0 hP1 (by omega) hc hd xn xt xa xl xc xb hxn hxt hxl w hv hb
      · exact walk4C a ha vv vb n m L K P j hP0 hP1 (by omega) hc hd xn xt xa xl xc xb hxn hxt hxl w hv hb
    · exact walk4A a ha vv vb n m L K P j hP0 hP1 (by omega) hc xn xt xa xl xc xb hxn hxt hxl w hv hb
end Go.Proofs.Qxb6630796a
