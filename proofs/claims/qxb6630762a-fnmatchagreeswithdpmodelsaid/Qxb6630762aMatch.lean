import Derived.Test.Qxb6630762aRows
import Derived.Test.Qxb6630762aPlain
import Derived.WalkKit
import Derived.WalkSpells
import Derived.Deep.QuietTactic
import Derived.BigQuiet
namespace Go.Proofs.Qxb6630762a
open Go.RowKit
set_option linter.unusedVariables false
set_option linter.unusedSimpArgs false

theorem hidI {p : Prop} (h : p) : Hid p := h
theorem ret_bool {a b : Bool} (h : a = b) : Ending.returned (.bool a) = .returned (.bool b) := by rw [h]

theorem at_byte (a : ByteArray) (i : Nat) (h : i < a.size) : Pl.at' a.data.toList i = a[i] := by
  have h' : i < a.data.toList.length := by simpa using h
  have e : a.data.toList[i]? = some a[i] := by rw [List.getElem?_eq_getElem h']; rfl
  unfold Pl.at'
  rw [e]
  rfl

theorem byte_eq {x y : UInt8} : ((x.toNat : Int) == (y.toNat : Int)) = true ↔ x = y := by
  rw [beq_iff_eq]
  constructor
  · intro h; exact UInt8.toNat_inj.1 (by omega)
  · rintro rfl; rfl
theorem byte_ne {x y : UInt8} (h : x ≠ y) : ((x.toNat : Int) == (y.toNat : Int)) = false := by
  cases e : ((x.toNat : Int) == (y.toNat : Int))
  · rfl
  · exact absurd (byte_eq.1 e) h
theorem byte_42 {x : UInt8} : ((x.toNat : Int) == 42) = true ↔ x = 42 := byte_eq (x := x) (y := 42)
theorem byte_n42 {x : UInt8} (h : x ≠ 42) : ((x.toNat : Int) == 42) = false := byte_ne (x := x) (y := 42) h

/-- the round's measure -/
def meas (m n : Nat) (st i nx : Int) : Nat := (m - (st + 1).toNat) + (n + 1 - nx.toNat) * (n + 1) + (n - i.toNat)

theorem meas_star {m n p i nx : Nat} {st : Int} (h1 : st < p) (h0 : -1 ≤ st) (hp : p < m) (h2 : nx ≤ i + 1) : meas m n p i ((i : Int) + 1) < meas m n st i nx := by
  unfold meas
  have e1 : m - ((p : Int) + 1).toNat < m - (st + 1).toNat := by omega
  have e2 : (n + 1 - ((i : Int) + 1).toNat) * (n + 1) ≤ (n + 1 - (nx : Int).toNat) * (n + 1) := Nat.mul_le_mul_right _ (by omega)
  omega
theorem meas_char {m n i nx : Nat} {st : Int} (hi : i < n) : meas m n st ((i : Int) + 1) nx < meas m n st i nx := by
  unfold meas
  omega
theorem meas_back {m n i nx : Nat} {st : Int} (hi : i < n) (h2 : nx ≤ i + 1) : meas m n st nx ((nx : Int) + 1) < meas m n st i nx := by
  unfold meas
  have e : n + 1 - (nx : Int).toNat = (n + 1 - ((nx : Int) + 1).toNat) + 1 := by omega
  rw [e, Nat.add_mul]
  omega

set_option maxHeartbeats 1000000 in
theorem match_any (a b : ByteArray) (wa : a.size ≤ 1000000) (wb : b.size ≤ 1000000) (w : World) :
    Calls Try.prog 6 #[.string a, .string b] w fun e w' => ∃ r, e = .returned (.bool r) ∧ (r = true ↔ Pl.G a.data.toList b.data.toList) ∧ ∃ n, w' = w.drewN n := by

  have la : a.data.toList.length = a.size := by simp
  have lb : b.data.toList.length = b.size := by simp
  have LA := hidI la
  have LB := hidI lb
  clear la lb
  have hstart := hidI (Pl.inv_start a.data.toList b.data.toList)
  go_enter Try.func6, Try.ntmps6
  go_wp2
  go_loopw [5, 6, 7, 8] (fun p i st nx wr => ∃ (pn iN nxN m : Nat) (star : Int), p = .int .i64 pn ∧ i = .int .i64 iN ∧ st = .int .i64 star ∧ nx = .int .i64 nxN ∧ wr = w.drewN m ∧ Hid (Pl.Inv a.data.toList b.data.toList pn iN star nxN)) (fun p i st nx _ => meas a.size b.size (intOf st) (intOf i) (intOf nx))
  case atStart => exact ⟨0, 0, 0, 0, -1, rfl, rfl, rfl, rfl, rfl, hstart⟩
  case round =>
    obtain ⟨pn, iN, nxN, m, star, rfl, rfl, rfl, rfl, rfl, hinv⟩ := hrel
    clear hstart
    have hp := hinv.out.hp
    have hi := hinv.out.hi
    have hs := hinv.out.hs
    have hsp := hinv.out.hsp
    have hn := hinv.out.hn
    rw [LA.out] at hp
    rw [LB.out] at hi
    by_cases hlt : iN < b.size
    · have ib := at_byte b iN hlt
      have IB := hidI ib
      clear ib
      by_cases hpl : pn < a.size
      · have IA := hidI (at_byte a pn hpl)
        by_cases h42 : a[pn] = 42
        · have t1 : ((a[pn].toNat : Int) == 42) = true := byte_42.2 h42
          have H42 := hidI h42
          clear h42
          go_wp2
          go_roundw
          case rel => exact ⟨pn + 1, iN, iN + 1, m, pn, by go_num, rfl, rfl, by go_num, rfl, hidI (Pl.inv_star hinv.out (by rw [LA.out]; omega) (IA.out.trans H42.out))⟩
          case measure => exact meas_star hsp hs hpl hn
        · have t1 : ((a[pn].toNat : Int) == 42) = false := byte_n42 h42
          have H42 := hidI h42
          have hpi : decide (pn < a.size) = true := decide_eq_true hpl
          clear h42
          by_cases heq : a[pn] = b[iN]
          · have t2 : ((a[pn].toNat : Int) == (b[iN].toNat : Int)) = true := byte_eq.2 heq
            have HEQ := hidI heq
            clear heq
            go_wp2
            go_quiet (fail)
            go_wp2
            go_roundw
            case rel => exact ⟨pn + 1, iN + 1, nxN, _, star, by go_num, by go_num, rfl, rfl, rfl, hidI (Pl.inv_char hinv.out (by rw [LA.out]; omega) (by rw [LB.out]; omega) (fun e => H42.out (IA.out.symm.trans e)) (IA.out.trans (HEQ.out.trans IB.out.symm)))⟩
            case measure => exact meas_char hlt
          · have t2 : ((a[pn].toNat : Int) == (b[iN].toNat : Int)) = false := byte_ne heq
            have HEQ := hidI heq
            clear heq
            have hno := hidI (show a.data.toList.length ≤ pn ∨ (Pl.at' a.data.toList pn ≠ 42 ∧ Pl.at' a.data.toList pn ≠ Pl.at' b.data.toList iN) from Or.inr ⟨fun e => H42.out (IA.out.symm.trans e), fun e => HEQ.out (IA.out.symm.trans (e.trans IB.out))⟩)
            by_cases hst : 0 ≤ star
            · go_wp2
              go_quiet (fail)
              go_wp2
              go_roundw
              case rel => exact ⟨star.toNat + 1, nxN, nxN + 1, _, star, by go_num, rfl, rfl, by go_num, rfl, hidI (Pl.inv_back hinv.out (by rw [LB.out]; omega) hst hno.out)⟩
              case measure => exact meas_back hlt hn
            · have hfail := hidI (Pl.inv_fail hinv.out (by rw [LB.out]; omega) hst hno.out)
              go_wp2
              go_quiet (fail)
              go_wp2
              go_ret
              exact ⟨_, rfl, by simp [hfail.out], _, rfl⟩
      · have hno := hidI (show a.data.toList.length ≤ pn ∨ (Pl.at' a.data.toList pn ≠ 42 ∧ Pl.at' a.data.toList pn ≠ Pl.at' b.data.toList iN) from Or.inl (by rw [LA.out]; omega))
        have hpi : decide (pn < a.size) = false := decide_eq_false hpl
        by_cases hst : 0 ≤ star
        · go_wp2
          go_quiet (fail)
          go_wp2
          go_roundw
          case rel => exact ⟨star.toNat + 1, nxN, nxN + 1, _, star, by go_num, rfl, rfl, by go_num, rfl, hidI (Pl.inv_back hinv.out (by rw [LB.out]; omega) hst hno.out)⟩
          case measure => exact meas_back hlt hn
        · have hfail := hidI (Pl.inv_fail hinv.out (by rw [LB.out]; omega) hst hno.out)
          go_wp2
          go_quiet (fail)
          go_wp2
          go_ret
          exact ⟨_, rfl, by simp [hfail.out], _, rfl⟩
    · have hend := hidI (Pl.inv_end hinv.out (by rw [LB.out]; omega))
      go_wp2
      go_loop [5] (fun p => ∃ q : Nat, p = .int .i64 q ∧ q ≤ a.size ∧ Hid (Pl.G a.data.toList b.data.toList ↔ Pl.G (a.data.toList.drop q) [])) (fun p => a.size - (intOf p).toNat)
      case atStart => exact ⟨pn, rfl, hp, hend⟩
      case round =>
        obtain ⟨q, rfl, hq, hiff⟩ := hrel
        by_cases hql : q < a.size
        · have IA := hidI (at_byte a q hql)
          by_cases h42 : a[q] = 42
          · have t1 : ((a[q].toNat : Int) == 42) = true := byte_42.2 h42
            have H42 := hidI h42
            clear h42
            go_wp2
            go_round
            case rel => exact ⟨q + 1, by go_num, by omega, hidI (hiff.out.trans (Pl.tail_star (by rw [LA.out]; omega) (IA.out.trans H42.out)))⟩
            case measure => simp [intOf]; omega
          · have t1 : ((a[q].toNat : Int) == 42) = false := byte_n42 h42
            have H42 := hidI h42
            have hne : ((q : Int) == (a.size : Int)) = false := by rw [beq_eq_false_iff_ne]; omega
            clear h42
            go_wp2
            go_ret
            exact Or.inl ⟨rfl, by rw [hiff.out]; exact Pl.tail_no (P := a.data.toList) (p := q) (by rw [LA.out]; omega) (fun e => H42.out (IA.out.symm.trans e)), _, rfl⟩
        · have hqe : q = a.size := by omega
          subst hqe
          go_wp2
          go_ret
          exact Or.inr ⟨rfl, by rw [hiff.out]; exact Pl.tail_end (P := a.data.toList) (p := a.size) (by rw [LA.out]; omega), _, rfl⟩
end Go.Proofs.Qxb6630762a
