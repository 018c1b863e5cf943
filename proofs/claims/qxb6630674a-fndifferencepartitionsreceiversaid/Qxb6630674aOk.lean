import Derived.Test.Qxb6630674aReads
import Derived.Deep.RegionWith
namespace Go.Proofs.Qxb6630674a
open Go.RowKit

theorem Rs.drewN {w : World} {v : Value} {l : List Pl.R} (h : Rs w v l) (n : Nat) : Rs (w.drewN n) v l := h

/-- zzIn, its answer handed in. -/
theorem in_is (l : List Pl.R) (lo : Int) (hl : Pl.Canon lo l) (c : Int) (v : Value) (w : World) (hv : Rs w v l) (b : Bool) (hb : Pl.inB l c = b) :
    Calls Try.prog 18 #[v, .int .i32 c] w fun e w' => e = .returned (.bool b) ∧ w' = w := by
  subst hb; exact in_any l lo hl c v w hv

theorem diffOK_any (s t : List Pl.R) (hs : Pl.Canon (-1) s) (ht : Pl.Canon (-1) t) (c : Int) (vs vt vd : Value) (w : World) (rs : Rs w vs s) (rt : Rs w vt t) (rd : Rs w vd (Pl.diff s t)) :
    Calls Try.prog 16 #[vs, vt, vd, .int .i32 c] w fun e w' => e = .returned (.bool true) ∧ w' = w := by
  have hd := Pl.diff_canon s t hs ht
  have he := Pl.inB_diff hs ht c
  have HS : ∀ b, Pl.inB s c = b → Calls Try.prog 18 #[vs, .int .i32 c] w fun e w' => e = .returned (.bool b) ∧ w' = w := fun b hb => in_is s _ hs c vs _ rs b hb
  have HT : ∀ b, Pl.inB t c = b → Calls Try.prog 18 #[vt, .int .i32 c] w fun e w' => e = .returned (.bool b) ∧ w' = w := fun b hb => in_is t _ ht c vt _ rt b hb
  have HD : ∀ b, Pl.inB (Pl.diff s t) c = b → Calls Try.prog 18 #[vd, .int .i32 c] w fun e w' => e = .returned (.bool b) ∧ w' = w := fun b hb => in_is _ _ hd c vd _ rd b hb
  cases es : Pl.inB s c
  · rw [es] at he
    have KS := HS _ es
    have KD := HD _ he
    clear es he HS HT HD hd rs rt rd
    go_enter Try.func16, Try.ntmps16
    go_wp2_with fail
    refine KD.mono ?_
    rintro e w' ⟨rfl, rfl⟩
    go_wp2_with fail
    refine KS.mono ?_
    rintro e w' ⟨rfl, rfl⟩
    go_wp2_with fail
    go_ret
    exact ⟨rfl, rfl⟩
  · rw [es] at he
    have KS := HS _ es
    cases et : Pl.inB t c
    all_goals
      rw [et] at he
      have KD := HD _ he
      have KT := HT _ et
      clear es et he HS HT HD hd rs rt rd
      go_enter Try.func16, Try.ntmps16
      go_wp2_with fail
      refine KD.mono ?_
      rintro e w' ⟨rfl, rfl⟩
      go_wp2_with fail
      refine KS.mono ?_
      rintro e w' ⟨rfl, rfl⟩
      go_wp2_with fail
      refine KT.mono ?_
      rintro e w' ⟨rfl, rfl⟩
      go_wp2_with fail
      go_ret
      exact ⟨rfl, rfl⟩
end Go.Proofs.Qxb6630674a
