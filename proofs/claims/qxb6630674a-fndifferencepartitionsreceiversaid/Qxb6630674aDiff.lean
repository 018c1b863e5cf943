import Derived.Test.Qxb6630674aAppend
import Derived.Test.Qxb6630674aTail
namespace Go.Proofs.Qxb6630674a
open Go.RowKit
set_option linter.unusedSimpArgs false
set_option linter.unusedVariables false

/-- the world in which Difference's loops begin: two boxes for the arguments, one for the result -/
def W0 (w : World) (vs vt : Value) : World := ((w.alloc (.cells #[vs] 28)).alloc (.cells #[vt] 28)).alloc (.cells #[.slice none 0 0] 28)
def lenOf : Value → Nat | .slice _ n _ => n | _ => 0

theorem hidI {p : Prop} (h : p) : Hid p := h

theorem W0_below (w : World) (vs vt : Value) : Below w.heap.size w (W0 w vs vt) :=
  (((Below.refl _ _).alloc (Nat.le_refl _) _).alloc (by simp) _).alloc (by simp; omega) _

theorem Rs.cons {w : World} {v : Value} {r : Pl.R} {l : List Pl.R} (h : Rs w v (r :: l)) :
    ∃ b off cap, v = .slice (some ⟨b, off, none⟩) (l.length + 1) cap ∧ l.length + 1 ≤ cap ∧ cap ≤ maxLen ∧ b < w.heap.size ∧ w.cell? ⟨b, off, none⟩ = some (.int .i32 r.1) ∧ w.cell? ⟨b, off + 1, none⟩ = some (.int .i32 r.2) ∧
      Rs w (.slice (if cap = 1 then some ⟨b, off, none⟩ else some ⟨b, off + 2, none⟩) l.length (cap - 1)) l := by
  obtain ⟨ao, cap, rfl, h1, h2, h3⟩ := h
  obtain ⟨b, off, rfl, h4, h5⟩ := h3 (by simp)
  simp only [List.length_cons] at h1 h5
  have h0 := h5 0 (by omega)
  refine ⟨b, off, cap, rfl, h1, h2, h4, by simpa [Pl.A] using h0.1, by simpa [Pl.B] using h0.2, _, _, rfl, by omega, by unfold maxLen at *; omega, fun hl => ⟨b, off + 2, by rw [if_neg (by omega)], h4, fun i hi => ?_⟩⟩
  have := h5 (i + 1) (by omega)
  rw [show off + 2 + i * 2 = off + (i + 1) * 2 from by omega]
  simpa [Pl.A, Pl.B] using this

theorem Rs.nil {w : World} {v : Value} (h : Rs w v []) : ∃ ao cap, v = .slice ao 0 cap ∧ cap ≤ maxLen := by
  obtain ⟨ao, cap, rfl, h1, h2, h3⟩ := h
  exact ⟨ao, cap, rfl, h2⟩

theorem Rs.at {w : World} {ao : Option Addr} {n c : Nat} {l : List Pl.R} (h : Rs w (.slice ao n c) l) (q : Nat) (hq : q < n) :
    ∃ b o, ao = some ⟨b, o, none⟩ ∧ b < w.heap.size ∧ w.cell? ⟨b, o + q * 2, none⟩ = some (.int .i32 (Pl.A l q)) ∧ w.cell? ⟨b, o + q * 2 + 1, none⟩ = some (.int .i32 (Pl.B l q)) := by
  obtain ⟨ao', cap, e, h1, h2, h3⟩ := h
  injection e with e1 e2 e3
  subst e1; subst e2
  obtain ⟨b, o, h4, h5, h6⟩ := h3 (by omega)
  exact ⟨b, o, h4, h5, h6 q hq⟩
theorem bdrew {B : Nat} {w w' : World} (h : Below B w w') (n : Nat) : Below B w (w'.drewN n) := ⟨h.os, h.tape, h.output, h.size, h.block⟩
theorem Out.drewN {w : World} {base : Nat} {v : Value} {l : List Pl.R} (h : Out w base v l) (n : Nat) : Out (w.drewN n) base v l := h
theorem len_of_append {l m D : List Pl.R} (h : l ++ m = D) (hD : D.length ≤ 600000) : l.length ≤ 1000000 := by
  subst h; simp at hD; omega

theorem after_append {wr w' : World} {wo base : Nat} {v v' : Value} {l : List Pl.R} {x y a b : Int} (hout : Out wr base v l) (hnb : v.ownBlock ≠ some wo) (hrb : wr.heap[wo]? = some (.cells #[.int .i32 a, .int .i32 b] 38 (0, 0)))
    (hkp : ∀ k, k < (wr.alloc (.cells #[.int .i32 x, .int .i32 y] 38)).heap.size → v.ownBlock ≠ some k → w'.heap[k]? = (wr.alloc (.cells #[.int .i32 x, .int .i32 y] 38)).heap[k]? ∧ v'.ownBlock ≠ some k) :
    w'.heap[wo]? = some (.cells #[.int .i32 a, .int .i32 b] 38 (0, 0)) ∧ v'.ownBlock ≠ some wo ∧ w'.cell? ⟨wr.heap.size, 1, none⟩ = some (.int .i32 y) ∧ w'.frozen? ⟨wo, 0, none⟩ = false ∧ w'.cell? ⟨wo, 0, none⟩ = some (.int .i32 a) := by
  have hlt := lt_of_block hrb
  have h1 := hkp wo (by simp; omega) hnb
  have h2 := hkp wr.heap.size (by simp) hout.lt
  have e1 : w'.heap[wo]? = some (.cells #[.int .i32 a, .int .i32 b] 38 (0, 0)) := h1.1.trans ((Below.heap_alloc wr _ wo hlt).trans hrb)
  exact ⟨e1, h1.2, (cell_of_row _ _ 1 _ 38 (0, 0) (h2.1.trans (heap_alloc_new wr _))).trans rfl, frozen_of_row _ _ 0 _ 38 e1, (cell_of_row _ _ 0 _ 38 (0, 0) e1).trans rfl⟩

theorem row_set {w : World} {g : Nat} {a b u : Value} (h : w.heap[g]? = some (.cells #[a, b] 38 (0, 0))) : (w.setCell ⟨g, 0, none⟩ u).heap[g]? = some (.cells #[u, b] 38 (0, 0)) :=
  heap_setCell_same w g 0 #[a, b] 38 u h

theorem W0_res (w : World) (vs vt : Value) : (W0 w vs vt).heap[w.heap.size + 2]? = some (.cells #[.slice none 0 0] 28 (0, 0)) := by
  have h := heap_alloc_new ((w.alloc (.cells #[vs] 28)).alloc (.cells #[vt] 28)) (.cells #[.slice none 0 0] 28)
  have e : ((w.alloc (.cells #[vs] 28)).alloc (.cells #[vt] 28)).heap.size = w.heap.size + 2 := by simp
  rw [e] at h
  exact h

set_option maxHeartbeats 1000000 in
theorem diff_any (s t : List Pl.R) (hs : Pl.Canon (-1) s) (ht : Pl.Canon (-1) t) (vs vt : Value) (w : World) (rs : Rs w vs s) (rt : Rs w vt t) :
    Calls Try.prog 9 #[.agg #[vs], .agg #[vt]] w fun e w' => ∃ v, e = .returned (.agg #[v]) ∧ Rs w' v (Pl.diff s t) ∧ Below w.heap.size w w' := by
  have hDl := Pl.canon_length' (Pl.diff_canon s t hs ht)
  obtain ⟨D, hD⟩ : ∃ D, Pl.diff s t = D := ⟨_, rfl⟩
  rw [hD] at hDl ⊢
  have hv : ∃ a n c, vt = .slice a n c := by obtain ⟨a, c, h, _⟩ := rt; exact ⟨_, _, _, h⟩
  obtain ⟨at', nt, ct, rfl⟩ := hv
  obtain ⟨ao, cap, rfl, hlc, hcm, hcells⟩ := rs
  unfold maxLen at hcm
  obtain ⟨n, hn⟩ : ∃ n, n = s.length := ⟨_, rfl⟩
  have HN : Hid (n = s.length) := hn
  have HD : Hid (Pl.diff s t = D) := hD
  have HT : Hid (Rs w (.slice at' nt ct) t) := rt
  rw [← hn] at hlc hcells ⊢
  clear hn hD rt
  go_enter Try.func9, Try.ntmps9
  go_wp2
  go_loopw [5, 6, 16] (fun out rest i wr => ∃ (k : Nat) (done t' : List Pl.R), k ≤ n ∧ i = .int .i64 k ∧ Rs w rest t' ∧ Pl.Canon (-1) t' ∧ Out wr (w.heap.size + 3) out done ∧ done ++ Pl.diff (s.drop k) t' = D ∧ Below (w.heap.size + 3) (W0 w (.slice ao n cap) (.slice at' nt ct)) wr) (fun _ _ i _ => n - (intOf i).toNat)
  case atStart => exact ⟨0, [], t, Nat.zero_le _, rfl, HT, ht, World.ownsRow_nil _ _ _ _, HD, Below.refl _ _⟩
  case round =>
    obtain ⟨k, done, t', hk, rfl, hrest, hcan, hout, heq, hbel⟩ := hrel
    have hbw : Below w.heap.size w wr := (W0_below w _ _).trans (hbel.mono (by omega))
    have hsz : w.heap.size + 3 ≤ wr.heap.size := by have := hbel.size; simp [W0] at this; omega
    by_cases hlt : k < n
    · obtain ⟨bs, offs, rfl, hb, hc⟩ := hcells (by omega)
      have h1 := (hbw.cell (p := ⟨bs, offs + k * 2, none⟩) hb).trans (hc k hlt).1
      have h2 := (hbw.cell (p := ⟨bs, offs + k * 2 + 1, none⟩) hb).trans (hc k hlt).2
      have hki : (k : Int) < (n : Int) := by omega
      have HE : Hid (done ++ Pl.diff (s.drop k) t' = D) := heq
      have HO := hidI hout
      have HR := hidI hrest
      have HB := hidI hbel
      have HW := hidI hbw
      clear hcells hc heq hout hrest hbel hbw
      obtain ⟨wo, rfl⟩ : ∃ x, x = wr := ⟨_, rfl⟩
      have ka := Pl.canon_index hs k (by have := HN.out; omega)
      obtain ⟨ka1, ka2, ka3, _⟩ := ka
      go_wp2
      go_loopw [6] (fun rest w2 => ∃ (t2 : List Pl.R) (m : Nat), Rs w rest t2 ∧ Pl.Canon (-1) t2 ∧ Pl.dropW (Pl.A s k) t2 = Pl.dropW (Pl.A s k) t' ∧ w2 = (wo.alloc (.cells #[.int .i32 (Pl.A s k), .int .i32 (Pl.B s k)] 38)).drewN m) (fun rest _ => lenOf rest)
      case atStart => exact ⟨t', 0, HR, hcan, rfl, rfl⟩
      case round =>
        obtain ⟨t2, m, hr2, hcan2, hd2, rfl⟩ := hrel
        have HD2 := hidI hd2
        clear hd2
        by_cases hgo : ∃ r t3, t2 = r :: t3 ∧ r.2 < Pl.A s k
        · obtain ⟨r, t3, rfl, hlt2⟩ := hgo
          obtain ⟨b2, o2, c2, rfl, hc2, hm2, hb2, g1, g2, hr3⟩ := hr2.cons
          have g2' := (HW.out.cell (p := ⟨b2, o2 + 1, none⟩) hb2).trans g2
          have hne2 : b2 < wo.heap.size := by omega
          have hle : t3.length + 1 ≤ 9223372036854775807 := by unfold maxLen at hm2; omega
          have hpos : decide ((0 : Int) < ((t3.length + 1 : Nat) : Int)) = true := decide_eq_true (by omega)
          have HR3 := hidI hr3
          have hmm : c2 ≤ 9223372036854775807 := by unfold maxLen at hm2; omega
          clear hr2 hr3 g2 g1 hm2
          go_wp2
          go_quiet (fail)
          go_wp2
          go_roundw
          case rel => exact ⟨t3, _, HR3.out, Pl.canon_mono hcan2.2.2.2 (by have := hcan2.1; have := hcan2.2.1; omega), by rw [← HD2.out, Pl.dropW_yes hlt2], rfl⟩
          case measure => simp [lenOf]
        · have hstay : Pl.dropW (Pl.A s k) t2 = t2 := by
            cases t2 with
            | nil => rfl
            | cons r t3 => exact Pl.dropW_no (fun h => hgo ⟨r, t3, rfl, h⟩)
          have hT : done ++ Pl.tail (Pl.B s k) (Pl.A s k) t2 (s.drop (k + 1)) t2 = D := by
            have h := HE.out
            rw [Pl.drop_index s k (by have := HN.out; omega), Pl.diff_tail, ← HD2.out, hstay] at h
            exact h
          have HT2 := hidI hT
          clear hT hstay
          obtain ⟨ao2, c2, rfl, hc2, hm2, hcl2⟩ : ∃ ao2 c2, u6 = .slice ao2 t2.length c2 ∧ t2.length ≤ c2 ∧ c2 ≤ maxLen ∧ Rs w (.slice ao2 t2.length c2) t2 := by
            have h := hr2
            obtain ⟨ao2, c2, h1, h2, h3, _⟩ := h
            exact ⟨ao2, c2, h1, h2, h3, h1 ▸ hr2⟩
          have HR2 := hidI hcl2
          have hmm : c2 ≤ 9223372036854775807 := by unfold maxLen at hm2; omega
          have hguard : (t2 = [] ∧ decide (0 < t2.length) = false) ∨ (∃ b2 o2 r, ao2 = some ⟨b2, o2, none⟩ ∧ 0 < t2.length ∧ ¬ r < Pl.A s k ∧ b2 < w.heap.size ∧ wo.cell? ⟨b2, o2 + 1, none⟩ = some (.int .i32 r)) := by
            cases t2 with
            | nil => left; exact ⟨rfl, rfl⟩
            | cons r t3 =>
              right
              obtain ⟨b2, o2, c2', he, _, _, hb2, g1, g2, _⟩ := hcl2.cons
              injection he with he1 he2 he3
              exact ⟨b2, o2, r.2, he1, by simp only [List.length_cons]; omega, fun h => hgo ⟨r, t3, rfl, h⟩, hb2, (HW.out.cell (p := ⟨b2, o2 + 1, none⟩) hb2).trans g2⟩
          clear hgo hr2 hcl2 hm2
          obtain ⟨n2, hn2⟩ : ∃ n2, n2 = t2.length := ⟨_, rfl⟩
          have HN2 := hidI hn2
          rw [← hn2] at hguard hc2 HR2
          simp only [← hn2]
          clear hn2
          rcases hguard with ⟨_, hd0⟩ | ⟨b2, o2, r, rfl, hd0, hr, hb2, g2⟩
          · have hn0 : n2 = 0 := by simpa using hd0
            have ht2 : t2 = [] := List.eq_nil_of_length_eq_zero (by have := HN2.out; omega)
            go_wp2
            go_quiet (fail)
            go_wp2
            refine wp_loop_rounds 1 ?_
            rw [rounds_succ]
            go_wp2_with (at_builtin; go_must (refine wpList_append38' (Pl.A s k) (Pl.B s k) rfl (.tmp 69) (.tmp 71) rfl (w.heap.size + 3) _ done rfl ((HO.out.alloc _).drewN _) (wo.heap.size + 1) 1 (by simp) rfl (len_of_append HE.out hDl) (by simp; omega) ?_; intro v' w' ho hbe _ _; have HO' := hidI ho; have HBE := hidI hbe; clear ho hbe))
            go_roundw
            case rel => exact ⟨k + 1, _, t2, by omega, by go_num, (by have h := HR2.out; rw [hn0] at h; exact h), hcan2, HO'.out, by have h := HT2.out; rw [ht2, Pl.tail_nil, Pl.last_yes (by omega)] at h; rw [ht2]; simpa using h, HBE.out _ _ (bdrew (HB.out.alloc (by omega) _) _) (Nat.le_refl _)⟩
            case measure => simp [intOf]; omega
          · have hne2 : b2 < wo.heap.size := by omega
            go_wp2
            go_quiet (fail)
            go_wp2
            clear g2 hr
            have hsz3 : w.heap.size + 3 ≤ wo.heap.size := hsz
            go_loopw [5, 36] (fun out j w3 => ∃ (q : Nat) (done3 : List Pl.R) (a : Int), q ≤ n2 ∧ j = .int .i64 q ∧ Out w3 (w.heap.size + 3) out done3 ∧ out.ownBlock ≠ some wo.heap.size ∧ w3.heap[wo.heap.size]? = some (.cells #[.int .i32 a, .int .i32 (Pl.B s k)] 38 (0, 0)) ∧ Below (w.heap.size + 3) (W0 w (.slice (some ⟨bs, offs, none⟩) n cap) (.slice at' nt ct)) w3 ∧ 0 ≤ a ∧ a ≤ 1114112 ∧ done3 ++ Pl.tail (Pl.B s k) a (t2.drop q) (s.drop (k + 1)) t2 = D) (fun _ j _ => n2 - (intOf j).toNat)
            case atStart => exact ⟨0, done, Pl.A s k, Nat.zero_le _, rfl, (HO.out.alloc _).drewN _, HO.out.lt, heap_alloc_new wo _, bdrew (HB.out.alloc (by omega) _) _, by omega, by omega, HT2.out⟩
            case round =>
              obtain ⟨q, done3, a, hq, rfl, ho3, hnb, hrb, hb3, ha1, ha2, he3⟩ := hrel
              have hbw3 : Below w.heap.size w wr := (W0_below w _ _).trans (hb3.mono (by omega))
              have hrlt : wo.heap.size < wr.heap.size := lt_of_block hrb
              have r0 : wr.cell? ⟨wo.heap.size, 0, none⟩ = some (.int .i32 a) := (cell_of_row _ _ 0 _ 38 (0, 0) hrb).trans rfl
              have r1 : wr.cell? ⟨wo.heap.size, 1, none⟩ = some (.int .i32 (Pl.B s k)) := (cell_of_row _ _ 1 _ 38 (0, 0) hrb).trans rfl
              have r2 : wr.frozen? ⟨wo.heap.size, 0, none⟩ = false := frozen_of_row _ _ 0 _ 38 hrb
              have HE3 := hidI he3
              have HO3 := hidI ho3
              have HNB := hidI hnb
              have HRB := hidI hrb
              have HB3 := hidI hb3
              clear he3 ho3 hnb hrb hb3
              by_cases hlq : q < n2
              · obtain ⟨b3, o3, e3, hb3', c1, c2'⟩ := HR2.out.at q hlq
                obtain ⟨rfl, rfl⟩ : b2 = b3 ∧ o2 = o3 := by simpa using e3
                have k1 := (hbw3.cell (p := ⟨b2, o2 + q * 2, none⟩) hb2).trans c1
                have k2 := (hbw3.cell (p := ⟨b2, o2 + q * 2 + 1, none⟩) hb2).trans c2'
                clear e3 c1 c2' hbw3
                obtain ⟨j1, j2, j3, _⟩ := Pl.canon_index hcan2 q (by have := HN2.out; omega)
                have hdrop := hidI (Pl.drop_index t2 q (by have := HN2.out; omega))
                have hqi : (q : Int) < (n2 : Int) := by omega
                have hbr : b2 < wr.heap.size := by omega
                by_cases hbrk : Pl.B s k < Pl.A t2 q
                · have hfin := hidI (show done3 ++ (Pl.last a (Pl.B s k) ++ Pl.diff (s.drop (k + 1)) t2) = D from by have h := HE3.out; rw [hdrop.out, Pl.tail_break (c := (Pl.A t2 q, Pl.B t2 q)) hbrk] at h; exact h)
                  by_cases hal : a ≤ Pl.B s k
                  · go_wp2_with (at_builtin; go_must (refine wpList_append38' a (Pl.B s k) rfl (.tmp 69) (.tmp 71) rfl (w.heap.size + 3) _ done3 rfl (HO3.out.alloc _) (wr.heap.size + 1) 1 (by simp) rfl (len_of_append HE3.out hDl) (by simp; omega) ?_; intro v' w' ho hbe _ _; have HO' := hidI ho; have HBE := hidI hbe; clear ho hbe))
                    go_roundw
                    case rel => exact ⟨k + 1, _, t2, by omega, by go_num, HR2.out, hcan2, HO'.out, by have h := hfin.out; rw [Pl.last_yes hal] at h; simpa using h, HBE.out _ _ (HB3.out.alloc (by omega) _) (Nat.le_refl _)⟩
                    case measure => simp [intOf]; omega
                  · go_wp2
                    go_roundw
                    case rel => exact ⟨k + 1, done3, t2, by omega, by go_num, HR2.out, hcan2, HO3.out.alloc _, by have h := hfin.out; rw [Pl.last_no hal] at h; simpa using h, HB3.out.alloc (by omega) _⟩
                    case measure => simp [intOf]; omega
                · by_cases hpc : a < Pl.A t2 q
                  · go_wp2_with (at_builtin; go_must (refine wpList_append38' a (Pl.A t2 q - 1) rfl (.tmp 50) (.tmp 57) rfl (w.heap.size + 3) _ done3 rfl (HO3.out.alloc _) (wr.heap.size + 1) 1 (by simp) rfl (len_of_append HE3.out hDl) (by simp; omega) ?_; intro v' w' ho hbe hkp hsz'; obtain ⟨p1, p2, p3, p4, p5⟩ := after_append HO3.out HNB.out HRB.out hkp; have HO' := hidI ho; have HBE := hidI hbe; have P1 := hidI p1; have P2 := hidI p2; clear ho hbe hkp p1 p2))
                    go_roundw
                    case rel => exact ⟨q + 1, _, Pl.B t2 q + 1, by omega, by go_num, HO'.out.setCell P2.out _, P2.out, row_set P1.out, (HBE.out _ _ (HB3.out.alloc (by omega) _) (Nat.le_refl _)).setCell (p := ⟨wo.heap.size, 0, none⟩) hsz3 _, by omega, by omega, by have h := HE3.out; rw [hdrop.out, Pl.tail_piece (c := (Pl.A t2 q, Pl.B t2 q)) hbrk hpc] at h; simpa using h⟩
                    case measure => simp [intOf]; omega
                  · go_wp2
                    go_roundw
                    case rel => exact ⟨q + 1, _, Pl.B t2 q + 1, by omega, by go_num, (HO3.out.setCell (a := ⟨wo.heap.size, 0, none⟩) HNB.out _).alloc _, HNB.out, (Below.heap_alloc _ _ _ (lt_of_block (row_set HRB.out))).trans (row_set HRB.out), (HB3.out.setCell (p := ⟨wo.heap.size, 0, none⟩) hsz3 _).alloc (by have := lt_of_block (row_set (u := .int .i32 (Pl.B t2 q + 1)) HRB.out); omega) _, by omega, by omega, by have h := HE3.out; rw [hdrop.out, Pl.tail_skip (c := (Pl.A t2 q, Pl.B t2 q)) hbrk hpc] at h; exact h⟩
                    case measure => simp [intOf]; omega
              · have hfin := hidI (show done3 ++ (Pl.last a (Pl.B s k) ++ Pl.diff (s.drop (k + 1)) t2) = D from by
                  have h := HE3.out
                  rw [List.drop_eq_nil_of_le (by have := HN2.out; omega), Pl.tail_nil] at h
                  exact h)
                clear hbw3
                by_cases hal : a ≤ Pl.B s k
                · go_wp2_with (at_builtin; go_must (refine wpList_append38' a (Pl.B s k) rfl (.tmp 69) (.tmp 71) rfl (w.heap.size + 3) _ done3 rfl HO3.out wr.heap.size 1 rfl rfl (len_of_append HE3.out hDl) (by omega) ?_; intro v' w' ho hbe _ _; have HO' := hidI ho; have HBE := hidI hbe; clear ho hbe))
                  go_roundw
                  case rel => exact ⟨k + 1, _, t2, by omega, by go_num, HR2.out, hcan2, HO'.out, by have h := hfin.out; rw [Pl.last_yes hal] at h; simpa using h, HBE.out _ _ HB3.out (Nat.le_refl _)⟩
                  case measure => simp [intOf]; omega
                · go_wp2
                  go_roundw
                  case rel => exact ⟨k + 1, done3, t2, by omega, by go_num, HR2.out, hcan2, HO3.out, by have h := hfin.out; rw [Pl.last_no hal] at h; simpa using h, HB3.out⟩
                  case measure => simp [intOf]; omega
    · have hk' : k = n := by omega
      have hfin := hidI (show done = D from by
        rw [hk', List.drop_eq_nil_of_le (by have := HN.out; omega)] at heq
        simpa [Pl.diff] using heq)
      obtain ⟨x5, n5, y5, rfl⟩ : ∃ x n y, u5 = .slice x n y := by obtain ⟨x, y, h, _⟩ := out_rs hout (len_of_append heq hDl); exact ⟨_, _, _, h⟩
      have HO := hidI (out_rs hout (len_of_append heq hDl))
      have HOO := hidI hout
      have HW := hidI hbw
      have c4 : wr.heap[w.heap.size + 1 + 1]? = some (.cells #[.slice none 0 0] 28 (0, 0)) := (hbel.block _ (by omega)).trans (W0_res w _ _)
      have c5 := cell_of_one c4
      have c6 := free_of_one c4
      have c7 : (wr.setCell ⟨w.heap.size + 1 + 1, 0, none⟩ (.slice x5 n5 y5)).cell? ⟨w.heap.size + 1 + 1, 0, none⟩ = some (.slice x5 n5 y5) := cell_of_one (one_setCell c4)
      have hb9 : Below w.heap.size w (wr.setCell ⟨w.heap.size + 1 + 1, 0, none⟩ (.slice x5 n5 y5)) := hbw.setCell (by simp only; omega) _
      have ho9 : Rs (wr.setCell ⟨w.heap.size + 1 + 1, 0, none⟩ (.slice x5 n5 y5)) (.slice x5 n5 y5) done := by
        refine out_rs (hout.setCell (fun e => ?_) _) (len_of_append heq hDl)
        have := hout.base _ e
        simp only at this
        omega
      have HB9 := hidI hb9
      have HO9 := hidI ho9
      clear hcells heq hout hrest hbel hbw c4 hb9 ho9
      go_wp2
      exact bodyPost_ret (v := .agg #[.slice x5 n5 y5]) (by simp [results, Try.results9, go_sem, c7]) rfl ⟨_, rfl, hfin.out ▸ HO9.out, HB9.out⟩
end Go.Proofs.Qxb6630674a
