import Derived.Test.Qxb6602402aFrom
import Derived.Test.Qxb6602402aBytes
import Derived.Test.Qxb6602402aReads
import Derived.Deep.QuietTactic
import Derived.BigQuiet
namespace Go.Proofs.Qxb6602402a
open Go.RowKit
set_option linter.unusedVariables false

theorem seg_mono (es : List Hd) (l h h' : Nat) (hh : h ≤ h') : sumL (seg es l h) ≤ sumL (seg es l h') := by
  have e : es.take h = (es.take h').take h := by rw [List.take_take, Nat.min_eq_left hh]
  unfold seg
  rw [e]
  have := sumL_take_le ((es.take h').drop l) (h - l)
  rw [List.take_drop] at this
  by_cases hl : l ≤ h
  · rw [show l + (h - l) = h by omega] at this
    exact this
  · have e0 : ((es.take h').take h).drop l = [] := List.drop_of_length_le (by simp; omega)
    rw [e0]; exact Nat.zero_le _

/-- The end found from behind is the end found from the front. -/
theorem page_unique {es : List Hd} {m : Int} {st E k : Nat} (hP : Page es m st E) (h1 : st + 1 ≤ k) (h2 : k ≤ es.length) (hb : ∀ j, k < j → j ≤ es.length → m < ((sumL (seg es st j) : Nat) : Int))
    (hx : k = st + 1 ∨ ((sumL (seg es st k) : Nat) : Int) ≤ m) : k = E := by
  have hlo := hP.lo
  have hhi := hP.hi
  rcases Nat.lt_trichotomy k E with h | h | h
  · have g1 := hb (k + 1) (by omega) (by omega)
    have g2 := hP.fits k (by omega) h
    omega
  · exact h
  · have g1 := hP.full (by omega)
    have g2 := seg_mono es st (E + 1) k (by omega)
    rcases hx with hx | hx <;> omega

set_option maxRecDepth 100000 in
set_option maxHeartbeats 4000000 in
theorem law3 (f i : Nat) (s m : Int) (a : Option Addr) (c : Nat) (es : List Hd) (w : World) (hf : f ≤ 18446744073709551615) (hi : i ≤ 18446744073709551615) (hm : -9223372036854775808 ≤ m ∧ m ≤ 9223372036854775807)
    (hl : es.length ≤ maxLen) (hr : Row w a es) (he : Els w es) :
    Calls Try.prog 3 #[.int .u64 f, .slice a es.length c, .int .i64 s, .int .u64 i, .int .i64 m] w fun e w' => e = .returned (.bool true) ∧ Below w.heap.size w w' := by
  have hel : ∀ h, h ∈ es → h.n ≤ maxLen := fun h hm => (he h hm).1
  have HR : Hid (Row w a es ∧ Els w es ∧ es.length ≤ maxLen ∧ (∀ h, h ∈ es → h.n ≤ maxLen) ∧ (-9223372036854775808 ≤ m ∧ m ≤ 9223372036854775807)) := ⟨hr, he, hl, hel, hm⟩
  obtain ⟨hm1, hm2⟩ := hm
  clear hr he hel
  unfold maxLen at hl
  have hnil : ∀ (w : World) (a : Option Addr) (n c n' c' : Nat), (binOp .eql 23 (.slice a n c) (.slice none n' c')).run Try.prog w = .ok (.bool a.isNone) w := fun w a n c n' c' => Lib.run_eql_slice_nil w _ _ a n c n' c' Try.underlying23
  go_enter Try.func3, Try.ntmps3
  go_wp2_with fail
  refine (zz9 f s i m a c es w HR.out.2.2.1 HR.out.2.2.2.1 HR.out.1).mono ?_
  rintro e w' ⟨⟨r, rfl⟩, rfl⟩
  cases r
  · go_wp2
    go_ret
    exact ⟨rfl, Below.refl _ _⟩
  go_wp2_with fail
  refine (fits a none c 0 es [] w' HR.out.2.2.1 HR.out.2.2.2.1 HR.out.1 (by simp) (by simp) (fun k hk => by simp at hk)).mono ?_
  rintro e W ⟨hfit, rfl⟩
  rcases hfit with rfl | ⟨rfl, hfit⟩
  · go_wp2
    go_ret
    exact ⟨rfl, Below.refl _ _⟩
  have hn : es.length ≤ 43690 := by simp [sumL] at hfit; omega
  have hsum : sumL es ≤ 1048576 := by simp [sumL] at hfit ⊢; omega
  clear hfit
  go_wp2_with fail
  refine (clone_any a c es W (by omega) HR.out.1).mono ?_
  rintro e w1 ⟨a1, rfl, hi1, hb1, ho1, hB1⟩
  have HO1 : Hid (Owned w1 a1 es ∧ Below W.heap.size W w1) := ⟨ho1, hB1⟩
  clear hi1 hb1 ho1 hB1
  go_wp2_with fail
  refine (zzFrom f i m s a1 es.length es w1 (by omega) hsum (Nat.le_refl _) (by unfold maxLen; omega) hi HR.out.2.2.2.2 HO1.out.1.row).mono ?_
  rintro e w2 ⟨hB2, hcase⟩
  have HB : Hid (Below W.heap.size W w2) := HO1.out.2.trans (hB2.mono HO1.out.2.size)
  have H1 : Hid (Row w2 a1 es) := (HO1.out.1.below hB2).row
  have HE : Hid (Els w2 es) := HR.out.2.1.below HB.out
  clear hB2 HO1 HR
  rcases hcase with ⟨h1, rfl⟩ | ⟨h1, rfl⟩ | ⟨st, E, g, cap, hst, hP, rfl, hg, hrow⟩
  · go_wp2
    go_ret
    exact ⟨rfl, HB.out⟩
  · go_wp2
    go_ret
    exact ⟨rfl, HB.out⟩
  · have d1 : decide ((i : Int) < (f : Int)) = false := by simp; omega
    have d2 : decide ((es.length : Int) ≤ (i : Int) - (f : Int)) = false := by have := hP.lo; have := hP.hi; simp; omega
    have h1 : (f : Int) ≤ (i : Int) := by omega
    have h2 : (i : Int) - (f : Int) < (es.length : Int) := by have := hP.lo; have := hP.hi; omega
    have hlo := hP.lo
    have hhi := hP.hi
    have HSI : Hid ((i : Int) - (f : Int) = (st : Int)) := by show (i : Int) - (f : Int) = (st : Int); omega
    have HP : Hid (Page es m st E) := hP
    have HG : Hid (Row w2 (some ⟨g, 0, none⟩) (seg es st E)) := hrow
    clear hP hrow hst
    go_wp2_with fail
    simp only [HSI.out]
    refine (sumLens a1 es.length es st es.length st es.length w2 rfl rfl (by omega) (Nat.le_refl _) (by omega) hsum H1.out).mono ?_
    rintro e w3 ⟨rfl, hw3⟩
    subst hw3
    clear HSI d1 d2 h2
    generalize hT0 : sumL ((es.take es.length).drop st) = t0
    have HT0 : Hid (t0 = sumL (seg es st es.length)) := hT0.symm
    have ht0 : t0 ≤ 1048576 := by rw [← hT0]; exact Nat.le_trans (seg_le es st es.length) hsum
    clear hT0
    go_wp2_with fail
    go_loop [16, 17] (fun en z => ∃ (k t : Nat), st + 1 ≤ k ∧ k ≤ es.length ∧ en = .int .i64 k ∧ z = .int .i64 t ∧ t ≤ 1048576 ∧ Hid (t = sumL (seg es st k)) ∧ Hid (∀ j, k < j → j ≤ es.length → m < ((sumL (seg es st j) : Nat) : Int))) (fun en _ => (intOf en).toNat)
    case atStart => exact ⟨es.length, t0, by omega, Nat.le_refl _, rfl, rfl, ht0, HT0, (fun j h1 h2 => by omega)⟩
    case round =>
      obtain ⟨k, t, hk1, hk2, rfl, rfl, ht, HT, HJ⟩ := hrel
      clear HT0 ht0
      by_cases hgo : st + 1 < k ∧ m < t
      · obtain ⟨hgo1, hgo2⟩ := hgo
        obtain ⟨b, off, A, L, C, rfl, hc, he⟩ := H1.out.at (show k - 1 < es.length by omega)
        have hS := seg_step es st (k - 1) (by omega) (by omega)
        rw [he, show k - 1 + 1 = k by omega, ← HT.out] at hS
        have hS' : t = sumL (seg es st (k - 1)) + L := hS
        have HS : Hid (t - L = sumL (seg es st (k - 1))) := by show t - L = _; omega
        have hLt : L ≤ t := by omega
        have HJ2 : Hid (∀ j, k - 1 < j → j ≤ es.length → m < ((sumL (seg es st j) : Nat) : Int)) := by
          intro j hj1 hj2
          by_cases e : j = k
          · subst e; rw [← HT.out]; exact hgo2
          · exact HJ.out j (by omega) hj2
        clear he hS hS' HJ
        go_wp2
        go_round
        case rel => exact ⟨k - 1, t - L, by omega, by omega, by go_num, by go_num, by omega, HS, HJ2⟩
        case measure => simp [intOf]; omega
      · have hE : k = E := page_unique HP.out hk1 hk2 HJ.out (by
          by_cases e : k = st + 1
          · exact .inl e
          · refine .inr ?_
            rw [← HT.out]
            have : ¬ (m < (t : Int)) := fun h => hgo ⟨by omega, h⟩
            omega)
        subst hE
        have HQ : Hid (∀ j, j < k - st → ∃ b1 off1 A L C, a1 = some ⟨b1, off1, none⟩ ∧ w3.cell? ⟨g, 0 + j, none⟩ = some (.slice A L C) ∧ w3.cell? ⟨b1, off1 + (st + j), none⟩ = some (.slice A L C) ∧ ElOK w3 ⟨A, L, C⟩) := by
          intro j hj
          obtain ⟨b, off, A, L, C, x1, x2, x3⟩ := HG.out.at (k := j) (by rw [seg_length es st k hk2]; exact hj)
          obtain ⟨b1, off1, A1, L1, C1, y1, y2, y3⟩ := H1.out.at (k := st + j) (by omega)
          rw [seg_getD es st k j (by omega)] at x3
          have hm := HE.out _ (getD_mem es (st + j) (by omega))
          rw [y3] at x3 hm
          injection x3 with g1 g2 g3
          subst g1; subst g2; subst g3
          injection x1 with x1
          injection x1 with x1 x4
          subst x1; subst x4
          exact ⟨b1, off1, _, _, _, y1, x2, y2, hm⟩
        have hne : ((((k - st : Nat) : Int)) != (k : Int) - (st : Int)) = false := by rw [bne_eq_false_iff_eq]; omega
        clear HG H1 HE HP HJ HT
        by_cases e1 : st + 1 < k
        · have e2 : ¬ m < (t : Int) := fun h => hgo ⟨e1, h⟩
          have de1 : decide ((st : Int) + 1 < (k : Int)) = true := by simp; omega
          have de2 : decide (m < (t : Int)) = false := by simp; omega
          clear hgo
          go_wp2_with fail
          go_loopw [18] (fun x wr => ∃ (j n : Nat), j ≤ k - st ∧ x = .int .i64 j ∧ Hid (wr = w3.drewN n)) (fun x _ => k - st - (intOf x).toNat)
          case atStart => exact ⟨0, 0, by omega, rfl, rfl⟩
          case round =>
            obtain ⟨j, n, hj, rfl, HW⟩ := hrel
            by_cases hlt : j < k - st
            · obtain ⟨b1, off1, A, L, C, rfl, c3, c1, ho⟩ := HQ.out j hlt
              have HO : Hid (ElOK wr ⟨A, L, C⟩) := by rw [HW.out]; exact ho.drewN n
              have c3' : wr.cell? ⟨g, j, none⟩ = some (.slice A L C) := by rw [HW.out]; simpa using c3
              have c1' : wr.cell? ⟨b1, off1 + (st + j), none⟩ = some (.slice A L C) := by rw [HW.out]; simpa using c1
              have hw1 := wrapN ((st : Int) + (j : Int)) (by omega) (by omega)
              have hw2 : (st : Int) + (j : Int) < (es.length : Int) := by omega
              have hw3 : ((st : Int) + (j : Int)).toNat = st + j := by omega
              have hw4 : (j : Int) < (k : Int) - (st : Int) := by omega
              have hw5 : (j : Int) < ((k - st : Nat) : Int) := by omega
              clear ho c3 c1 HQ
              go_wp2
              go_quiet ((go_at_call 14; exact sameBytes_quiet A L C wr _ HO.out))
              go_wp2
              go_roundw
              case rel => exact ⟨j + 1, n + nq, by omega, by go_num, (show wr.drewN nq = _ by rw [HW.out]; simp)⟩
              case measure => simp [intOf]; omega
            · have HF : Hid (Below W.heap.size W wr) := by rw [HW.out]; exact below_drewN HB.out n
              have hw4 : ¬ (j : Int) < (k : Int) - (st : Int) := by omega
              go_wp2
              go_ret
              exact ⟨rfl, HF.out⟩
        · have de1 : decide ((st : Int) + 1 < (k : Int)) = false := by simp; omega
          clear hgo
          go_wp2_with fail
          go_loopw [18] (fun x wr => ∃ (j n : Nat), j ≤ k - st ∧ x = .int .i64 j ∧ Hid (wr = w3.drewN n)) (fun x _ => k - st - (intOf x).toNat)
          case atStart => exact ⟨0, 0, by omega, rfl, rfl⟩
          case round =>
            obtain ⟨j, n, hj, rfl, HW⟩ := hrel
            by_cases hlt : j < k - st
            · obtain ⟨b1, off1, A, L, C, rfl, c3, c1, ho⟩ := HQ.out j hlt
              have HO : Hid (ElOK wr ⟨A, L, C⟩) := by rw [HW.out]; exact ho.drewN n
              have c3' : wr.cell? ⟨g, j, none⟩ = some (.slice A L C) := by rw [HW.out]; simpa using c3
              have c1' : wr.cell? ⟨b1, off1 + (st + j), none⟩ = some (.slice A L C) := by rw [HW.out]; simpa using c1
              have hw1 := wrapN ((st : Int) + (j : Int)) (by omega) (by omega)
              have hw2 : (st : Int) + (j : Int) < (es.length : Int) := by omega
              have hw3 : ((st : Int) + (j : Int)).toNat = st + j := by omega
              have hw4 : (j : Int) < (k : Int) - (st : Int) := by omega
              have hw5 : (j : Int) < ((k - st : Nat) : Int) := by omega
              clear ho c3 c1 HQ
              go_wp2
              go_quiet ((go_at_call 14; exact sameBytes_quiet A L C wr _ HO.out))
              go_wp2
              go_roundw
              case rel => exact ⟨j + 1, n + nq, by omega, by go_num, (show wr.drewN nq = _ by rw [HW.out]; simp)⟩
              case measure => simp [intOf]; omega
            · have HF : Hid (Below W.heap.size W wr) := by rw [HW.out]; exact below_drewN HB.out n
              have hw4 : ¬ (j : Int) < (k : Int) - (st : Int) := by omega
              go_wp2
              go_ret
              exact ⟨rfl, HF.out⟩
end Go.Proofs.Qxb6602402a
