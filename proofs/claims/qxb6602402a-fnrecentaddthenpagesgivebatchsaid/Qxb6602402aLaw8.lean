import Derived.Test.Qxb6602402aAdd
import Derived.Test.Qxb6602402aBytes
import Derived.Test.Qxb6602402aReads
import Derived.Deep.QuietTactic
import Derived.BigQuiet
namespace Go.Proofs.Qxb6602402a
open Go.RowKit
set_option linter.unusedVariables false

theorem seg_all (es : List Hd) : seg es 0 es.length = es := by simp [seg]

/-- What one page of the batch is, in the world that 'from' leaves. -/
theorem page_of {f i : Nat} {m : Int} {es bs : List Hd} {w w' : World} {e : Ending} {p : Nat} (hR : FromR f i m (es ++ bs) w e w') (hi : i = f + es.length + p) (hp : p < bs.length) (hn : es.length + bs.length ≤ 1048576) (hsum : sumL (es ++ bs) ≤ 1048576)
    (hE : Els w' (es ++ bs)) :
    ∃ (P g cap : Nat), 1 ≤ P ∧ P ≤ bs.length - p ∧ e = .returned (.tuple #[.slice (some ⟨g, 0, none⟩) P cap, .bool true]) ∧
      (∃ S : Nat, (1 < P → (S : Int) ≤ m) ∧ Calls Try.prog 13 #[.slice (some ⟨g, 0, none⟩) P cap, .int .i64 0, .int .i64 P] w' fun e w'' => e = .returned (.int .i64 S) ∧ w'' = w') ∧
      (∀ j, j < P → ∃ A L C, w'.cell? ⟨g, j, none⟩ = some (.slice A L C) ∧ bs.getD (p + j) nilHd = ⟨A, L, C⟩ ∧ ElOK w' ⟨A, L, C⟩) := by
  obtain ⟨hB, hR⟩ := hR
  have hl : (es ++ bs).length = es.length + bs.length := List.length_append
  rcases hR with ⟨h1, _⟩ | ⟨h1, _⟩ | ⟨st, E, g, cap, h1, hP, h2, hg, hrow⟩
  · exfalso; omega
  · exfalso; omega
  · have k1 := hP.lo
    have k2 := hP.hi
    have hst : st = es.length + p := by omega
    have hsl := seg_length (es ++ bs) st E k2
    refine ⟨E - st, g, cap, by omega, by omega, h2, ?_, ?_⟩
    · refine ⟨sumL (seg (es ++ bs) st E), fun h => ?_, ?_⟩
      · have := hP.fits (E - 1) (by omega) (by omega)
        rw [show E - 1 + 1 = E by omega] at this
        exact this
      · have hle : sumL (seg (es ++ bs) st E) ≤ 1048576 := Nat.le_trans (seg_le (es ++ bs) st E) hsum
        have h := sumLens (some ⟨g, 0, none⟩) cap (seg (es ++ bs) st E) 0 ((E - st : Nat) : Int) 0 (E - st) w' rfl rfl (Nat.zero_le _) (by omega) (by omega) hle hrow
        rw [hsl, show ((seg (es ++ bs) st E).take (E - st)).drop 0 = seg (es ++ bs) st E by rw [← hsl]; simp] at h
        exact h
    · intro j hj
      obtain ⟨b', o', A, L, C, x1, x2, x3⟩ := hrow.at (k := j) (by omega)
      injection x1 with x1
      injection x1 with x1 x4
      subst x1; subst x4
      rw [seg_getD (es ++ bs) st E j (by omega)] at x3
      have hm := hE _ (getD_mem (es ++ bs) (st + j) (by omega))
      rw [x3] at hm
      refine ⟨A, L, C, by simpa using x2, ?_, hm⟩
      rw [← x3, List.getD, List.getD, List.getElem?_append_right (by omega), show st + j - es.length = p + j by omega]

set_option maxRecDepth 100000 in
set_option maxHeartbeats 8000000 in
theorem law8 (f : Nat) (s m : Int) (a b : Option Addr) (c c' : Nat) (es bs : List Hd) (w : World) (hf : f ≤ 18446744073709551615) (hs : -9223372036854775808 ≤ s ∧ s ≤ 9223372036854775807) (hm : -9223372036854775808 ≤ m ∧ m ≤ 9223372036854775807)
    (hl : es.length ≤ maxLen) (hr : Row w a es) (he : Els w es) (hl2 : bs.length ≤ maxLen) (hr2 : Row w b bs) (he2 : Els w bs) :
    Calls Try.prog 8 #[.int .u64 f, .slice a es.length c, .int .i64 s, .slice b bs.length c', .int .i64 m] w fun e w' => e = .returned (.bool true) ∧ Below w.heap.size w w' := by
  have hel : ∀ h, h ∈ es → h.n ≤ maxLen := fun h hm => (he h hm).1
  have hel2 : ∀ h, h ∈ bs → h.n ≤ maxLen := fun h hm => (he2 h hm).1
  have HR : Hid (Row w a es ∧ Els w es ∧ es.length ≤ maxLen ∧ (∀ h, h ∈ es → h.n ≤ maxLen)) := ⟨hr, he, hl, hel⟩
  have HR2 : Hid (Row w b bs ∧ Els w bs ∧ bs.length ≤ maxLen ∧ (∀ h, h ∈ bs → h.n ≤ maxLen)) := ⟨hr2, he2, hl2, hel2⟩
  have HMM : Hid (-9223372036854775808 ≤ m ∧ m ≤ 9223372036854775807) := hm
  obtain ⟨hs1, hs2⟩ := hs
  obtain ⟨hm1, hm2⟩ := hm
  clear hr he hel hr2 he2 hel2
  unfold maxLen at hl hl2
  have hnil : ∀ (w : World) (a : Option Addr) (n c n' c' : Nat), (binOp .eql 23 (.slice a n c) (.slice none n' c')).run Try.prog w = .ok (.bool a.isNone) w := fun w a n c n' c' => Lib.run_eql_slice_nil w _ _ a n c n' c' Try.underlying23
  go_enter Try.func8, Try.ntmps8
  go_wp2_with fail
  refine (zz23 f s m a b c c' es bs w HR.out.2.2.1 HR.out.2.2.2 HR.out.1 HR2.out.2.2.1 HR2.out.2.2.2 HR2.out.1).mono ?_
  rintro e w' ⟨⟨r, rfl⟩, rfl⟩
  cases r
  · go_wp2
    go_ret
    exact ⟨rfl, Below.refl _ _⟩
  go_wp2_with fail
  refine (fits a b c c' es bs w' HR.out.2.2.1 HR.out.2.2.2 HR.out.1 HR2.out.2.2.1 HR2.out.2.2.2 HR2.out.1).mono ?_
  rintro e W ⟨hfit, rfl⟩
  rcases hfit with rfl | ⟨rfl, hfit⟩
  · go_wp2
    go_ret
    exact ⟨rfl, Below.refl _ _⟩
  have hN : es.length + bs.length ≤ 43690 := by omega
  have hall : sumL (es ++ bs) ≤ 1048576 := by rw [sumL_append]; omega
  have hsume : sumL es ≤ 1048576 := by omega
  clear hfit
  by_cases hov : 18446744073709551615 < f + (es.length + bs.length)
  · clear HR HR2
    go_wp2
    go_ret
    exact ⟨rfl, Below.refl _ _⟩
  have hfn : f + (es.length + bs.length) ≤ 18446744073709551615 := by omega
  clear hov
  have hdec : decide (18446744073709551615 - ((es.length : Int) + (bs.length : Int)) < (f : Int)) = false := by simp; omega
  go_wp2_with fail
  refine (sumLens a c es 0 es.length 0 es.length W rfl rfl (Nat.zero_le _) (Nat.le_refl _) (by omega) hsume HR.out.1).mono ?_
  rintro e w0 ⟨rfl, hw0⟩
  subst hw0
  rw [show ((sumL ((es.take es.length).drop 0) : Nat) : Int) = ((sumL es : Nat) : Int) by simp]
  rename World => W
  by_cases hse : s = sumL es
  rotate_left
  · have hsb : (s != ((sumL es : Nat) : Int)) = true := by rw [bne_iff_ne]; exact hse
    clear HR HR2
    go_wp2
    go_ret
    exact ⟨rfl, Below.refl _ _⟩
  have hsb : (s != ((sumL es : Nat) : Int)) = false := by rw [bne_eq_false_iff_eq]; exact hse
  have HSE : Hid (s = ((sumL es : Nat) : Int)) := hse
  clear hse
  generalize hSE : ((sumL es : Nat) : Int) = SE at hsb ⊢
  have hsr : -9223372036852678656 ≤ s ∧ s ≤ 9223372036852678655 := by have := HSE.out; omega
  clear hSE
  go_wp2_with fail
  refine (clone_any a c es W (by omega) HR.out.1).mono ?_
  rintro e w1 ⟨a1, rfl, hi1, hb1, ho1, hB1⟩
  have HO1 : Hid ((∀ x, a1 = some x → x.block = W.heap.size) ∧ Owned w1 a1 es ∧ Below W.heap.size W w1) := ⟨hb1, ho1, hB1⟩
  clear hi1 hb1 ho1 hB1
  go_wp2_with fail
  refine (clone_any b c' bs w1 (by omega) (HR2.out.1.below HO1.out.2.2)).mono ?_
  rintro e w2 ⟨b1, rfl, hi2, hb2, ho2, hB2⟩
  have HO2 : Hid ((∀ x, b1 = some x → x.block = w1.heap.size) ∧ Owned w2 b1 bs ∧ Below w1.heap.size w1 w2) := ⟨hb2, ho2, hB2⟩
  clear hi2 hb2 ho2 hB2
  have HSR : Hid (-9223372036852678656 ≤ s ∧ s ≤ 9223372036852678655) := hsr
  clear hsr
  go_wp2_with fail
  refine (zzAdd f s a1 b1 bs.length es bs w2 (by omega) HSR.out hall hfn (HO1.out.2.1.below HO2.out.2.2) HO2.out.2.1).mono ?_
  rintro e w4 ⟨d, a4, c4, z, rfl, hz, hd, hold, hfin, hcap, hcapm, hisnil, hrow4, hg4⟩
  have hd0 : d = 0 := by
    by_cases h0 : d = 0
    · exact h0
    · exfalso
      have h1 := (hold 0 (by omega)).2
      have h2 := HSE.out
      rw [sumL_append] at hall
      simp [sumL] at h1 h2 hall
      omega
  subst hd0
  rw [List.drop_zero] at hrow4
  have hlen : (es ++ bs).length = es.length + bs.length := List.length_append
  rw [Nat.sub_zero, hlen] at hcap
  rw [Nat.sub_zero, hlen, Nat.add_zero]
  have H2 : Hid (Row w4 b1 bs) := by
    refine (HO2.out.2.1.grown hg4 ?_).row
    rintro x rfl h
    have hx := HO2.out.1 x rfl
    obtain ⟨y, hy, hyx⟩ : ∃ y, a1 = some y ∧ y.block = x.block := by
      cases a1 with
      | none => cases h
      | some y => simp at h; exact ⟨y, rfl, h.symm⟩
    have h2 := HO1.out.2.1.lt y hy
    omega
  have HB : Hid (Below W.heap.size W w4) := by
    have hB3 : Below W.heap.size W w2 := HO1.out.2.2.trans (HO2.out.2.2.mono HO1.out.2.2.size)
    refine hB3.grown hg4 hB3.size ?_
    intro k hk
    cases a1 with
    | none => cases hk
    | some y =>
      simp at hk
      have h1 := HO1.out.1 y rfl
      omega
  have HE : Hid (Els w4 (es ++ bs)) := by
    intro h hm
    rcases List.mem_append.1 hm with hm | hm
    · exact (HR.out.2.1 h hm).below HB.out
    · exact (HR2.out.2.1 h hm).below HB.out
  have HFROM : Hid (∀ (w' : World) (i : Nat), Below w4.heap.size w4 w' → i ≤ 18446744073709551615 → Calls Try.prog 12 #[.int .u64 f, .slice a4 (es.length + bs.length) c4, .int .i64 z, .int .u64 i, .int .i64 m] w' (FromR f i m (es ++ bs) w')) := by
    intro w' i hb hi
    have h := zzFrom f i m z a4 c4 (es ++ bs) w' (by omega) hall (by omega) hcapm hi HMM.out (hrow4.below hb)
    rw [hlen] at h
    exact h
  clear hz hold hfin hcap hcapm hisnil hrow4 hg4 HO1 HO2 HR HR2 hd hlen HSE HSR HMM
  go_wp2_with fail
  go_loopw [11, 15] (fun nx ps wx => ∃ (p i : Nat), p ≤ bs.length ∧ nx = .int .u64 i ∧ ps = .int .i64 p ∧ i ≤ 18446744073709551615 ∧ Hid (i = f + es.length + p) ∧ Hid (Below w4.heap.size w4 wx)) (fun _ ps _ => bs.length - (intOf ps).toNat)
  case atStart => exact ⟨0, f + es.length, Nat.zero_le _, by go_num, rfl, by omega, rfl, Below.refl _ _⟩
  case round =>
    obtain ⟨p, i, hp, rfl, rfl, hi, HI, HBr⟩ := hrel
    by_cases hlt : p < bs.length
    · go_wp2_with fail
      refine (HFROM.out wr i HBr.out hi).mono ?_
      intro e w5 hF
      have hB5 : Below w4.heap.size w4 w5 := HBr.out.trans (hF.1.mono HBr.out.size)
      have hE5 : Els w5 (es ++ bs) := HE.out.below hB5
      obtain ⟨P, g, cap, hP1, hP2, rfl, ⟨S, hS, hSC⟩, hQ⟩ := page_of hF HI.out hlt (by omega) hall hE5
      have HB5 : Hid (Below w4.heap.size w4 w5) := hB5
      have HB1 : Hid (Row w5 b1 bs) := H2.out.below hB5
      have HQ : Hid (∀ j, j < P → ∃ A L C, w5.cell? ⟨g, j, none⟩ = some (.slice A L C) ∧ bs.getD (p + j) nilHd = ⟨A, L, C⟩ ∧ ElOK w5 ⟨A, L, C⟩) := hQ
      have HSC : Hid (Calls Try.prog 13 #[.slice (some ⟨g, 0, none⟩) P cap, .int .i64 0, .int .i64 P] w5 fun e w'' => e = .returned (.int .i64 S) ∧ w'' = w5) := hSC
      have hiP : i + P ≤ 18446744073709551615 := by have := HI.out; omega
      have q0 : ((P : Int) == 0) = false := by rw [beq_eq_false_iff_ne]; omega
      have q1 : decide ((bs.length : Int) - (p : Int) < (P : Int)) = false := by simp; omega
      have q1' : ¬ (bs.length : Int) - (p : Int) < (P : Int) := by omega
      clear hF hB5 hE5 hSC hQ HBr HFROM
      by_cases hPP : 1 < P
      · have hS' : (S : Int) ≤ m := hS hPP
        have q2 : decide (1 < (P : Int)) = true := by simp; omega
        have q3 : decide (m < (S : Int)) = false := by simp; omega
        clear hS
        go_wp2_with fail
        refine HSC.out.mono ?_
        rintro e w6 ⟨rfl, hw6⟩
        subst hw6
        rename World => w5
        clear HSC
        go_wp2_with fail
        go_loopw [18] (fun x wx => ∃ (j n : Nat), j ≤ P ∧ x = .int .i64 j ∧ Hid (wx = w5.drewN n)) (fun x _ => P - (intOf x).toNat)
        case atStart => exact ⟨0, 0, by omega, rfl, rfl⟩
        case round =>
            obtain ⟨j, n, hj, rfl, HW⟩ := hrel
            by_cases hjl : j < P
            · obtain ⟨A, L, C, c3, hg, ho⟩ := HQ.out j hjl
              obtain ⟨b1', o1', A1, L1, C1, rfl, c1, he1⟩ := HB1.out.at (k := p + j) (by omega)
              rw [hg] at he1
              injection he1 with q1 q2 q3
              subst q1; subst q2; subst q3
              have HO : Hid (ElOK wr ⟨A, L, C⟩) := by rw [HW.out]; exact ho.drewN n
              have c3' : wr.cell? ⟨g, j, none⟩ = some (.slice A L C) := by rw [HW.out]; simpa using c3
              have c1' : wr.cell? ⟨b1', o1' + (p + j), none⟩ = some (.slice A L C) := by rw [HW.out]; simpa using c1
              have hw1 := wrapN ((p : Int) + (j : Int)) (by omega) (by omega)
              have hw2 : (p : Int) + (j : Int) < (bs.length : Int) := by omega
              have hw3 : ((p : Int) + (j : Int)).toNat = p + j := by omega
              have hw5 : (j : Int) < (P : Int) := by omega
              clear ho c3 c1 hg HQ HB1
              go_wp2
              go_quiet ((go_at_call 14; exact sameBytes_quiet A L C wr _ HO.out))
              go_wp2
              go_roundw
              case rel => exact ⟨j + 1, n + nq, by omega, by go_num, (show wr.drewN nq = _ by rw [HW.out]; simp)⟩
              case measure => simp [intOf]; omega
            · have HN : Hid (Below w4.heap.size w4 wr) := by rw [HW.out]; exact below_drewN HB5.out n
              have hw5 : ¬ (j : Int) < (P : Int) := by omega
              clear HQ HB1 HW HB5
              go_wp2
              go_roundw
              case rel => exact ⟨p + P, i + P, by omega, by go_num, by go_num, by omega, (show i + P = _ by rw [HI.out]; omega), HN⟩
              case measure => simp [intOf]; omega
      · have q2 : decide (1 < (P : Int)) = false := by simp; omega
        clear hS HSC
        go_wp2_with fail
        go_loopw [18] (fun x wx => ∃ (j n : Nat), j ≤ P ∧ x = .int .i64 j ∧ Hid (wx = w5.drewN n)) (fun x _ => P - (intOf x).toNat)
        case atStart => exact ⟨0, 0, by omega, rfl, rfl⟩
        case round =>
            obtain ⟨j, n, hj, rfl, HW⟩ := hrel
            by_cases hjl : j < P
            · obtain ⟨A, L, C, c3, hg, ho⟩ := HQ.out j hjl
              obtain ⟨b1', o1', A1, L1, C1, rfl, c1, he1⟩ := HB1.out.at (k := p + j) (by omega)
              rw [hg] at he1
              injection he1 with q1 q2 q3
              subst q1; subst q2; subst q3
              have HO : Hid (ElOK wr ⟨A, L, C⟩) := by rw [HW.out]; exact ho.drewN n
              have c3' : wr.cell? ⟨g, j, none⟩ = some (.slice A L C) := by rw [HW.out]; simpa using c3
              have c1' : wr.cell? ⟨b1', o1' + (p + j), none⟩ = some (.slice A L C) := by rw [HW.out]; simpa using c1
              have hw1 := wrapN ((p : Int) + (j : Int)) (by omega) (by omega)
              have hw2 : (p : Int) + (j : Int) < (bs.length : Int) := by omega
              have hw3 : ((p : Int) + (j : Int)).toNat = p + j := by omega
              have hw5 : (j : Int) < (P : Int) := by omega
              clear ho c3 c1 hg HQ HB1
              go_wp2
              go_quiet ((go_at_call 14; exact sameBytes_quiet A L C wr _ HO.out))
              go_wp2
              go_roundw
              case rel => exact ⟨j + 1, n + nq, by omega, by go_num, (show wr.drewN nq = _ by rw [HW.out]; simp)⟩
              case measure => simp [intOf]; omega
            · have HN : Hid (Below w4.heap.size w4 wr) := by rw [HW.out]; exact below_drewN HB5.out n
              have hw5 : ¬ (j : Int) < (P : Int) := by omega
              clear HQ HB1 HW HB5
              go_wp2
              go_roundw
              case rel => exact ⟨p + P, i + P, by omega, by go_num, by go_num, by omega, (show i + P = _ by rw [HI.out]; omega), HN⟩
              case measure => simp [intOf]; omega
    · obtain rfl : p = bs.length := by omega
      go_wp2_with fail
      refine (HFROM.out wr i HBr.out hi).mono ?_
      intro e w5 hF
      have hB5 : Below w4.heap.size w4 w5 := HBr.out.trans (hF.1.mono HBr.out.size)
      have HF : Hid (Below W.heap.size W w5) := HB.out.trans (hB5.mono HB.out.size)
      have hl : (es ++ bs).length = es.length + bs.length := List.length_append
      have hend : e = .returned (.tuple #[.slice none 0 0, .bool true]) := by
        have hI := HI.out
        rcases hF.2 with ⟨h1, _⟩ | ⟨_, h2⟩ | ⟨st, E, g, cap, h1, hP, _⟩
        · exfalso; omega
        · exact h2
        · exfalso
          have k1 := hP.lo
          have k2 := hP.hi
          omega
      subst hend
      clear hF hB5 hl HFROM HBr HE H2 HB
      go_wp2
      go_ret
      exact ⟨rfl, HF.out⟩
end Go.Proofs.Qxb6602402a
