import Derived.Test.Qxb6602402aDrop
import Derived.Test.Qxb6602402aBytes
import Derived.Test.Qxb6602402aReads
import Derived.Deep.QuietTactic
import Derived.BigQuiet
namespace Go.Proofs.Qxb6602402a
open Go.RowKit
set_option linter.unusedVariables false

set_option maxRecDepth 100000 in
set_option maxHeartbeats 4000000 in
theorem law5 (f u : Nat) (s : Int) (a : Option Addr) (c : Nat) (es : List Hd) (w : World) (hf : f ≤ 18446744073709551615) (hu : u ≤ 18446744073709551615) (hs : s = wrap64 s)
    (hl : es.length ≤ maxLen) (hr : Row w a es) (he : Els w es) :
    Calls Try.prog 5 #[.int .u64 f, .slice a es.length c, .int .i64 s, .int .u64 u] w fun e w' => e = .returned (.bool true) ∧ Below w.heap.size w w' := by
  have hel : ∀ h, h ∈ es → h.n ≤ maxLen := fun h hm => (he h hm).1
  have HR : Hid (Row w a es ∧ Els w es ∧ s = wrap64 s ∧ es.length ≤ maxLen ∧ ∀ h, h ∈ es → h.n ≤ maxLen) := ⟨hr, he, hs, hl, hel⟩
  clear hr he hs hel
  unfold maxLen at hl
  have hnil : ∀ (w : World) (a : Option Addr) (n c n' c' : Nat), (binOp .eql 23 (.slice a n c) (.slice none n' c')).run Try.prog w = .ok (.bool a.isNone) w := fun w a n c n' c' => Lib.run_eql_slice_nil w _ _ a n c n' c' Try.underlying23
  by_cases hov : es.length ≤ 43690 ∧ 18446744073709551615 < f + es.length
  · obtain ⟨hn, hov⟩ := hov
    go_enter Try.func5, Try.ntmps5
    go_wp2_with fail
    refine (zz18 f s u a c es w HR.out.2.2.2.1 HR.out.2.2.2.2 HR.out.1).mono ?_
    rintro e w' ⟨⟨r, rfl⟩, rfl⟩
    cases r
    · go_wp2
      go_ret
      exact ⟨rfl, Below.refl _ _⟩
    go_wp2_with fail
    refine (fits a none c 0 es [] w' HR.out.2.2.2.1 HR.out.2.2.2.2 HR.out.1 (by simp) (by simp) (fun k hk => by simp at hk)).mono ?_
    rintro e w'' ⟨hfit, rfl⟩
    rcases hfit with rfl | ⟨rfl, hfit⟩
    · go_wp2
      go_ret
      exact ⟨rfl, Below.refl _ _⟩
    clear hfit
    go_wp2
    go_ret
    exact ⟨rfl, Below.refl _ _⟩
  by_cases hn : es.length ≤ 43690
  rotate_left
  · go_enter Try.func5, Try.ntmps5
    go_wp2_with fail
    refine (zz18 f s u a c es w HR.out.2.2.2.1 HR.out.2.2.2.2 HR.out.1).mono ?_
    rintro e w' ⟨⟨r, rfl⟩, rfl⟩
    cases r
    · go_wp2
      go_ret
      exact ⟨rfl, Below.refl _ _⟩
    go_wp2_with fail
    refine (fits a none c 0 es [] w' HR.out.2.2.2.1 HR.out.2.2.2.2 HR.out.1 (by simp) (by simp) (fun k hk => by simp at hk)).mono ?_
    rintro e w'' ⟨hfit, rfl⟩
    rcases hfit with rfl | ⟨rfl, hfit⟩
    · go_wp2
      go_ret
      exact ⟨rfl, Below.refl _ _⟩
    exfalso
    simp [sumL] at hfit
    omega
  have hfn : f + es.length ≤ 18446744073709551615 := by omega
  clear hov
  have hdec : decide (18446744073709551615 - (es.length : Int) < (f : Int)) = false := by simp; omega
  go_enter Try.func5, Try.ntmps5
  go_wp2_with fail
  refine (zz18 f s u a c es w HR.out.2.2.2.1 HR.out.2.2.2.2 HR.out.1).mono ?_
  rintro e w' ⟨⟨r, rfl⟩, rfl⟩
  cases r
  · go_wp2
    go_ret
    exact ⟨rfl, Below.refl _ _⟩
  go_wp2_with fail
  refine (fits a none c 0 es [] w' HR.out.2.2.2.1 HR.out.2.2.2.2 HR.out.1 (by simp) (by simp) (fun k hk => by simp at hk)).mono ?_
  rintro e W ⟨hfit, rfl⟩
  rcases hfit with rfl | ⟨rfl, hfit⟩
  · go_wp2
    go_ret
    exact ⟨rfl, Below.refl _ _⟩
  have hsum : sumL es ≤ 1048576 := by simp [sumL] at hfit ⊢; omega
  clear hfit
  go_wp2_with fail
  refine (clone_any a c es W (by omega) HR.out.1).mono ?_
  rintro e w1 ⟨a1, rfl, hi1, hb1, ho1, hB1⟩
  have HO1 : Hid (a1.isNone = a.isNone ∧ (∀ x, a1 = some x → x.block = W.heap.size) ∧ Owned w1 a1 es ∧ Below W.heap.size W w1) := ⟨hi1, hb1, ho1, hB1⟩
  clear hi1 hb1 ho1 hB1
  go_wp2_with fail
  refine (clone_any a1 es.length es w1 (by omega) HO1.out.2.2.1.row).mono ?_
  rintro e w2 ⟨a2, rfl, hi2, hb2, ho2, hB2⟩
  have HO2 : Hid (a2.isNone = a1.isNone ∧ (∀ x, a2 = some x → x.block = w1.heap.size) ∧ Owned w2 a2 es ∧ Below w1.heap.size w1 w2) := ⟨hi2, hb2, ho2, hB2⟩
  clear hi2 hb2 ho2 hB2
  go_wp2_with fail
  refine (zzDrop f u s a2 es w2 (by omega) hfn hsum HR.out.2.2.1 HO2.out.2.2.1).mono ?_
  rintro e w3 ⟨d, a3, z, rfl, hd, hold, hnew, hi3, hz, hr3, hg3⟩
  have hd3 : (u < f ∧ d = 0) ∨ (f + es.length ≤ u ∧ d = es.length) ∨ ∃ j, u = f + j ∧ j < es.length ∧ d = j + 1 := by
    by_cases h1 : u < f
    · refine .inl ⟨h1, ?_⟩
      by_cases h0 : d = 0
      · exact h0
      · have := hold 0 (by omega); omega
    · by_cases h2 : f + es.length ≤ u
      · refine .inr (.inl ⟨h2, ?_⟩)
        by_cases h0 : d < es.length
        · have := hnew h0; omega
        · omega
      · refine .inr (.inr ⟨u - f, by omega, by omega, ?_⟩)
        have h3 : d < es.length → u < f + d := hnew
        have h4 : 0 < d → f + (d - 1) ≤ u := fun h => hold (d - 1) (by omega)
        by_cases h0 : 0 < d
        · have := h4 h0; omega
        · have := h3 (by omega); omega
  have H1 : Hid (Owned w3 a1 es) := by
    refine (HO1.out.2.2.1.below HO2.out.2.2.2).grown hg3 ?_
    rintro x rfl h
    have hx := HO1.out.2.2.1.lt x rfl
    obtain ⟨y, hy, hyx⟩ : ∃ y, a2 = some y ∧ y.block = x.block := by
      cases a2 with
      | none => cases h
      | some y => simp at h; exact ⟨y, rfl, h.symm⟩
    have := HO2.out.2.1 y hy
    omega
  have HB : Hid (Below W.heap.size W w3) := by
    have hB2 : Below W.heap.size W w2 := HO1.out.2.2.2.trans (HO2.out.2.2.2.mono HO1.out.2.2.2.size)
    refine hB2.grown hg3 hB2.size ?_
    intro k hk
    cases a2 with
    | none => cases hk
    | some y =>
      simp at hk
      have := HO2.out.2.1 y rfl
      have := HO1.out.2.2.2.size
      omega
  have HE : Hid (Els w3 es) := HR.out.2.1.below HB.out
  have HS := fun (x : Int) (hx : x = d) => sumLens a1 es.length es 0 x 0 d w3 rfl hx (Nat.zero_le _) hd (by omega) hsum H1.out.row
  have hS : ((sumL ((es.take d).drop 0) : Nat) : Int) = ((sumL (es.take d) : Nat) : Int) := by simp
  rw [hS] at HS
  have hSb : 0 ≤ ((sumL (es.take d) : Nat) : Int) ∧ ((sumL (es.take d) : Nat) : Int) ≤ 1048576 := by
    have := sumL_take_le es d
    omega
  obtain ⟨hS0, hS1⟩ := hSb
  clear hS
  subst hz
  generalize ((sumL (es.take d) : Nat) : Int) = S at *
  have HC : Hid (∀ x : Int, x = d → Calls Try.prog 13 #[.slice a1 es.length es.length, .int .i64 0, .int .i64 x] w3 fun e w' => e = .returned (.int .i64 S) ∧ w' = w3) := HS
  clear HS
  have hnn : a3.isNone = a1.isNone := by rw [hi3, HO2.out.1]
  have H3 : Hid (Row w3 a3 (es.drop d)) := hr3
  have HP : Hid (∀ k, k < es.length - d → ∃ b off b1 off1 A L C, a3 = some ⟨b, off, none⟩ ∧ a1 = some ⟨b1, off1, none⟩ ∧ w3.cell? ⟨b, off + k, none⟩ = some (.slice A L C) ∧
      w3.cell? ⟨b1, off1 + (d + k), none⟩ = some (.slice A L C) ∧ ElOK w3 ⟨A, L, C⟩) := by
    intro k hk
    obtain ⟨b, off, A, L, C, e1, e2, e3⟩ := H3.out.at (k := k) (by simp; omega)
    obtain ⟨b1, off1, A1, L1, C1, f1, f2, f3⟩ := H1.out.row.at (k := d + k) (by omega)
    rw [getD_drop] at e3
    have hm := HE.out _ (getD_mem es (d + k) (by omega))
    rw [f3] at e3 hm
    injection e3 with g1 g2 g3
    subst g1; subst g2; subst g3
    exact ⟨b, off, b1, off1, _, _, _, e1, f1, e2, f2, hm⟩
  clear hi3 hr3 hg3 HO1 HO2 hold hnew HR H1 H3 HE
  rcases hd3 with ⟨h1, rfl⟩ | ⟨h1, rfl⟩ | ⟨j, hj, h1, hdj⟩
  · have h1' : decide ((f : Int) ≤ (u : Int)) = false := by simp; omega
    go_wp2_with fail
    refine (HC.out _ (by omega)).mono ?_
    rintro e w4 ⟨rfl, rfl⟩
    clear HC
    go_wp2_with fail
    go_loopw [15] (fun i wr => ∃ (k n : Nat), k ≤ es.length - 0 ∧ i = .int .i64 k ∧ Hid (wr = w4.drewN n)) (fun i _ => es.length - 0 - (intOf i).toNat)
    case atStart => exact ⟨0, 0, by omega, rfl, rfl⟩
    case round =>
      obtain ⟨k, n, hk, rfl, HW⟩ := hrel
      by_cases hlt : k < es.length - 0
      · obtain ⟨b, off, b1, off1, A, L, C, rfl, rfl, c3, c1, ho⟩ := HP.out k hlt
        have HO : Hid (ElOK wr ⟨A, L, C⟩) := by rw [HW.out]; exact ho.drewN n
        have c3' : wr.cell? ⟨b, off + k, none⟩ = some (.slice A L C) := by rw [HW.out]; simpa using c3
        have c1' : wr.cell? ⟨b1, off1 + (0 + k), none⟩ = some (.slice A L C) := by rw [HW.out]; simpa using c1
        have hw1 := wrapN ((0 : Int) + (k : Int)) (by omega) (by omega)
        have hw2 : (0 : Int) + (k : Int) < (es.length : Int) := by omega
        have hw3 : ((0 : Int) + (k : Int)).toNat = 0 + k := by omega
        try simp only [Int.zero_add, Nat.zero_add] at hw1 hw2 hw3 c1'
        clear ho c3 c1 HP
        go_wp2
        go_quiet ((go_at_call 14; exact sameBytes_quiet A L C wr _ HO.out))
        go_wp2
        go_roundw
        case rel => exact ⟨k + 1, n + nq, by omega, by go_num, (show wr.drewN nq = _ by rw [HW.out]; simp)⟩
        case measure => simp [intOf]; omega
      · have HF : Hid (Below W.heap.size W wr) := by rw [HW.out]; exact below_drewN HB.out n
        go_wp2
        go_ret
        exact ⟨rfl, HF.out⟩
  · go_wp2_with fail
    refine (HC.out _ (by omega)).mono ?_
    rintro e w4 ⟨rfl, rfl⟩
    clear HC
    have e0 : es.length - es.length = 0 := by omega
    go_wp2_with fail
    refine wp_loop_rounds 1 ?_
    rw [rounds_succ]
    go_wp2
    go_ret
    exact ⟨rfl, HB.out⟩
  · have h2 : f ≤ u := by omega
    have h2' : decide ((f : Int) ≤ (u : Int)) = true := by simp; omega
    have h3 : (u : Int) - (f : Int) < (es.length : Int) := by omega
    have h3' : decide ((es.length : Int) ≤ (u : Int) - (f : Int)) = false := by simp; omega
    have hcmp : ((f : Int) + (d : Int) != (f : Int) + ((u : Int) - (f : Int) + 1)) = false := by rw [bne_eq_false_iff_eq]; omega
    have hcmp2 : ((f : Int) + (d : Int) != (u : Int) + 1) = false := by rw [bne_eq_false_iff_eq]; omega
    have HD : Hid ((u : Int) - (f : Int) + 1 = (d : Int)) := by show (u : Int) - (f : Int) + 1 = (d : Int); omega
    have hdp : 1 ≤ d := by omega
    clear hj hdj
    go_wp2_with fail
    simp only [HD.out]
    refine (HC.out _ (by omega)).mono ?_
    rintro e w4 ⟨rfl, rfl⟩
    clear HC
    go_wp2_with fail
    go_loopw [15] (fun i wr => ∃ (k n : Nat), k ≤ es.length - d ∧ i = .int .i64 k ∧ Hid (wr = w4.drewN n)) (fun i _ => es.length - d - (intOf i).toNat)
    case atStart => exact ⟨0, 0, by omega, rfl, rfl⟩
    case round =>
      obtain ⟨k, n, hk, rfl, HW⟩ := hrel
      by_cases hlt : k < es.length - d
      · obtain ⟨b, off, b1, off1, A, L, C, rfl, rfl, c3, c1, ho⟩ := HP.out k hlt
        have HO : Hid (ElOK wr ⟨A, L, C⟩) := by rw [HW.out]; exact ho.drewN n
        have c3' : wr.cell? ⟨b, off + k, none⟩ = some (.slice A L C) := by rw [HW.out]; simpa using c3
        have c1' : wr.cell? ⟨b1, off1 + (d + k), none⟩ = some (.slice A L C) := by rw [HW.out]; simpa using c1
        have hw1 := wrapN ((d : Int) + (k : Int)) (by omega) (by omega)
        have hw2 : (d : Int) + (k : Int) < (es.length : Int) := by omega
        have hw3 : ((d : Int) + (k : Int)).toNat = d + k := by omega
        try simp only [Int.zero_add, Nat.zero_add] at hw1 hw2 hw3 c1'
        clear ho c3 c1 HP
        go_wp2
        go_quiet ((go_at_call 14; exact sameBytes_quiet A L C wr _ HO.out))
        go_wp2
        go_roundw
        case rel => exact ⟨k + 1, n + nq, by omega, by go_num, (show wr.drewN nq = _ by rw [HW.out]; simp)⟩
        case measure => simp [intOf]; omega
      · have HF : Hid (Below W.heap.size W wr) := by rw [HW.out]; exact below_drewN HB.out n
        go_wp2
        go_ret
        exact ⟨rfl, HF.out⟩
end Go.Proofs.Qxb6602402a
