import Derived.Test.Qxb6602402aFrom
import Derived.Test.Qxb6602402aBytes
import Derived.Test.Qxb6602402aReads
namespace Go.Proofs.Qxb6602402a
open Go.RowKit
set_option linter.unusedVariables false

theorem seg_drop (es : List Hd) (d l h : Nat) (hl : d ≤ l) : seg (es.drop d) (l - d) (h - d) = seg es l h := by
  unfold seg
  rw [List.take_drop, List.drop_drop]
  by_cases hh : d ≤ h
  · rw [show d + (h - d) = h by omega, show d + (l - d) = l by omega]
  · rw [show d + (h - d) = d by omega, show d + (l - d) = l by omega, List.drop_of_length_le (by simp; omega), List.drop_of_length_le (by simp; omega)]

/-- The page behind the drop is the page before it. -/
theorem page_drop {es : List Hd} {m : Int} {d st E st' E' : Nat} (hP : Page es m st E) (hP' : Page (es.drop d) m st' E') (hst : st = st' + d) : E = E' + d := by
  have h1 := hP.lo
  have h2 := hP.hi
  have h3 := hP'.lo
  have h4 := hP'.hi
  rw [List.length_drop] at h4
  have hs : ∀ k, seg (es.drop d) st' k = seg es st (k + d) := by
    intro k
    have := seg_drop es d st (k + d) (by omega)
    rw [show st - d = st' by omega, show k + d - d = k by omega] at this
    exact this
  rcases Nat.lt_trichotomy E (E' + d) with h | h | h
  · exfalso
    have g1 := hP.full (by omega)
    have g2 := hP'.fits (E - d) (by omega) (by omega)
    rw [hs, show E - d + 1 + d = E + 1 by omega] at g2
    omega
  · exact h
  · exfalso
    have g1 := hP'.full (by rw [List.length_drop]; omega)
    have g2 := hP.fits (E' + d) (by omega) (by omega)
    rw [hs, show E' + 1 + d = E' + d + 1 by omega] at g1
    omega

theorem Row.grown {w w' : World} {b off : Nat} {es : List Hd} {row : Option Nat} (h : Row w (some ⟨b, off, none⟩) es) (hg : w.grownBy w' row) (hne : some b ≠ row) : Row w' (some ⟨b, off, none⟩) es := by
  intro k hk
  obtain ⟨b', off', h1, h2⟩ := h k hk
  injection h1 with h1
  injection h1 with h1 h3
  subst h1; subst h3
  exact ⟨b, off, rfl, hg.cell h2 hne⟩

set_option maxRecDepth 100000 in
set_option maxHeartbeats 4000000 in
theorem law4 (f u i : Nat) (s m : Int) (a : Option Addr) (c : Nat) (es : List Hd) (w : World) (hf : f ≤ 18446744073709551615) (hu : u ≤ 18446744073709551615) (hi : i ≤ 18446744073709551615) (hs : s = wrap64 s)
    (hm : -9223372036854775808 ≤ m ∧ m ≤ 9223372036854775807) (hl : es.length ≤ maxLen) (hr : Row w a es) (he : Els w es) :
    Calls Try.prog 4 #[.int .u64 f, .slice a es.length c, .int .i64 s, .int .u64 u, .int .u64 i, .int .i64 m] w fun e w' => e = .returned (.bool true) ∧ Below w.heap.size w w' := by
  have hel : ∀ h, h ∈ es → h.n ≤ maxLen := fun h hm => (he h hm).1
  have HR : Hid (Row w a es ∧ Els w es ∧ s = wrap64 s ∧ es.length ≤ maxLen ∧ (∀ h, h ∈ es → h.n ≤ maxLen) ∧ (-9223372036854775808 ≤ m ∧ m ≤ 9223372036854775807)) := ⟨hr, he, hs, hl, hel, hm⟩
  clear hr he hs hel hm
  unfold maxLen at hl
  have hnil : ∀ (w : World) (a : Option Addr) (n c n' c' : Nat), (binOp .eql 23 (.slice a n c) (.slice none n' c')).run Try.prog w = .ok (.bool a.isNone) w := fun w a n c n' c' => Lib.run_eql_slice_nil w _ _ a n c n' c' Try.underlying23
  go_enter Try.func4, Try.ntmps4
  go_wp2_with fail
  refine (zz15 f s u i m a c es w HR.out.2.2.2.1 HR.out.2.2.2.2.1 HR.out.1).mono ?_
  rintro e w' ⟨⟨r, rfl⟩, rfl⟩
  cases r
  · go_wp2
    go_ret
    exact ⟨rfl, Below.refl _ _⟩
  go_wp2_with fail
  refine (fits a none c 0 es [] w' HR.out.2.2.2.1 HR.out.2.2.2.2.1 HR.out.1 (by simp) (by simp) (fun k hk => by simp at hk)).mono ?_
  rintro e W ⟨hfit, rfl⟩
  rcases hfit with rfl | ⟨rfl, hfit⟩
  · go_wp2
    go_ret
    exact ⟨rfl, Below.refl _ _⟩
  have hn : es.length ≤ 43690 := by simp [sumL] at hfit; omega
  have hsum : sumL es ≤ 1048576 := by simp [sumL] at hfit ⊢; omega
  clear hfit
  by_cases hov : 18446744073709551615 < f + es.length
  · go_wp2
    go_ret
    exact ⟨rfl, Below.refl _ _⟩
  have hfn : f + es.length ≤ 18446744073709551615 := by omega
  clear hov
  have hdec : decide (18446744073709551615 - (es.length : Int) < (f : Int)) = false := by simp; omega
  go_wp2_with fail
  refine (clone_any a c es W (by omega) HR.out.1).mono ?_
  rintro e w1 ⟨a1, rfl, hi1, hb1, ho1, hB1⟩
  have HO1 : Hid ((∀ x, a1 = some x → x.block = W.heap.size) ∧ Owned w1 a1 es ∧ Below W.heap.size W w1) := ⟨hb1, ho1, hB1⟩
  clear hi1 hb1 ho1 hB1
  go_wp2_with fail
  refine (zzFrom f i m s a1 es.length es w1 (by omega) hsum (Nat.le_refl _) (by unfold maxLen; omega) hi HR.out.2.2.2.2.2 HO1.out.2.1.row).mono ?_
  intro e w2 hF2
  have HF2 : Hid (FromR f i m es w1 e w2) := hF2
  obtain ⟨v2, r2, he2⟩ : ∃ v r, e = .returned (.tuple #[v, .bool r]) := by
    rcases hF2.2 with ⟨_, h⟩ | ⟨_, h⟩ | ⟨st, E, g, cap, _, _, h, _⟩
    · exact ⟨_, _, h⟩
    · exact ⟨_, _, h⟩
    · exact ⟨_, _, h⟩
  subst he2
  have H12 : Hid (Owned w2 a1 es) := HO1.out.2.1.below hF2.1
  clear hF2
  go_wp2_with fail
  refine (zzDrop f u s a1 es w2 (by omega) hfn hsum HR.out.2.2.1 H12.out).mono ?_
  rintro e w3 ⟨d, a3, z, rfl, hd, hold, hnew, hi3, hz, hr3, hg3⟩
  have H3 : Hid (Row w3 a3 (es.drop d)) := hr3
  have HG3 : Hid (w2.grownBy w3 (a1.map Addr.block)) := hg3
  have HD : Hid ((∀ j, j < d → f + j ≤ u) ∧ (d < es.length → u < f + d) ∧ d ≤ es.length) := ⟨hold, hnew, hd⟩
  obtain ⟨M, hM⟩ : ∃ M, M = es.length - d := ⟨_, rfl⟩
  rw [← hM]
  have HM : Hid (M = es.length - d) := hM
  have hzr : -9223372036854775808 ≤ z ∧ z ≤ 9223372036854775807 := by rw [hz]; unfold wrap64; omega
  have hdl : (es.drop d).length = M := by rw [List.length_drop, hM]
  have HC := zzFrom (f + d) i m z a3 M (es.drop d) w3 (by omega) (Nat.le_trans (sumL_drop_le _ _) hsum) (by omega) (by unfold maxLen; omega) hi HR.out.2.2.2.2.2 hr3
  rw [hdl, Int.natCast_add] at HC
  have HC' : Hid (Calls Try.prog 12 #[.int .u64 ((f : Int) + (d : Int)), .slice a3 M M, .int .i64 z, .int .u64 i, .int .i64 m] w3 (FromR (f + d) i m (es.drop d) w3)) := HC
  clear hold hnew hi3 hz hr3 hg3 hM hdl HC
  go_wp2_with fail
  refine HC'.out.mono ?_
  intro e w4 hF4
  clear HC'
  have hB4 : Below W.heap.size W w4 := by
    have hB2 : Below W.heap.size W w2 := HO1.out.2.2.trans (HF2.out.1.mono HO1.out.2.2.size)
    have hB3 : Below W.heap.size W w3 := hB2.grown HG3.out hB2.size (by
      intro k hk
      cases a1 with
      | none => cases hk
      | some y =>
        simp at hk
        have := HO1.out.1 y rfl
        omega)
    exact hB3.trans (hF4.1.mono hB3.size)
  have HB4 : Hid (Below W.heap.size W w4) := hB4
  have HE4 : Hid (Els w4 es) := HR.out.2.1.below hB4
  have hdd := HD.out
  have hMd := HM.out
  have hF4b := hF4.1
  have hold := hdd.1
  have hnew := hdd.2.1
  by_cases hcond : u < i ∨ f + es.length ≤ i
  · -- the answers are the same
    have hgoal : (v2 = .slice none 0 0 ∧ e = .returned (.tuple #[.slice none 0 0, .bool r2])) ∨
        ∃ (g2 g4 cap2 cap4 : Nat) (Q : List Hd), v2 = .slice (some ⟨g2, 0, none⟩) Q.length cap2 ∧ e = .returned (.tuple #[.slice (some ⟨g4, 0, none⟩) Q.length cap4, .bool r2]) ∧ Q.length ≤ 1048576 ∧
          Row w4 (some ⟨g2, 0, none⟩) Q ∧ Row w4 (some ⟨g4, 0, none⟩) Q ∧ Els w4 Q := by
      rcases HF2.out.2 with ⟨h1, h2⟩ | ⟨h1, h2⟩ | ⟨st, E, g, cap, h1, hP, h2, hg, hrow⟩
      · have hd0 : d = 0 := by
          by_cases h0 : d = 0
          · exact h0
          · have := hold 0 (by omega)
            omega
        injection h2 with h2
        simp at h2
        obtain ⟨rfl, rfl⟩ := h2
        rcases hF4.2 with ⟨_, g2⟩ | ⟨g1, _⟩ | ⟨st', E', g', cap', g1, _⟩
        · exact .inl ⟨rfl, g2⟩
        · exfalso; omega
        · exfalso; omega
      · injection h2 with h2
        simp at h2
        obtain ⟨rfl, rfl⟩ := h2
        rcases hF4.2 with ⟨g1, _⟩ | ⟨_, g2⟩ | ⟨st', E', g', cap', g1, gP, _⟩
        · exfalso; omega
        · exact .inl ⟨rfl, g2⟩
        · exfalso
          have k1 := gP.lo
          have k2 := gP.hi
          rw [List.length_drop] at k2
          omega
      · have k1 := hP.lo
        have k2 := hP.hi
        injection h2 with h2
        simp at h2
        obtain ⟨rfl, rfl⟩ := h2
        have hui : u < i := by omega
        have hds : d ≤ st := by
          by_cases h0 : d ≤ st
          · exact h0
          · have := hold st (by omega)
            omega
        rcases hF4.2 with ⟨g1, _⟩ | ⟨g1, _⟩ | ⟨st', E', g', cap', g1, gP, g2, g3, g4⟩
        · exfalso; omega
        · exfalso
          rw [List.length_drop] at g1
          omega
        · have hst : st = st' + d := by omega
          have hE := page_drop hP gP hst
          have hseg : seg (es.drop d) st' E' = seg es st E := by
            have := seg_drop es d st E hds
            rw [show st - d = st' by omega, show E - d = E' by omega] at this
            exact this
          rw [hseg] at g4
          have hl2 := seg_length es st E k2
          refine .inr ⟨g, g', cap, cap', seg es st E, ?_, ?_, ?_, ?_, g4, ?_⟩
          · rw [hl2]
          · rw [hl2, g2, show E' - st' = E - st by omega]
          · rw [hl2]; omega
          · refine Row.below (hrow.grown HG3.out ?_) hF4b
            intro h
            cases a1 with
            | none => cases h
            | some y =>
              simp at h
              have := HO1.out.2.1.lt y rfl
              omega
          · intro x hx
            refine HE4.out x ?_
            exact List.mem_of_mem_take (List.mem_of_mem_drop hx)
    clear HF2 hF4 hF4b HO1 H12 HG3 H3 HD HM hdd hMd hold hnew HE4 hB4 HR
    rcases hgoal with ⟨rfl, rfl⟩ | ⟨g2, g4, cap2, cap4, Q, rfl, rfl, hPl, hr2, hr4, hels⟩
    · have HS : Hid (∀ w, Calls Try.prog 17 #[.slice none 0 0, .slice none 0 0] w fun e w' => e = .returned (.bool true) ∧ ∃ n, w' = w.drewN n) :=
        fun w => sameList none none 0 0 [] w (by simp) rfl (fun k hk => by simp at hk) (fun k hk => by simp at hk) (fun x hx => by simp at hx)
      by_cases hui : u < i
      all_goals
        go_wp2_with fail
        refine (HS.out _).mono ?_
        rintro e w5 ⟨rfl, n, rfl⟩
        go_wp2
        go_ret
        exact ⟨rfl, below_drewN HB4.out n⟩
    · have HS : Hid (Calls Try.prog 17 #[.slice (some ⟨g4, 0, none⟩) Q.length cap4, .slice (some ⟨g2, 0, none⟩) Q.length cap2] w4 fun e w' => e = .returned (.bool true) ∧ ∃ n, w' = w4.drewN n) :=
        sameList (some ⟨g4, 0, none⟩) (some ⟨g2, 0, none⟩) cap4 cap2 Q w4 hPl rfl hr4 hr2 hels
      clear hr2 hr4 hels
      generalize Q.length = q at *
      by_cases hui : u < i
      all_goals
        go_wp2_with fail
        refine HS.out.mono ?_
        rintro e w5 ⟨rfl, n, rfl⟩
        go_wp2
        go_ret
        exact ⟨rfl, below_drewN HB4.out n⟩
  · have hgoal : e = .returned (.tuple #[.slice none 0 0, .bool false]) := by
      rcases hF4.2 with ⟨g1, g2⟩ | ⟨g1, _⟩ | ⟨st', E', g', cap', g1, gP, _⟩
      · exact g2
      · exfalso
        rw [List.length_drop] at g1
        omega
      · exfalso
        have k1 := gP.lo
        have k2 := gP.hi
        rw [List.length_drop] at k2
        have := hnew (by omega)
        omega
    subst hgoal
    have h1 : ¬ u < i := fun h => hcond (.inl h)
    have h2 : ¬ f + es.length ≤ i := fun h => hcond (.inr h)
    clear HF2 hF4 hF4b HO1 H12 HG3 H3 HD HM hdd hMd hold hnew HE4 hB4 HR hcond
    go_wp2
    go_ret
    exact ⟨rfl, HB4.out⟩
end Go.Proofs.Qxb6602402a
