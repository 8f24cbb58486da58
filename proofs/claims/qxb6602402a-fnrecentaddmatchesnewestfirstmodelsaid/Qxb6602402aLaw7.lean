import Derived.Test.Qxb6602402aAdd
import Derived.Test.Qxb6602402aBytes
import Derived.Test.Qxb6602402aReads
import Derived.Deep.QuietTactic
import Derived.BigQuiet
namespace Go.Proofs.Qxb6602402a
open Go.RowKit
set_option linter.unusedVariables false

theorem sumL_drop_mono (all : List Hd) (i j : Nat) (h : i ≤ j) : sumL (all.drop j) ≤ sumL (all.drop i) := by
  have e : all.drop j = (all.drop i).drop (j - i) := by rw [List.drop_drop, show i + (j - i) = j by omega]
  rw [e]
  exact sumL_drop_le _ _

theorem sumL_drop_succ (all : List Hd) (k : Nat) (h : k < all.length) : sumL (all.drop k) = (all.getD k nilHd).n + sumL (all.drop (k + 1)) := by
  rw [List.drop_eq_getElem_cons h, sumL_cons, List.getD, List.getElem?_eq_getElem h]; rfl

theorem sumL_split (all : List Hd) (d : Nat) : sumL (all.take d) + sumL (all.drop d) = sumL all := by
  rw [← sumL_append, List.take_append_drop]

/-- The number dropped from the front, told by the run that is kept from behind. -/
theorem add_end {all : List Hd} {ex : Int} {d K : Nat} (hd : d ≤ all.length) (hold : ∀ j, j < d → 1 < all.length - j ∧ 67108864 < ex + sumL (all.drop j)) (hfin : ¬ (1 < all.length - d ∧ 67108864 < ex + sumL (all.drop d)))
    (hK : K ≤ all.length) (hsteps : ∀ j, j < K → ex + sumL (all.drop (all.length - j - 1)) ≤ 67108864) (hexit : K = all.length ∨ 67108864 < ex + sumL (all.drop (all.length - K - 1))) :
    (0 < K ∨ all.length = 0 → d = all.length - K) ∧ (K = 0 → 0 < all.length → d = all.length - 1) := by
  constructor
  · intro h0
    rcases Nat.lt_trichotomy d (all.length - K) with h | h | h
    · exfalso
      have hK0 : 0 < K := by omega
      have h1 : 67108864 < ex + sumL (all.drop (all.length - K - 1)) := by
        rcases hexit with e | e
        · omega
        · exact e
      have h2 := sumL_drop_mono all d (all.length - K - 1) (by omega)
      exact hfin ⟨by omega, by omega⟩
    · exact h
    · exfalso
      have h1 := hold (all.length - K) h
      by_cases hK0 : K = 0
      · omega
      · have h2 := hsteps (K - 1) (by omega)
        rw [show all.length - (K - 1) - 1 = all.length - K by omega] at h2
        omega
  · intro hK0 hN
    subst hK0
    have h1 : 67108864 < ex + sumL (all.drop (all.length - 0 - 1)) := by
      rcases hexit with e | e
      · omega
      · exact e
    rw [Nat.sub_zero] at h1
    rcases Nat.lt_trichotomy d (all.length - 1) with h | h | h
    · exfalso
      have h2 := sumL_drop_mono all d (all.length - 1) (by omega)
      exact hfin ⟨by omega, by omega⟩
    · exact h
    · exfalso
      have h2 := hold (all.length - 1) h
      omega

theorem Row.drewN {w : World} {a : Option Addr} {es : List Hd} (h : Row w a es) (n : Nat) : Row (w.drewN n) a es := by
  intro k hk
  obtain ⟨b, off, h1, h2⟩ := h k hk
  exact ⟨b, off, h1, by simpa using h2⟩

/-- elemAtB1, the header written out. -/
theorem elemAt' (a a2 : Option Addr) (c c2 : Nat) (es bs : List Hd) (k : Nat) (x : Int) (A : Option Addr) (L C : Nat) (w : World) (he : (es ++ bs).getD k nilHd = ⟨A, L, C⟩) (ex : x = k) (hk : k < es.length + bs.length)
    (hn : es.length ≤ 1048576) (hn2 : bs.length ≤ 1048576) (hr : Row w a es) (hr2 : Row w a2 bs) :
    Calls Try.prog 22 #[.slice a es.length c, .slice a2 bs.length c2, .int .i64 x] w fun e w' => e = .returned (.slice A L C) ∧ w' = w := by
  have h := elemAt a a2 c c2 es bs k x w ex hk hn hn2 hr hr2
  rw [he] at h
  exact h

set_option maxRecDepth 100000 in
set_option maxHeartbeats 8000000 in
theorem law7 (f : Nat) (s : Int) (a b : Option Addr) (c c' : Nat) (es bs : List Hd) (w : World) (hf : f ≤ 18446744073709551615) (hs : -9223372036854775808 ≤ s ∧ s ≤ 9223372036854775807)
    (hl : es.length ≤ maxLen) (hr : Row w a es) (he : Els w es) (hl2 : bs.length ≤ maxLen) (hr2 : Row w b bs) (he2 : Els w bs) :
    Calls Try.prog 7 #[.int .u64 f, .slice a es.length c, .int .i64 s, .slice b bs.length c'] w fun e w' => e = .returned (.bool true) ∧ Below w.heap.size w w' := by
  have hel : ∀ h, h ∈ es → h.n ≤ maxLen := fun h hm => (he h hm).1
  have hel2 : ∀ h, h ∈ bs → h.n ≤ maxLen := fun h hm => (he2 h hm).1
  have HR : Hid (Row w a es ∧ Els w es ∧ es.length ≤ maxLen ∧ (∀ h, h ∈ es → h.n ≤ maxLen)) := ⟨hr, he, hl, hel⟩
  have HR2 : Hid (Row w b bs ∧ Els w bs ∧ bs.length ≤ maxLen ∧ (∀ h, h ∈ bs → h.n ≤ maxLen)) := ⟨hr2, he2, hl2, hel2⟩
  obtain ⟨hs1, hs2⟩ := hs
  clear hr he hel hr2 he2 hel2
  unfold maxLen at hl hl2
  have hnil : ∀ (w : World) (a : Option Addr) (n c n' c' : Nat), (binOp .eql 23 (.slice a n c) (.slice none n' c')).run Try.prog w = .ok (.bool a.isNone) w := fun w a n c n' c' => Lib.run_eql_slice_nil w _ _ a n c n' c' Try.underlying23
  by_cases hN : es.length + bs.length ≤ 43690
  rotate_left
  · go_enter Try.func7, Try.ntmps7
    go_wp2_with fail
    refine (zz20 f s a b c c' es bs w HR.out.2.2.1 HR.out.2.2.2 HR.out.1 HR2.out.2.2.1 HR2.out.2.2.2 HR2.out.1).mono ?_
    rintro e w' ⟨⟨r, rfl⟩, rfl⟩
    cases r
    · go_wp2
      go_ret
      exact ⟨rfl, Below.refl _ _⟩
    go_wp2_with fail
    refine (fits a b c c' es bs w' HR.out.2.2.1 HR.out.2.2.2 HR.out.1 HR2.out.2.2.1 HR2.out.2.2.2 HR2.out.1).mono ?_
    rintro e w'' ⟨hfit, rfl⟩
    rcases hfit with rfl | ⟨rfl, hfit⟩
    · go_wp2
      go_ret
      exact ⟨rfl, Below.refl _ _⟩
    exfalso
    omega
  by_cases hguard : f + (es.length + bs.length) ≤ 18446744073709551615 ∧ -9223372036852678656 ≤ s ∧ s ≤ 9223372036852678655
  rotate_left
  · go_enter Try.func7, Try.ntmps7
    go_wp2_with fail
    refine (zz20 f s a b c c' es bs w HR.out.2.2.1 HR.out.2.2.2 HR.out.1 HR2.out.2.2.1 HR2.out.2.2.2 HR2.out.1).mono ?_
    rintro e w' ⟨⟨r, rfl⟩, rfl⟩
    cases r
    · go_wp2
      go_ret
      exact ⟨rfl, Below.refl _ _⟩
    go_wp2_with fail
    refine (fits a b c c' es bs w' HR.out.2.2.1 HR.out.2.2.2 HR.out.1 HR2.out.2.2.1 HR2.out.2.2.2 HR2.out.1).mono ?_
    rintro e w'' ⟨hfit, rfl⟩
    rcases hfit with rfl | ⟨rfl, hfit⟩
    · go_wp2
      go_ret
      exact ⟨rfl, Below.refl _ _⟩
    clear hfit HR HR2
    by_cases g1 : 18446744073709551615 < f + (es.length + bs.length)
    · clear hguard
      go_wp2
      go_ret
      exact ⟨rfl, Below.refl _ _⟩
    · by_cases g2 : 9223372036852678655 < s
      · clear hguard
        go_wp2
        go_ret
        exact ⟨rfl, Below.refl _ _⟩
      · have g3 : s < -9223372036852678656 := by omega
        clear hguard
        go_wp2
        go_ret
        exact ⟨rfl, Below.refl _ _⟩
  obtain ⟨hfn, hs3, hs4⟩ := hguard
  have hdec : decide (18446744073709551615 - ((es.length : Int) + (bs.length : Int)) < (f : Int)) = false := by simp; omega
  have hdec2 : decide (9223372036852678655 < s) = false := by simp; omega
  have hdec3 : decide (s < -9223372036852678656) = false := by simp; omega
  go_enter Try.func7, Try.ntmps7
  go_wp2_with fail
  refine (zz20 f s a b c c' es bs w HR.out.2.2.1 HR.out.2.2.2 HR.out.1 HR2.out.2.2.1 HR2.out.2.2.2 HR2.out.1).mono ?_
  rintro e w' ⟨⟨r, rfl⟩, rfl⟩
  cases r
  · go_wp2
    go_ret
    exact ⟨rfl, Below.refl _ _⟩
  go_wp2_with fail
  refine (fits a b c c' es bs w' HR.out.2.2.1 HR.out.2.2.2 HR.out.1 HR2.out.2.2.1 HR2.out.2.2.2 HR2.out.1).mono ?_
  rintro e W ⟨hfit, rfl⟩
  rcases hfit with rfl | ⟨rfl, hfit⟩
  · go_wp2
    go_ret
    exact ⟨rfl, Below.refl _ _⟩
  have hall : sumL (es ++ bs) ≤ 1048576 := by rw [sumL_append]; omega
  have hsume : sumL es ≤ 1048576 := by omega
  clear hfit
  go_wp2_with fail
  refine (clone_any a c es W (by omega) HR.out.1).mono ?_
  rintro e w1 ⟨a1, rfl, hi1, hb1, ho1, hB1⟩
  have HO1 : Hid ((∀ x, a1 = some x → x.block = W.heap.size) ∧ Owned w1 a1 es ∧ Below W.heap.size W w1) := ⟨hb1, ho1, hB1⟩
  clear hi1 hb1 ho1 hB1
  go_wp2_with fail
  refine (clone_any b c' bs w1 (by omega) (HR2.out.1.below HO1.out.2.2)).mono ?_
  rintro e w2 ⟨b1, rfl, hi2, hb2, ho2, hB2⟩
  have HO2 : Hid ((∀ x, b1 = some x → x.block = w1.heap.size) ∧ Owned w2 b1 bs ∧ Below w1.heap.size w1 w2) := ⟨hb2, ho2, hB2⟩
  clear hi2 hb2 ho2 hB2
  go_wp2_with fail
  refine (clone_any a1 es.length es w2 (by omega) (HO1.out.2.1.below HO2.out.2.2).row).mono ?_
  rintro e w3 ⟨a3, rfl, hi3, hb3, ho3, hB3⟩
  have HO3 : Hid (a3.isNone = a1.isNone ∧ (∀ x, a3 = some x → x.block = w2.heap.size) ∧ Owned w3 a3 es ∧ Below w2.heap.size w2 w3) := ⟨hi3, hb3, ho3, hB3⟩
  clear hi3 hb3 ho3 hB3
  go_wp2_with fail
  refine (zzAdd f s a3 b1 bs.length es bs w3 (by omega) ⟨hs3, hs4⟩ hall hfn HO3.out.2.2.1 (HO2.out.2.1.below HO3.out.2.2.2)).mono ?_
  rintro e w4 ⟨d, a4, c4, z, rfl, hz, hd, hold, hfin, hcap, hcapm, hisnil, hrow4, hg4⟩
  have hB23 : Below w1.heap.size w1 w3 := HO2.out.2.2.trans (HO3.out.2.2.2.mono HO2.out.2.2.size)
  have H1 : Hid (Row w4 a1 es) := by
    refine ((HO1.out.2.1.below hB23).grown hg4 ?_).row
    rintro x rfl h
    have hx := HO1.out.2.1.lt x rfl
    obtain ⟨y, hy, hyx⟩ : ∃ y, a3 = some y ∧ y.block = x.block := by
      cases a3 with
      | none => cases h
      | some y => simp at h; exact ⟨y, rfl, h.symm⟩
    have h2 := HO3.out.2.1 y hy
    have h3 := HO2.out.2.2.size
    omega
  have H2 : Hid (Row w4 b1 bs) := by
    refine ((HO2.out.2.1.below HO3.out.2.2.2).grown hg4 ?_).row
    rintro x rfl h
    have hx := HO2.out.2.1.lt x rfl
    obtain ⟨y, hy, hyx⟩ : ∃ y, a3 = some y ∧ y.block = x.block := by
      cases a3 with
      | none => cases h
      | some y => simp at h; exact ⟨y, rfl, h.symm⟩
    have h2 := HO3.out.2.1 y hy
    omega
  have HB : Hid (Below W.heap.size W w4) := by
    have hB3 : Below W.heap.size W w3 := HO1.out.2.2.trans (hB23.mono HO1.out.2.2.size)
    refine hB3.grown hg4 hB3.size ?_
    intro k hk
    cases a3 with
    | none => cases hk
    | some y =>
      simp at hk
      have h1 := HO3.out.2.1 y rfl
      have h2 := HO2.out.2.2.size
      have h3 := HO1.out.2.2.size
      omega
  have HE : Hid (Els w4 (es ++ bs)) := by
    intro h hm
    rcases List.mem_append.1 hm with hm | hm
    · exact (HR.out.2.1 h hm).below HB.out
    · exact (HR2.out.2.1 h hm).below HB.out
  obtain ⟨ex, hex⟩ : ∃ ex : Int, ex = s - sumL es := ⟨_, rfl⟩
  have hD : ∀ j, s + sumL bs - sumL ((es ++ bs).take j) = ex + sumL ((es ++ bs).drop j) := by
    intro j
    have h1 := sumL_split (es ++ bs) j
    rw [sumL_append] at h1
    omega
  have HADD : Hid (∀ K, K ≤ (es ++ bs).length → (∀ j, j < K → ex + sumL ((es ++ bs).drop ((es ++ bs).length - j - 1)) ≤ 67108864) → (K = (es ++ bs).length ∨ 67108864 < ex + sumL ((es ++ bs).drop ((es ++ bs).length - K - 1))) →
      (0 < K ∨ (es ++ bs).length = 0 → d = (es ++ bs).length - K) ∧ (K = 0 → 0 < (es ++ bs).length → d = (es ++ bs).length - 1)) := by
    intro K hK h1 h2
    exact add_end hd (fun j hj => by rw [← hD]; exact hold j hj) (by rw [← hD]; exact hfin) hK h1 h2
  have HZ : Hid (z = ex + sumL ((es ++ bs).drop d)) := by
    show z = _
    rw [hz, hD]
  have HISN : Hid (a4.isNone = (a1.isNone && bs.isEmpty)) := by
    show a4.isNone = _
    rw [hisnil, HO3.out.1]
  have HR4 : Hid (Row w4 a4 ((es ++ bs).drop d)) := hrow4
  obtain ⟨M, hM⟩ : ∃ M, M = (es ++ bs).length - d := ⟨_, rfl⟩
  have HM : Hid (M = (es ++ bs).length - d) := hM
  rw [← hM]
  have hlen : (es ++ bs).length = es.length + bs.length := List.length_append
  have hdN : d ≤ es.length + bs.length := by omega
  have hMN : M ≤ es.length + bs.length := by omega
  have hexl : -9223372036853727232 ≤ ex := by omega
  have hexh : ex ≤ 9223372036852678655 := by omega
  have hexs : s - (sumL es : Int) = ex := hex.symm
  have HEX : Hid (s - (sumL es : Int) = ex) := hexs
  have HL : Hid ((es ++ bs).length = es.length + bs.length) := hlen
  have hzl : -9223372036854775808 ≤ z ∧ z ≤ 9223372036854775807 := by
    have := HZ.out
    have := sumL_drop_le (es ++ bs) d
    omega
  obtain ⟨hzl, hzh⟩ := hzl
  clear hz hold hfin hcap hcapm hisnil hrow4 hg4 hB23 HO1 HO2 HO3 HR HR2 hD hex hexs hM hlen hd
  go_wp2_with fail
  refine (sumLens a1 es.length es 0 es.length 0 es.length w4 rfl rfl (Nat.zero_le _) (Nat.le_refl _) (by omega) hsume H1.out).mono ?_
  rintro e w5 ⟨rfl, hw5⟩
  subst hw5
  rw [show ((sumL ((es.take es.length).drop 0) : Nat) : Int) = ((sumL es : Nat) : Int) by simp]
  generalize hSE : ((sumL es : Nat) : Int) = SE at HEX ⊢
  have hse1 : 0 ≤ SE := by omega
  have hse2 : SE ≤ 1048576 := by omega
  clear hSE
  go_wp2_with fail
  simp only [HEX.out]
  clear HEX hse1 hse2
  go_loop [15, 16] (fun x y => ∃ (k t : Nat), k ≤ es.length + bs.length ∧ x = .int .i64 k ∧ y = .int .i64 t ∧ t ≤ 1048576 ∧ Hid (t = sumL ((es ++ bs).drop ((es ++ bs).length - k))) ∧
    Hid (∀ j, j < k → ex + sumL ((es ++ bs).drop ((es ++ bs).length - j - 1)) ≤ 67108864)) (fun x _ => es.length + bs.length - (intOf x).toNat)
  case atStart => exact ⟨0, 0, by omega, rfl, rfl, by omega, (show 0 = sumL ((es ++ bs).drop ((es ++ bs).length - 0)) by simp [sumL]), (fun j hj => by omega)⟩
  case round =>
    obtain ⟨k, t, hk, rfl, rfl, ht, HT, HJ⟩ := hrel
    by_cases hlt : k < es.length + bs.length
    · obtain ⟨A, L, C, he⟩ : ∃ A L C, (es ++ bs).getD ((es ++ bs).length - k - 1) nilHd = ⟨A, L, C⟩ := ⟨_, _, _, rfl⟩
      have hsd := sumL_drop_succ (es ++ bs) ((es ++ bs).length - k - 1) (by rw [HL.out]; omega)
      rw [he, show (es ++ bs).length - k - 1 + 1 = (es ++ bs).length - k by rw [HL.out]; omega, ← HT.out] at hsd
      have HSD : Hid (sumL ((es ++ bs).drop ((es ++ bs).length - k - 1)) = L + t) := hsd
      have hLt : t + L ≤ 1048576 := by
        have h1 := sumL_drop_le (es ++ bs) ((es ++ bs).length - k - 1)
        have h2 : sumL ((es ++ bs).drop ((es ++ bs).length - k - 1)) = L + t := hsd
        omega
      have HC : Hid (Calls Try.prog 22 #[.slice a1 es.length es.length, .slice b1 bs.length bs.length, .int .i64 ((es.length : Int) + (bs.length : Int) - 1 - (k : Int))] w5 fun e w' => e = .returned (.slice A L C) ∧ w' = w5) :=
        elemAt' a1 b1 es.length bs.length es bs ((es ++ bs).length - k - 1) _ A L C w5 he (by rw [HL.out]; omega) (by rw [HL.out]; omega) (by omega) (by omega) H1.out H2.out
      clear he hsd
      by_cases hgo : 67108864 < ex + t + L
      · have hend := HADD.out k (by rw [HL.out]; omega) HJ.out (.inr (by rw [HSD.out]; omega))
        have hlen := HL.out
        by_cases hk0 : k = 0
        · have hd0 : d = (es ++ bs).length - 1 := hend.2 hk0 (by omega)
          have hdk : d + 1 ≤ es.length + bs.length ∧ es.length + bs.length ≤ d + 1 := by omega
          have hMk : M ≤ 1 ∧ 1 ≤ M := by have := HM.out; omega
          have HZ2 : Hid (z = ex + (L : Int)) := by
            show z = ex + (L : Int)
            have h1 := HZ.out
            have h2 := HSD.out
            rw [hk0, Nat.sub_zero, ← hd0] at h2
            have h3 := HT.out
            rw [hk0, Nat.sub_zero, List.drop_of_length_le (Nat.le_refl _)] at h3
            rw [h1, h2, h3]
            simp [sumL]
          have HC2 : Hid (Calls Try.prog 22 #[.slice a1 es.length es.length, .slice b1 bs.length bs.length, .int .i64 ((es.length : Int) + (bs.length : Int) - 1)] w5 fun e w' => e = .returned (.slice A L C) ∧ w' = w5) := by
            have h := HC.out
            rw [show (es.length : Int) + (bs.length : Int) - 1 - (k : Int) = (es.length : Int) + (bs.length : Int) - 1 by omega] at h
            exact h
          have hkb : ((k : Int) == 0) = true := by rw [beq_iff_eq]; omega
          have hcmp2 : (z != ex + (L : Int)) = false := by rw [bne_eq_false_iff_eq]; exact HZ2.out
          have hn0 : decide (0 < (es.length : Int) + (bs.length : Int)) = true := by simp; omega
          obtain ⟨hdk1, hdk2⟩ := hdk
          obtain ⟨hMk1, hMk2⟩ := hMk
          have HK0 : Hid (k = 0) := hk0
          clear hend hd0 hlen HADD HJ HT HSD hk0 HZ2
          go_wp2_with fail
          refine HC.out.mono ?_
          rintro e w6 ⟨rfl, hw6⟩
          subst hw6
          clear HC
          go_wp2_with fail
          refine HC2.out.mono ?_
          rintro e w7 ⟨rfl, hw7⟩
          subst hw7
          rename World => w5
          clear HC2
          have hcmp : ((f : Int) + (d : Int) != (f : Int) + ((es.length : Int) + (bs.length : Int) - 1)) = false := by rw [bne_eq_false_iff_eq]; omega
          have hcmp3 : ((M : Int) != 1) = false := by rw [bne_eq_false_iff_eq]; omega
          have HQ : Hid (∀ j, j < 1 → ∃ b4 o4 A L C, a4 = some ⟨b4, o4, none⟩ ∧ w5.cell? ⟨b4, o4 + j, none⟩ = some (.slice A L C) ∧ (es ++ bs).getD (d + j) nilHd = ⟨A, L, C⟩ ∧ ElOK w5 ⟨A, L, C⟩) := by
            intro j hj
            have hl := HL.out
            obtain ⟨b4, o4, A, L, C, x1, x2, x3⟩ := HR4.out.at (k := j) (by rw [List.length_drop]; omega)
            rw [getD_drop] at x3
            have hm := HE.out _ (getD_mem (es ++ bs) (d + j) (by omega))
            rw [x3] at hm
            exact ⟨b4, o4, A, L, C, x1, x2, x3, hm⟩
          have hisn := HISN.out
          have hbe : bs.isEmpty = ((bs.length : Int) == 0) := by cases bs <;> simp <;> omega
          rw [hbe] at hisn
          clear HZ HM HR4 HE HISN hbe HL
          generalize hA1 : a1.isNone = x1 at hisn
          generalize hB1 : ((bs.length : Int) == 0) = x2 at hisn
          cases x1 <;> cases x2
          all_goals
            simp only [Bool.and_true, Bool.and_false] at hisn
            go_wp2_with fail
            go_loopw [18] (fun x wr => ∃ (j n : Nat), j ≤ 1 ∧ x = .int .i64 j ∧ Hid (wr = w5.drewN n)) (fun x _ => 1 - (intOf x).toNat)
            case atStart => exact ⟨0, 0, by omega, rfl, rfl⟩
            case round =>
              obtain ⟨j, n, hj, rfl, HW⟩ := hrel
              by_cases hlt : j < 1
              · obtain ⟨b4, o4, A, L', C, hA4, c3, hg, ho⟩ := HQ.out j hlt
                have HO : Hid (ElOK wr ⟨A, L', C⟩ ∧ (es ++ bs).getD (d + j) nilHd = ⟨A, L', C⟩ ∧ Row wr a1 es ∧ Row wr b1 bs) := by rw [HW.out]; exact ⟨ho.drewN n, hg, H1.out.drewN n, H2.out.drewN n⟩
                have c3' : wr.cell? ⟨b4, o4 + j, none⟩ = some (.slice A L' C) := by rw [HW.out]; simpa using c3
                have hw1 := wrapN ((es.length : Int) + (bs.length : Int) - 1) (by omega) (by omega)
                have hw2 := wrapN ((es.length : Int) + (bs.length : Int) - 1 + (j : Int)) (by omega) (by omega)
                have hw4 : (j : Int) < 1 := by omega
                have hw5 : (j : Int) < (M : Int) := by omega
                have hNK : (d : Int) + 1 ≤ (es.length : Int) + (bs.length : Int) := by omega
                have hNK2 : (es.length : Int) + (bs.length : Int) ≤ (d : Int) + 1 := by omega
                subst hA4
                clear ho c3 hg HQ
                go_wp2
                go_quiet (first | (go_at_call 22; exact Calls.quiet_of_same (elemAt' a1 b1 _ _ es bs (d + j) _ A L' C _ HO.out.2.1 (by omega) (by omega) (by omega) (by omega) (HO.out.2.2.1.drewN _) (HO.out.2.2.2.drewN _))) | (go_at_call 14; exact sameBytes_quiet A L' C wr _ HO.out.1))
                go_wp2
                go_roundw
                case rel => exact ⟨j + 1, n + nq, by omega, by go_num, (show wr.drewN nq = _ by rw [HW.out]; simp)⟩
                case measure => simp [intOf]; omega
              · have HF : Hid (Below W.heap.size W wr) := by rw [HW.out]; exact below_drewN HB.out n
                have hw4 : ¬ (j : Int) < 1 := by omega
                go_wp2
                go_ret
                exact ⟨rfl, HF.out⟩
        · have hd0 : d = (es ++ bs).length - k := hend.1 (.inl (by omega))
          have hdk : d + k ≤ es.length + bs.length ∧ es.length + bs.length ≤ d + k := by omega
          have hMk : M ≤ k ∧ k ≤ M := by have := HM.out; omega
          have hcmp2 : (z != ex + (t : Int)) = false := by
            rw [bne_eq_false_iff_eq, HZ.out, hd0, ← HT.out]
          have hkb : ((k : Int) == 0) = false := by rw [beq_eq_false_iff_ne]; omega
          obtain ⟨hdk1, hdk2⟩ := hdk
          obtain ⟨hMk1, hMk2⟩ := hMk
          clear hend hd0 hlen HADD HJ HT HSD hk0
          go_wp2_with fail
          refine HC.out.mono ?_
          rintro e w6 ⟨rfl, hw6⟩
          subst hw6
          rename World => w5
          clear HC
          have hcmp : ((f : Int) + (d : Int) != (f : Int) + ((es.length : Int) + (bs.length : Int) - (k : Int))) = false := by rw [bne_eq_false_iff_eq]; omega
          have hcmp3 : ((M : Int) != (k : Int)) = false := by rw [bne_eq_false_iff_eq]; omega
          have HQ : Hid (∀ j, j < k → ∃ b4 o4 A L C, a4 = some ⟨b4, o4, none⟩ ∧ w5.cell? ⟨b4, o4 + j, none⟩ = some (.slice A L C) ∧ (es ++ bs).getD (d + j) nilHd = ⟨A, L, C⟩ ∧ ElOK w5 ⟨A, L, C⟩) := by
            intro j hj
            have hl := HL.out
            obtain ⟨b4, o4, A, L, C, x1, x2, x3⟩ := HR4.out.at (k := j) (by rw [List.length_drop]; omega)
            rw [getD_drop] at x3
            have hm := HE.out _ (getD_mem (es ++ bs) (d + j) (by omega))
            rw [x3] at hm
            exact ⟨b4, o4, A, L, C, x1, x2, x3, hm⟩
          have hisn := HISN.out
          have hbe : bs.isEmpty = ((bs.length : Int) == 0) := by cases bs <;> simp <;> omega
          rw [hbe] at hisn
          clear HZ HM HR4 HE HISN hbe HL
          generalize hA1 : a1.isNone = x1 at hisn
          generalize hB1 : ((bs.length : Int) == 0) = x2 at hisn
          cases x1 <;> cases x2
          all_goals
            simp only [Bool.and_true, Bool.and_false] at hisn
            go_wp2_with fail
            go_loopw [18] (fun x wr => ∃ (j n : Nat), j ≤ k ∧ x = .int .i64 j ∧ Hid (wr = w5.drewN n)) (fun x _ => k - (intOf x).toNat)
            case atStart => exact ⟨0, 0, by omega, rfl, rfl⟩
            case round =>
              obtain ⟨j, n, hj, rfl, HW⟩ := hrel
              by_cases hlt : j < k
              · obtain ⟨b4, o4, A, L', C, hA4, c3, hg, ho⟩ := HQ.out j hlt
                have HO : Hid (ElOK wr ⟨A, L', C⟩ ∧ (es ++ bs).getD (d + j) nilHd = ⟨A, L', C⟩ ∧ Row wr a1 es ∧ Row wr b1 bs) := by rw [HW.out]; exact ⟨ho.drewN n, hg, H1.out.drewN n, H2.out.drewN n⟩
                have c3' : wr.cell? ⟨b4, o4 + j, none⟩ = some (.slice A L' C) := by rw [HW.out]; simpa using c3
                have hw1 := wrapN ((es.length : Int) + (bs.length : Int) - (k : Int)) (by omega) (by omega)
                have hw2 := wrapN ((es.length : Int) + (bs.length : Int) - (k : Int) + (j : Int)) (by omega) (by omega)
                have hw4 : (j : Int) < (k : Int) := by omega
                have hw5 : (j : Int) < (M : Int) := by omega
                have hNK : (d : Int) + (k : Int) ≤ (es.length : Int) + (bs.length : Int) := by omega
                have hNK2 : (es.length : Int) + (bs.length : Int) ≤ (d : Int) + (k : Int) := by omega
                subst hA4
                clear ho c3 hg HQ
                go_wp2
                go_quiet (first | (go_at_call 22; exact Calls.quiet_of_same (elemAt' a1 b1 _ _ es bs (d + j) _ A L' C _ HO.out.2.1 (by omega) (by omega) (by omega) (by omega) (HO.out.2.2.1.drewN _) (HO.out.2.2.2.drewN _))) | (go_at_call 14; exact sameBytes_quiet A L' C wr _ HO.out.1))
                go_wp2
                go_roundw
                case rel => exact ⟨j + 1, n + nq, by omega, by go_num, (show wr.drewN nq = _ by rw [HW.out]; simp)⟩
                case measure => simp [intOf]; omega
              · have HF : Hid (Below W.heap.size W wr) := by rw [HW.out]; exact below_drewN HB.out n
                have hw4 : ¬ (j : Int) < (k : Int) := by omega
                go_wp2
                go_ret
                exact ⟨rfl, HF.out⟩
      · have HT2 : Hid (t + L = sumL ((es ++ bs).drop ((es ++ bs).length - (k + 1)))) := by
          show t + L = _
          rw [show (es ++ bs).length - (k + 1) = (es ++ bs).length - k - 1 by omega, HSD.out]; omega
        have HJ2 : Hid (∀ j, j < k + 1 → ex + sumL ((es ++ bs).drop ((es ++ bs).length - j - 1)) ≤ 67108864) := by
          intro j hj
          by_cases e : j = k
          · subst e; rw [HSD.out]; omega
          · exact HJ.out j (by omega)
        clear HJ HT HSD HADD
        go_wp2_with (go_at_call 22; refine HC.out.mono ?_; rintro e w6 ⟨rfl, hw6⟩; subst hw6)
        go_round
        case rel => exact ⟨k + 1, t + L, by omega, by go_num, by go_num, by omega, HT2, HJ2⟩
        case measure => simp [intOf]; omega
    · have hlen := HL.out
      have hkN : k = (es ++ bs).length := by omega
      have hend := HADD.out k (by omega) HJ.out (.inl hkN)
      have hd0 : d = (es ++ bs).length - k := hend.1 (by omega)
      have hdk : d + k ≤ es.length + bs.length ∧ es.length + bs.length ≤ d + k := by omega
      have hMk : M ≤ k ∧ k ≤ M := by have := HM.out; omega
      have hcmp2 : (z != ex + (t : Int)) = false := by
        rw [bne_eq_false_iff_eq, HZ.out, hd0, ← HT.out]
      obtain ⟨hdk1, hdk2⟩ := hdk
      obtain ⟨hMk1, hMk2⟩ := hMk
      clear hend hd0 hlen hkN HADD HJ HT
      by_cases hk0 : k = 0
      · have hkb : ((k : Int) == 0) = true := by rw [beq_iff_eq]; omega
        have hn0 : decide (0 < (es.length : Int) + (bs.length : Int)) = false := by simp; omega
        have HK0 : Hid (k = 0) := hk0
        clear hk0
        have hcmp : ((f : Int) + (d : Int) != (f : Int) + ((es.length : Int) + (bs.length : Int) - (k : Int))) = false := by rw [bne_eq_false_iff_eq]; omega
        have hcmp3 : ((M : Int) != (k : Int)) = false := by rw [bne_eq_false_iff_eq]; omega
        have HQ : Hid (∀ j, j < k → ∃ b4 o4 A L C, a4 = some ⟨b4, o4, none⟩ ∧ w5.cell? ⟨b4, o4 + j, none⟩ = some (.slice A L C) ∧ (es ++ bs).getD (d + j) nilHd = ⟨A, L, C⟩ ∧ ElOK w5 ⟨A, L, C⟩) := by
          intro j hj
          have hl := HL.out
          obtain ⟨b4, o4, A, L, C, x1, x2, x3⟩ := HR4.out.at (k := j) (by rw [List.length_drop]; omega)
          rw [getD_drop] at x3
          have hm := HE.out _ (getD_mem (es ++ bs) (d + j) (by omega))
          rw [x3] at hm
          exact ⟨b4, o4, A, L, C, x1, x2, x3, hm⟩
        have hisn := HISN.out
        have hbe : bs.isEmpty = ((bs.length : Int) == 0) := by cases bs <;> simp <;> omega
        rw [hbe] at hisn
        clear HZ HM HR4 HE HISN hbe HL
        generalize hA1 : a1.isNone = x1 at hisn
        generalize hB1 : ((bs.length : Int) == 0) = x2 at hisn
        cases x1 <;> cases x2
        all_goals
          simp only [Bool.and_true, Bool.and_false] at hisn
          go_wp2_with fail
          go_loopw [18] (fun x wr => ∃ (j n : Nat), j ≤ k ∧ x = .int .i64 j ∧ Hid (wr = w5.drewN n)) (fun x _ => k - (intOf x).toNat)
          case atStart => exact ⟨0, 0, by omega, rfl, rfl⟩
          case round =>
            obtain ⟨j, n, hj, rfl, HW⟩ := hrel
            by_cases hlt : j < k
            · obtain ⟨b4, o4, A, L', C, hA4, c3, hg, ho⟩ := HQ.out j hlt
              have HO : Hid (ElOK wr ⟨A, L', C⟩ ∧ (es ++ bs).getD (d + j) nilHd = ⟨A, L', C⟩ ∧ Row wr a1 es ∧ Row wr b1 bs) := by rw [HW.out]; exact ⟨ho.drewN n, hg, H1.out.drewN n, H2.out.drewN n⟩
              have c3' : wr.cell? ⟨b4, o4 + j, none⟩ = some (.slice A L' C) := by rw [HW.out]; simpa using c3
              have hw1 := wrapN ((es.length : Int) + (bs.length : Int) - (k : Int)) (by omega) (by omega)
              have hw2 := wrapN ((es.length : Int) + (bs.length : Int) - (k : Int) + (j : Int)) (by omega) (by omega)
              have hw4 : (j : Int) < (k : Int) := by omega
              have hw5 : (j : Int) < (M : Int) := by omega
              have hNK : (d : Int) + (k : Int) ≤ (es.length : Int) + (bs.length : Int) := by omega
              have hNK2 : (es.length : Int) + (bs.length : Int) ≤ (d : Int) + (k : Int) := by omega
              subst hA4
              clear ho c3 hg HQ
              go_wp2
              go_quiet (first | (go_at_call 22; exact Calls.quiet_of_same (elemAt' a1 b1 _ _ es bs (d + j) _ A L' C _ HO.out.2.1 (by omega) (by omega) (by omega) (by omega) (HO.out.2.2.1.drewN _) (HO.out.2.2.2.drewN _))) | (go_at_call 14; exact sameBytes_quiet A L' C wr _ HO.out.1))
              go_wp2
              go_roundw
              case rel => exact ⟨j + 1, n + nq, by omega, by go_num, (show wr.drewN nq = _ by rw [HW.out]; simp)⟩
              case measure => simp [intOf]; omega
            · have HF : Hid (Below W.heap.size W wr) := by rw [HW.out]; exact below_drewN HB.out n
              have hw4 : ¬ (j : Int) < (k : Int) := by omega
              go_wp2
              go_ret
              exact ⟨rfl, HF.out⟩
      · have hkb : ((k : Int) == 0) = false := by rw [beq_eq_false_iff_ne]; omega
        clear hk0
        have hcmp : ((f : Int) + (d : Int) != (f : Int) + ((es.length : Int) + (bs.length : Int) - (k : Int))) = false := by rw [bne_eq_false_iff_eq]; omega
        have hcmp3 : ((M : Int) != (k : Int)) = false := by rw [bne_eq_false_iff_eq]; omega
        have HQ : Hid (∀ j, j < k → ∃ b4 o4 A L C, a4 = some ⟨b4, o4, none⟩ ∧ w5.cell? ⟨b4, o4 + j, none⟩ = some (.slice A L C) ∧ (es ++ bs).getD (d + j) nilHd = ⟨A, L, C⟩ ∧ ElOK w5 ⟨A, L, C⟩) := by
          intro j hj
          have hl := HL.out
          obtain ⟨b4, o4, A, L, C, x1, x2, x3⟩ := HR4.out.at (k := j) (by rw [List.length_drop]; omega)
          rw [getD_drop] at x3
          have hm := HE.out _ (getD_mem (es ++ bs) (d + j) (by omega))
          rw [x3] at hm
          exact ⟨b4, o4, A, L, C, x1, x2, x3, hm⟩
        have hisn := HISN.out
        have hbe : bs.isEmpty = ((bs.length : Int) == 0) := by cases bs <;> simp <;> omega
        rw [hbe] at hisn
        clear HZ HM HR4 HE HISN hbe HL
        generalize hA1 : a1.isNone = x1 at hisn
        generalize hB1 : ((bs.length : Int) == 0) = x2 at hisn
        cases x1 <;> cases x2
        all_goals
          simp only [Bool.and_true, Bool.and_false] at hisn
          go_wp2_with fail
          go_loopw [18] (fun x wr => ∃ (j n : Nat), j ≤ k ∧ x = .int .i64 j ∧ Hid (wr = w5.drewN n)) (fun x _ => k - (intOf x).toNat)
          case atStart => exact ⟨0, 0, by omega, rfl, rfl⟩
          case round =>
            obtain ⟨j, n, hj, rfl, HW⟩ := hrel
            by_cases hlt : j < k
            · obtain ⟨b4, o4, A, L', C, hA4, c3, hg, ho⟩ := HQ.out j hlt
              have HO : Hid (ElOK wr ⟨A, L', C⟩ ∧ (es ++ bs).getD (d + j) nilHd = ⟨A, L', C⟩ ∧ Row wr a1 es ∧ Row wr b1 bs) := by rw [HW.out]; exact ⟨ho.drewN n, hg, H1.out.drewN n, H2.out.drewN n⟩
              have c3' : wr.cell? ⟨b4, o4 + j, none⟩ = some (.slice A L' C) := by rw [HW.out]; simpa using c3
              have hw1 := wrapN ((es.length : Int) + (bs.length : Int) - (k : Int)) (by omega) (by omega)
              have hw2 := wrapN ((es.length : Int) + (bs.length : Int) - (k : Int) + (j : Int)) (by omega) (by omega)
              have hw4 : (j : Int) < (k : Int) := by omega
              have hw5 : (j : Int) < (M : Int) := by omega
              have hNK : (d : Int) + (k : Int) ≤ (es.length : Int) + (bs.length : Int) := by omega
              have hNK2 : (es.length : Int) + (bs.length : Int) ≤ (d : Int) + (k : Int) := by omega
              subst hA4
              clear ho c3 hg HQ
              go_wp2
              go_quiet (first | (go_at_call 22; exact Calls.quiet_of_same (elemAt' a1 b1 _ _ es bs (d + j) _ A L' C _ HO.out.2.1 (by omega) (by omega) (by omega) (by omega) (HO.out.2.2.1.drewN _) (HO.out.2.2.2.drewN _))) | (go_at_call 14; exact sameBytes_quiet A L' C wr _ HO.out.1))
              go_wp2
              go_roundw
              case rel => exact ⟨j + 1, n + nq, by omega, by go_num, (show wr.drewN nq = _ by rw [HW.out]; simp)⟩
              case measure => simp [intOf]; omega
            · have HF : Hid (Below W.heap.size W wr) := by rw [HW.out]; exact below_drewN HB.out n
              have hw4 : ¬ (j : Int) < (k : Int) := by omega
              go_wp2
              go_ret
              exact ⟨rfl, HF.out⟩
end Go.Proofs.Qxb6602402a
