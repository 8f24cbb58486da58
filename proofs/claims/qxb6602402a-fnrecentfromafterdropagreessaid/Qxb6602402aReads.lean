import Derived.Test.Qxb6602402aBase
import Derived.Deep.QuietTactic
import Derived.BigQuiet
namespace Go.Proofs.Qxb6602402a
open Go.RowKit
set_option linter.unusedVariables false

theorem seg_succ (es : List Hd) (l k : Nat) (hl : l ≤ k) (h : k < es.length) : sumL ((es.take (k + 1)).drop l) = sumL ((es.take k).drop l) + (es.getD k nilHd).n := by
  rw [take_snoc es k h, List.drop_append_of_le_length (by simp; omega), sumL_append, sumL_cons, sumL_nil]; omega

theorem sumL_take_le (es : List Hd) (k : Nat) : sumL (es.take k) ≤ sumL es := by
  have h : sumL (es.take k ++ es.drop k) = sumL es := by rw [List.take_append_drop]
  rw [sumL_append] at h; omega
theorem sumL_drop_le (es : List Hd) (k : Nat) : sumL (es.drop k) ≤ sumL es := by
  have h : sumL (es.take k ++ es.drop k) = sumL es := by rw [List.take_append_drop]
  rw [sumL_append] at h; omega
theorem seg_le (es : List Hd) (l k : Nat) : sumL ((es.take k).drop l) ≤ sumL es :=
  Nat.le_trans (sumL_drop_le _ _) (sumL_take_le _ _)

theorem len_le_sum (es : List Hd) (k : Nat) (h : k < es.length) : (es.getD k nilHd).n ≤ sumL es := by
  have h1 := sumL_take_succ es k h
  have h2 := sumL_take_le es (k + 1)
  omega

set_option maxHeartbeats 400000 in
theorem sumLens (a : Option Addr) (c : Nat) (es : List Hd) (lo hi : Int) (l h : Nat) (w : World) (elo : lo = l) (ehi : hi = h) (hlh : l ≤ h) (hle : h ≤ es.length)
    (hn : es.length ≤ 1048576) (hs : sumL es ≤ 1048576) (hr : Row w a es) :
    Calls Try.prog 13 #[.slice a es.length c, .int .i64 lo, .int .i64 hi] w fun e w' => e = .returned (.int .i64 (sumL ((es.take h).drop l))) ∧ w' = w := by
  subst elo; subst ehi
  have HR : Hid (Row w a es) := hr
  clear hr
  go_enter Try.func13, Try.ntmps13
  go_wp2
  go_loop [7, 8] (fun z i => ∃ (k t : Nat), l ≤ k ∧ k ≤ h ∧ i = .int .i64 k ∧ z = .int .i64 t ∧ t ≤ 1048576 ∧ Hid (t = sumL ((es.take k).drop l))) (fun _ i => h - (intOf i).toNat)
  case atStart => exact ⟨l, 0, Nat.le_refl _, hlh, rfl, rfl, by omega, (show 0 = _ by rw [List.drop_of_length_le (by simp; omega)]; rfl)⟩
  case round =>
    obtain ⟨k, t, hk0, hk, rfl, rfl, ht1, HT⟩ := hrel
    by_cases hlt : k < h
    · obtain ⟨b, off, A, L, C, rfl, hc, he⟩ := HR.out.at (show k < es.length by omega)
      have hS := seg_succ es l k hk0 (by omega)
      have hL := len_le_sum es k (by omega)
      rw [he] at hS hL
      have hL' : L ≤ 1048576 := Nat.le_trans hL hs
      have hB := seg_le es l (k + 1)
      rw [hS, ← HT.out] at hB
      have hB' : t + L ≤ 1048576 := Nat.le_trans hB hs
      have HS : Hid (t + L = sumL ((es.take (k + 1)).drop l)) := by
        show t + L = _
        rw [hS, HT.out]
      clear he hS hL hB
      go_wp2
      go_round
      case rel => exact ⟨k + 1, t + L, by omega, by omega, by go_num, by go_num, hB', HS⟩
      case measure => simp [intOf]; omega
    · obtain rfl : k = h := by omega
      go_wp2
      go_ret; exact ⟨ret_int (by rw [HT.out]), rfl⟩

set_option maxHeartbeats 400000 in
/-- elemAtB1: entry k of es followed by bs. -/
theorem elemAt (a a2 : Option Addr) (c c2 : Nat) (es bs : List Hd) (k : Nat) (x : Int) (w : World) (ex : x = k) (hk : k < es.length + bs.length) (hn : es.length ≤ 1048576) (hn2 : bs.length ≤ 1048576)
    (hr : Row w a es) (hr2 : Row w a2 bs) :
    Calls Try.prog 22 #[.slice a es.length c, .slice a2 bs.length c2, .int .i64 x] w fun e w' => e = .returned ((es ++ bs).getD k nilHd).val ∧ w' = w := by
  subst ex
  by_cases h : k < es.length
  · obtain ⟨b, off, A, L, C, rfl, hc, he⟩ := hr.at h
    have e : (es ++ bs).getD k nilHd = ⟨A, L, C⟩ := by
      rw [← he, List.getD, List.getD, List.getElem?_append_left h]
    rw [e]
    clear he e hr hr2
    show Calls Try.prog 22 _ w fun e w' => e = .returned (.slice A L C) ∧ w' = w
    go_enter Try.func22, Try.ntmps22
    go_wp2
    go_ret
    exact ⟨rfl, rfl⟩
  · obtain ⟨b, off, A, L, C, rfl, hc, he⟩ := hr2.at (show k - es.length < bs.length by omega)
    have e : (es ++ bs).getD k nilHd = ⟨A, L, C⟩ := by
      rw [← he, List.getD, List.getD, List.getElem?_append_right (by omega)]
    rw [e]
    clear he e hr hr2
    obtain ⟨j, rfl⟩ : ∃ j, k = es.length + j := ⟨k - es.length, by omega⟩
    rw [show es.length + j - es.length = j by omega] at hc
    show Calls Try.prog 22 _ w fun e w' => e = .returned (.slice A L C) ∧ w' = w
    go_enter Try.func22, Try.ntmps22
    go_wp2
    go_ret
    exact ⟨rfl, rfl⟩

theorem ElOK.drewN {w : World} {h : Hd} (ho : ElOK w h) (n : Nat) : ElOK (w.drewN n) h := by
  refine ⟨ho.1, fun j hj => ?_⟩
  obtain ⟨b, off, z, h1, h2⟩ := ho.2 j hj
  exact ⟨b, off, z, h1, by simpa using h2⟩

set_option maxHeartbeats 400000 in
theorem sameBytes (h : Hd) (w : World) (ho : ElOK w h) :
    Calls Try.prog 14 #[h.val, h.val] w fun e w' => e = .returned (.bool true) ∧ ∃ n, w' = w.drewN n := by
  obtain ⟨A, L, C⟩ := h
  obtain ⟨hl, hc⟩ := ho
  have hl' : L ≤ 9223372036854775807 := hl
  have HC : Hid (∀ j, j < L → ∃ (b off : Nat) (z : Int), A = some ⟨b, off, none⟩ ∧ w.cell? ⟨b, off + j, none⟩ = some (.int .u8 z)) := hc
  clear hc hl
  have hnil : ∀ (w : World) (a : Option Addr) (n c n' c' : Nat), (binOp .eql 30 (.slice a n c) (.slice none n' c')).run Try.prog w = .ok (.bool a.isNone) w := fun w a n c n' c' => Lib.run_eql_slice_nil w _ _ a n c n' c' Try.underlying30
  show Calls Try.prog 14 #[.slice A L C, .slice A L C] w _
  go_enter Try.func14, Try.ntmps14
  go_wp2
  go_loopw [5] (fun i wr => ∃ (k n : Nat), k ≤ L ∧ i = .int .i64 k ∧ wr = w.drewN n) (fun i _ => L - (intOf i).toNat)
  case atStart => exact ⟨0, 0, Nat.zero_le _, rfl, rfl⟩
  case round =>
    obtain ⟨k, n, hk, rfl, rfl⟩ := hrel
    by_cases hlt : k < L
    · obtain ⟨b, off, z, rfl, hz⟩ := HC.out k hlt
      clear HC
      go_wp2
      go_quiet (fail)
      go_wp2
      go_roundw
      case rel => exact ⟨k + 1, n + nq, by omega, by go_num, rfl⟩
      case measure => simp [intOf]; omega
    · go_wp2
      go_ret
      exact ⟨rfl, n, rfl⟩

/-- sameBytesB1 of one header with itself, after draws, as a region's call. -/
theorem sameBytes_quiet (A : Option Addr) (L C : Nat) (w : World) (n : Nat) (ho : ElOK w ⟨A, L, C⟩) :
    Calls Try.prog 14 #[.slice A L C, .slice A L C] (w.drewN n) fun e w' => e = .returned (.bool true) ∧ ∃ m, w' = w.drewN m := by
  refine (sameBytes ⟨A, L, C⟩ (w.drewN n) (ho.drewN n)).mono ?_
  rintro e w' ⟨rfl, m, rfl⟩
  exact ⟨rfl, n + m, by simp⟩

set_option maxHeartbeats 400000 in
/-- Two rows of the same headers, both nil or neither. -/
theorem sameList (a a2 : Option Addr) (c c2 : Nat) (es : List Hd) (w : World) (hn : es.length ≤ 1048576) (hi : a.isNone = a2.isNone)
    (hr : Row w a es) (hr2 : Row w a2 es) (he : Els w es) :
    Calls Try.prog 17 #[.slice a es.length c, .slice a2 es.length c2] w fun e w' => e = .returned (.bool true) ∧ ∃ n, w' = w.drewN n := by
  have HR : Hid (Row w a es ∧ Row w a2 es ∧ Els w es) := ⟨hr, hr2, he⟩
  clear hr hr2 he
  have hnil : ∀ (w : World) (a : Option Addr) (n c n' c' : Nat), (binOp .eql 23 (.slice a n c) (.slice none n' c')).run Try.prog w = .ok (.bool a.isNone) w := fun w a n c n' c' => Lib.run_eql_slice_nil w _ _ a n c n' c' Try.underlying23
  go_enter Try.func17, Try.ntmps17
  go_wp2
  go_loopw [5] (fun i wr => ∃ (k n : Nat), k ≤ es.length ∧ i = .int .i64 k ∧ Hid (wr = w.drewN n)) (fun i _ => es.length - (intOf i).toNat)
  case atStart => exact ⟨0, 0, Nat.zero_le _, rfl, rfl⟩
  case round =>
    obtain ⟨k, n, hk, rfl, HW⟩ := hrel
    by_cases hlt : k < es.length
    · obtain ⟨b, off, A, L, C, rfl, hc, he⟩ := HR.out.1.at hlt
      obtain ⟨b2, off2, A2, L2, C2, rfl, hc2, he2⟩ := HR.out.2.1.at hlt
      have ho := HR.out.2.2 _ (getD_mem es k hlt)
      rw [he] at ho he2
      injection he2 with e1 e2 e3
      subst e1; subst e2; subst e3
      have HO : Hid (ElOK wr ⟨A, L, C⟩) := by rw [HW.out]; exact ho.drewN n
      have hc' : wr.cell? ⟨b, off + k, none⟩ = some (.slice A L C) := by rw [HW.out]; simpa using hc
      have hc2' : wr.cell? ⟨b2, off2 + k, none⟩ = some (.slice A L C) := by rw [HW.out]; simpa using hc2
      clear ho he HR hc hc2
      go_wp2
      go_quiet ((go_at_call 14; exact sameBytes_quiet A L C wr _ HO.out))
      go_wp2
      go_roundw
      case rel => exact ⟨k + 1, n + nq, by omega, by go_num, (show wr.drewN nq = _ by rw [HW.out]; simp)⟩
      case measure => simp [intOf]; omega
    · go_wp2
      go_ret
      exact ⟨rfl, n, HW.out⟩
end Go.Proofs.Qxb6602402a
