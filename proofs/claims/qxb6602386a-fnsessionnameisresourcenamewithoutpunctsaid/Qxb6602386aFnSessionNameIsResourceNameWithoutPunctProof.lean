/-
  THE PROOF OF 'Rows.FnSessionNameIsResourceNameWithoutPunctSaid': the frame is the guide's shell for this function; the walk is ours.
-/
import Derived.Test.Qxb6602386aRows
import Derived.WalkKit
import Derived.ProofKit
import Derived.OpenShut
import Derived.ShutString
import Derived.Test.Qxb6602386aWalks
import Derived.Test.Qxb6602386aNames
namespace Go.Proofs.Qxb6602386a.fnSessionNameIsResourceNameWithoutPunct
open Go.ChangeShapes Go.WideShapes Go.ChangeAt Go.RowKit
open Go.ChangeMaps (open_string shut_string)
set_option linter.unusedVariables false      -- a walk need not use every 'w<i>' (that an integer argument fits its kind)

theorem own : ownKnob Try.prog.godebug = none := by kernel_rfl

/-! ### The walks -/
open Go.Proofs.Qxb6602386a.Plain Go.Proofs.Qxb6602386a.Walks

set_option maxHeartbeats 400000 in
theorem sess_any (s : ByteArray) (hs : s.size ≤ 1048576) (h0 : 0 < s.size) (w : World) :
    Calls Try.prog 18 #[.string s] w fun e w' => e = .returned (.bool (sessB s)) ∧ w' = w := by
  have hh := headD_data s h0
  have h1 : s.data.toList.take 1 = [s[0]] := by
    have := take_snoc s 0 h0
    simpa using this
  cases hl : letB (s[0].toNat : Int) with
  | false =>
    have e : sessB s = false := by unfold sessB; rw [hh, hl]; rfl
    rw [e]
    have HL : Hid (letB (s[0].toNat : Int) = false) := hl
    clear hl e hh h1
    go_enter Try.func18, Try.ntmps18
    go_wp2_with (go_at_call 21; refine (isLetter_any _ _).mono ?_; rintro e w' ⟨rfl, rfl⟩; rw [HL.out])
    go_ret
    exact ⟨rfl, rfl⟩
  | true =>
    have e : sessB s = allLd s.data.toList := by unfold sessB; rw [hh, hl]; rfl
    rw [e]
    have H1 : Hid (allLd (s.data.toList.take 1) = true) := by
      show allLd (s.data.toList.take 1) = true
      rw [h1]; simp [allLd, ldB, hl]
    have HL : Hid (letB (s[0].toNat : Int) = true) := hl
    clear hl e hh h1
    go_enter Try.func18, Try.ntmps18
    go_wp2_with (go_at_call 21; refine (isLetter_any _ _).mono ?_; rintro e w' ⟨rfl, rfl⟩; rw [HL.out])
    go_loop [3] (fun i => ∃ k : Nat, 1 ≤ k ∧ k ≤ s.size ∧ i = .int .i64 k ∧ Hid (allLd (s.data.toList.take k) = true)) (fun i => s.size - (intOf i).toNat)
    case atStart => exact ⟨1, by omega, by omega, rfl, H1⟩
    case round =>
      obtain ⟨k, hk1, hk, rfl, HF⟩ := hrel
      clear H1 HL
      by_cases hlt : k < s.size
      · have HS : Hid (allLd (s.data.toList.take (k + 1)) = (letB s[k].toNat || digB s[k].toNat)) := by
          show allLd (s.data.toList.take (k + 1)) = _
          rw [take_snoc s k hlt, allLd_snoc, HF.out]; rfl
        generalize ha : letB (s[k].toNat : Int) = a at HS
        generalize hb : digB (s[k].toNat : Int) = b at HS
        have HA : Hid (letB (s[k].toNat : Int) = a) := ha
        have HB : Hid (digB (s[k].toNat : Int) = b) := hb
        clear ha hb
        cases a <;> cases b
        · have HN : Hid (allLd s.data.toList = false) := allLd_no HS.out
          go_wp2_with (first | (go_at_call 21; refine (isLetter_any _ _).mono ?_; rintro e w' ⟨rfl, rfl⟩; rw [HA.out]) | (go_at_call 22; refine (isDigit_any _ _).mono ?_; rintro e w' ⟨rfl, rfl⟩; rw [HB.out]))
          go_ret
          exact ⟨ret_bool HN.out.symm, rfl⟩
        all_goals
          go_wp2_with (first | (go_at_call 21; refine (isLetter_any _ _).mono ?_; rintro e w' ⟨rfl, rfl⟩; rw [HA.out]) | (go_at_call 22; refine (isDigit_any _ _).mono ?_; rintro e w' ⟨rfl, rfl⟩; rw [HB.out]))
          go_round
          case rel => exact ⟨k + 1, by omega, by omega, by go_num, HS⟩
          case measure => simp [intOf]; omega
      · have HN : Hid (allLd s.data.toList = true) := by
          have h := HF.out
          rw [List.take_of_length_le (by simp; omega)] at h
          exact h
        go_wp2
        go_ret
        exact ⟨ret_bool HN.out.symm, rfl⟩

set_option maxHeartbeats 400000 in
theorem punct_any (c : Int) (w : World) :
    Calls Try.prog 12 #[.int .u8 c, .string ⟨#[46, 45, 95]⟩] w fun e w' => e = .returned (.bool (pnB c)) ∧ w' = w := by
  have h := zzsIn_any c ⟨#[46, 45, 95]⟩ w (by decide)
  have e : inB (⟨#[46, 45, 95]⟩ : ByteArray).data.toList c = pnB c := inB_punct c
  rw [e] at h
  exact h

set_option maxHeartbeats 400000 in
theorem hasPunct_any (s : ByteArray) (hs : s.size ≤ 1048576) (w : World) :
    Calls Try.prog 11 #[.string s] w fun e w' => e = .returned (.bool (anyPn s.data.toList)) ∧ w' = w := by
  go_enter Try.func11, Try.ntmps11
  go_wp2_with fail
  go_loop [3] (fun i => ∃ k : Nat, k ≤ s.size ∧ i = .int .i64 k ∧ Hid (anyPn (s.data.toList.take k) = false)) (fun i => s.size - (intOf i).toNat)
  case atStart => exact ⟨0, by omega, rfl, (show anyPn [] = false from rfl)⟩
  case round =>
    obtain ⟨k, hk, rfl, HF⟩ := hrel
    by_cases hlt : k < s.size
    · have HS : Hid (anyPn (s.data.toList.take (k + 1)) = pnB s[k].toNat) := by
        show anyPn (s.data.toList.take (k + 1)) = _
        rw [take_snoc s k hlt, anyPn_snoc, HF.out]; rfl
      generalize ha : pnB (s[k].toNat : Int) = a at HS
      have HA : Hid (pnB (s[k].toNat : Int) = a) := ha
      clear ha
      cases a
      · go_wp2_with (go_at_call 12; refine (punct_any _ _).mono ?_; rintro e w' ⟨rfl, rfl⟩; rw [HA.out])
        go_round
        case rel => exact ⟨k + 1, by omega, by go_num, HS⟩
        case measure => simp [intOf]; omega
      · have HN : Hid (anyPn s.data.toList = true) := anyPn_yes HS.out
        go_wp2_with (go_at_call 12; refine (punct_any _ _).mono ?_; rintro e w' ⟨rfl, rfl⟩; rw [HA.out])
        go_ret
        exact ⟨ret_bool HN.out.symm, rfl⟩
    · have HN : Hid (anyPn s.data.toList = false) := by
        have h := HF.out
        rw [List.take_of_length_le (by simp; omega)] at h
        exact h
      go_wp2
      go_ret
      exact ⟨ret_bool HN.out.symm, rfl⟩

set_option maxHeartbeats 1000000 in
theorem res_any (s : ByteArray) (hs : s.size ≤ 1048576) (h0 : s.toList.isEmpty = false) (w : World) :
    Calls Try.prog 19 #[.string s] w fun e w' => e = .returned (.bool (allRc s.data.toList)) ∧ w' = w := by
  go_enter Try.func19, Try.ntmps19
  go_wp2_with fail
  go_loop [3] (fun i => ∃ k : Nat, k ≤ s.size ∧ i = .int .i64 k ∧ Hid (allRc (s.data.toList.take k) = true)) (fun i => s.size - (intOf i).toNat)
  case atStart => exact ⟨0, by omega, rfl, (show allRc [] = true from rfl)⟩
  case round =>
    obtain ⟨k, hk, rfl, HF⟩ := hrel
    by_cases hlt : k < s.size
    · have HS : Hid (allRc (s.data.toList.take (k + 1)) = (letB s[k].toNat || digB s[k].toNat || ((s[k].toNat : Int) == 46 || (s[k].toNat : Int) == 45 || (s[k].toNat : Int) == 95))) := by
        show allRc (s.data.toList.take (k + 1)) = _
        rw [take_snoc s k hlt, allRc_snoc, HF.out]; rfl
      generalize ha : letB (s[k].toNat : Int) = a at HS
      generalize hb : digB (s[k].toNat : Int) = b at HS
      have HA : Hid (letB (s[k].toNat : Int) = a) := ha
      have HB : Hid (digB (s[k].toNat : Int) = b) := hb
      clear ha hb
      generalize h6 : ((s[k].toNat : Int) == 46) = b6 at HS
      generalize h5 : ((s[k].toNat : Int) == 45) = b5 at HS
      generalize h9 : ((s[k].toNat : Int) == 95) = b9 at HS
      have n6 : ((s[k].toNat : Int) != 46) = !b6 := by rw [bne, h6]
      have n5 : ((s[k].toNat : Int) != 45) = !b5 := by rw [bne, h5]
      have n9 : ((s[k].toNat : Int) != 95) = !b9 := by rw [bne, h9]
      clear h6 h5 h9
      by_cases hno : a = false ∧ b = false ∧ b6 = false ∧ b5 = false ∧ b9 = false
      · obtain ⟨rfl, rfl, rfl, rfl, rfl⟩ := hno
        have HN : Hid (allRc s.data.toList = false) := allRc_no HS.out
        go_wp2_with (first | (go_at_call 21; refine (isLetter_any _ _).mono ?_; rintro e w' ⟨rfl, rfl⟩; rw [HA.out]) | (go_at_call 22; refine (isDigit_any _ _).mono ?_; rintro e w' ⟨rfl, rfl⟩; rw [HB.out]))
        go_ret
        exact ⟨ret_bool HN.out.symm, rfl⟩
      · have HY : Hid (allRc (s.data.toList.take (k + 1)) = true) := by
          show allRc (s.data.toList.take (k + 1)) = true
          rw [HS.out]
          cases a <;> cases b <;> cases b6 <;> cases b5 <;> cases b9 <;> simp_all
        have hyes : a = true ∨ (a = false ∧ b = true) ∨ (a = false ∧ b = false ∧ b6 = true) ∨ (a = false ∧ b = false ∧ b6 = false ∧ b5 = true) ∨ (a = false ∧ b = false ∧ b6 = false ∧ b5 = false ∧ b9 = true) := by
          cases a <;> cases b <;> cases b6 <;> cases b5 <;> cases b9 <;> simp_all
        clear hno HS HF
        rcases hyes with rfl | ⟨rfl, rfl⟩ | ⟨rfl, rfl, rfl⟩ | ⟨rfl, rfl, rfl, rfl⟩ | ⟨rfl, rfl, rfl, rfl, rfl⟩
        all_goals
          go_wp2_with (first | (go_at_call 21; refine (isLetter_any _ _).mono ?_; rintro e w' ⟨rfl, rfl⟩; rw [HA.out]) | (go_at_call 22; refine (isDigit_any _ _).mono ?_; rintro e w' ⟨rfl, rfl⟩; rw [HB.out]))
          go_round
          case rel => exact ⟨k + 1, by omega, by go_num, HY⟩
          case measure => simp [intOf]; omega
    · have HN : Hid (allRc s.data.toList = true) := by
        have h := HF.out
        rw [List.take_of_length_le (by simp; omega)] at h
        exact h
      go_wp2
      go_ret
      exact ⟨ret_bool HN.out.symm, rfl⟩

set_option maxHeartbeats 400000 in
theorem walk_long (s : ByteArray) (hs : s.size ≤ maxLen) (h : 1048576 < s.size) (w : World) :
    Calls Try.prog 3 #[.string s] w fun e w' => e = .returned (.bool true) ∧ w' = w := by
  unfold maxLen at hs
  go_enter Try.func3, Try.ntmps3
  go_wp2
  go_ret
  exact ⟨rfl, rfl⟩

set_option maxHeartbeats 400000 in
theorem walk_empty (s : ByteArray) (h : s.size = 0) (w : World) :
    Calls Try.prog 3 #[.string s] w fun e w' => e = .returned (.bool true) ∧ w' = w := by
  go_enter Try.func3, Try.ntmps3
  go_wp2
  go_ret
  exact ⟨rfl, rfl⟩

theorem letters_any (a : UInt8) (w : World) :
    Calls Try.prog 12 #[.int .u8 a.toNat, .string ⟨letters.toArray⟩] w fun e w' => e = .returned (.bool (letB a.toNat)) ∧ w' = w := by
  have h := zzsIn_any a.toNat ⟨letters.toArray⟩ w (by decide)
  have e : inB (⟨letters.toArray⟩ : ByteArray).data.toList a.toNat = letB a.toNat := inB_letters a
  rw [e] at h
  exact h

set_option maxHeartbeats 1000000 in
theorem walk_short (s : ByteArray) (h : s.size ≤ 1048576) (h0 : 0 < s.size) (w : World) :
    Calls Try.prog 3 #[.string s] w fun e w' => e = .returned (.bool true) ∧ w' = w := by
  have hne : s.toList.isEmpty = false := by
    rw [ByteArray.toList_eq]
    have : s.data.toList.length = s.size := by simp
    cases hd : s.data.toList with
    | nil => rw [hd] at this; simp at this; omega
    | cons a t => rfl
  have c9 := fun w => sess_any s h h0 w
  have c10 := fun w => res_any s h hne w
  have c11 := fun w => hasPunct_any s h w
  have c12 := fun w => letters_any s[0] w
  have hlaw := names_law s
  rw [headD_data s h0] at hlaw
  clear hne
  generalize sessB s = x at *
  generalize allRc s.data.toList = y at *
  generalize anyPn s.data.toList = z at *
  generalize hl : letB (s[0].toNat : Int) = l at *
  clear hl
  have C9 : Hid (∀ w, Calls Try.prog 18 #[.string s] w fun e w' => e = .returned (.bool x) ∧ w' = w) := c9
  have C10 : Hid (∀ w, Calls Try.prog 19 #[.string s] w fun e w' => e = .returned (.bool y) ∧ w' = w) := c10
  have C11 : Hid (∀ w, Calls Try.prog 11 #[.string s] w fun e w' => e = .returned (.bool z) ∧ w' = w) := c11
  have C12 : Hid (∀ w, Calls Try.prog 12 #[.int .u8 s[0].toNat, .string ⟨letters.toArray⟩] w fun e w' => e = .returned (.bool l) ∧ w' = w) := c12
  clear c9 c10 c11 c12
  cases y <;> cases z <;> cases l
  all_goals
    simp at hlaw
    subst hlaw
    go_enter Try.func3, Try.ntmps3
    go_wp2_with (first
      | (go_at_call 18; refine (C9.out _).mono ?_; rintro e w' ⟨rfl, rfl⟩)
      | (go_at_call 19; refine (C10.out _).mono ?_; rintro e w' ⟨rfl, rfl⟩)
      | (go_at_call 11; refine (C11.out _).mono ?_; rintro e w' ⟨rfl, rfl⟩)
      | (go_at_call 12; refine (C12.out _).mono ?_; rintro e w' ⟨rfl, rfl⟩)
      | go_in)
    go_ret
    exact ⟨rfl, rfl⟩

theorem walk (a0 : ByteArray) (w0 : a0.size ≤ maxLen) (w : World) :
    Calls Try.prog 3 #[.string a0] w fun e w' => e = .returned (.bool true) ∧ Grown w w' := by
  by_cases h : 1048576 < a0.size
  · exact (walk_long a0 w0 h w).mono fun e w' ⟨h1, h2⟩ => ⟨h1, h2 ▸ Grown.refl w⟩
  · by_cases h0 : 0 < a0.size
    · exact (walk_short a0 (by omega) h0 w).mono fun e w' ⟨h1, h2⟩ => ⟨h1, h2 ▸ Grown.refl w⟩
    · exact (walk_empty a0 (by omega) w).mono fun e w' ⟨h1, h2⟩ => ⟨h1, h2 ▸ Grown.refl w⟩

/-! ### THE ROW's STEP: WRITTEN OUT: LEAVE IT -/
set_option maxRecDepth 100000 in
theorem lifted (os : Os) (started : os.Started) (H : Type) (enc : TypeId × Value → H) :
    ReturnsInHanded {} Try.checked os 3 .any (Rows.fnSessionNameIsResourceNameWithoutPunctSpec.pre6 enc Try.prog Try.f3 Rows.fnSessionNameIsResourceNameWithoutPunctRow.domain false) (Rows.fnSessionNameIsResourceNameWithoutPunctSpec.post enc Try.prog Try.f3 false true false false) := by
  refine returnsInHanded_of_change (C := Try.checked) own started (by kernel_rfl) Try.func3
    (ChangeSpec.witness6 (enc := enc) (C := Try.checked) false ⟨#[], #[.string ByteArray.empty], []⟩ 8 (by kernel_rfl) (by kernel_rfl) (by kernel_rfl) (by kernel_rfl)) ?_
  intro W base args ds gs before hval0 hW hcnd _
  have hval : ∀ (j : Nat) t v, Try.f3.params[j]? = some t → args[j]? = some v → Value.okWide Try.prog W .any base t v := hval0
  have hW' := hW
  obtain ⟨p, q, hA0, hV, rfl, hfz, hnd⟩ := hW
  have hA : DataW.TrodAll enc Try.prog W 0 (fun _ => true) true Try.f3.params.toList args.toList ds p := hA0
  rw [Try.params3] at hA hval
  obtain ⟨v0, vs0, d0, ds0, p0, q0, hargs, rfl, rfl, h0, r0⟩ := trodAll_cons hA
  obtain ⟨rfl, rfl, rfl⟩ := trodAll_nil r0
  obtain rfl : args = #[v0] := by cases args; simp_all
  obtain ⟨rfl, rfl⟩ := trodVars_none hV
  obtain ⟨a0, rfl, rfl, rfl, w0⟩ := open_string Try.underlying9 (hval 0 9 v0 rfl rfl) h0
  clear hA0 hval0
  simp only [List.append_nil] at hW'
  refine (walk a0 w0 W).mono fun e W' ⟨he, hg⟩ => ?_
  subst he
  exact ⟨_, rfl, post_of_same (pa := []) (pv := []) hW' (fun _ _ _ => (trodAll_cons_mk (shut_bool Try.underlying4 _) trodAll_mk0)) (fun sp _ => (trodAll_cons_mk (shut_string Try.underlying9 w0) trodAll_mk0)) (fun _ _ => rfl) rfl
    (hg.frame _) hg.2.1 (ok_one (by kernel_rfl) rfl (okWide_bool_mk Try.underlying4 _))⟩

theorem over : Rows.fnSessionNameIsResourceNameWithoutPunctRow.holds Try.pinned (OpenSpec.ofChange Rows.fnSessionNameIsResourceNameWithoutPunctSpec) :=
  OpenClaim.holds_of_wide 3 Try.f3 rfl rfl rfl rfl rfl rfl rfl ⟨rfl, rfl, rfl, rfl, rfl⟩ rfl rfl rfl rfl rfl (by kernel_rfl) Try.func3 (by kernel_rfl)
    (of_decide_eq_true (by kernel_rfl)) (by unfold Func.isWrapper; first | (rw [if_pos (by decide +kernel)]; kernel_rfl) | (rw [if_neg (by decide +kernel)]; exact ⟨rfl, rfl⟩))
    (fun os started H enc _ => lifted os started H enc)

/-- ████ THE STATEMENT ████ -/
theorem proved : Rows.FnSessionNameIsResourceNameWithoutPunctSaid :=
  over
end Go.Proofs.Qxb6602386a.fnSessionNameIsResourceNameWithoutPunct
