/-
  THE PROOF OF 'Rows.FnIntDigitsExactSaid': the frame is the guide's shell for this function; the walk is ours.
-/
import Derived.Test.Qxb6602386aRows
import Derived.WalkKit
import Derived.ProofKit
import Derived.OpenShut
import Derived.ShutString
import Derived.Test.Qxb6602386aWalks
import Derived.Test.Qxb6602386aAuto
namespace Go.Proofs.Qxb6602386a.fnIntDigitsExact
open Go.ChangeShapes Go.WideShapes Go.ChangeAt Go.RowKit
open Go.ChangeMaps (open_string shut_string)
set_option linter.unusedVariables false      -- a walk need not use every 'w<i>' (that an integer argument fits its kind)

theorem own : ownKnob Try.prog.godebug = none := by kernel_rfl

/-! ### The walk -/
open Go.Proofs.Qxb6602386a.Plain Go.Proofs.Qxb6602386a.Walks

/-- zzsIn at the ten digits. -/
theorem digits_any (c : Int) (w : World) :
    Calls Try.prog 12 #[.int .u8 c, .string ⟨#[48, 49, 50, 51, 52, 53, 54, 55, 56, 57]⟩] w fun e w' => e = .returned (.bool (digB c)) ∧ w' = w := by
  have h := zzsIn_any c ⟨#[48, 49, 50, 51, 52, 53, 54, 55, 56, 57]⟩ w (by decide)
  have e : inB (⟨#[48, 49, 50, 51, 52, 53, 54, 55, 56, 57]⟩ : ByteArray).data.toList c = digB c := inB_digits c
  rw [e] at h
  exact h

set_option maxHeartbeats 400000 in
theorem walk_long (s : ByteArray) (hs : s.size ≤ maxLen) (h : 1048576 < s.size) (w : World) :
    Calls Try.prog 5 #[.string s] w fun e w' => e = .returned (.bool true) ∧ w' = w := by
  unfold maxLen at hs
  go_enter Try.func5, Try.ntmps5
  go_wp2
  go_ret
  exact ⟨rfl, rfl⟩

set_option maxHeartbeats 400000 in
theorem bytes_ok (s : ByteArray) (h : s.size ≤ 1048576) (w : World) :
    Calls Try.prog 14 #[.string s] w fun e w' => e = .returned (.bool true) ∧ w' = w := by
  go_enter Try.func14, Try.ntmps14
  go_wp2
  go_ret
  exact ⟨rfl, rfl⟩

set_option maxHeartbeats 2000000 in
theorem walk_short (s : ByteArray) (h : s.size ≤ 1048576) (w : World) :
    Calls Try.prog 5 #[.string s] w fun e w' => e = .returned (.bool true) ∧ w' = w := by
  have hfin := fun w => zzIntDigits_any s w (by unfold maxLen; omega)
  have HFIN : Hid (∀ w, Calls Try.prog 15 #[.string s] w fun e w' => e = .returned (.tuple #[.string (idD s), .bool (idN s), .bool (idOk s)]) ∧ w' = w) := hfin
  clear hfin
  have hdec : decide (1048576 < (s.size : Int)) = false := by simp; omega
  go_enter Try.func5, Try.ntmps5
  go_wp2_with (go_at_call 14; refine (bytes_ok s h _).mono ?_; rintro e w' ⟨rfl, rfl⟩)
  go_loop [3, 4] (fun st i => ∃ k : Nat, k ≤ s.size ∧ i = .int .i64 k ∧ st = .int .i64 (aut (s.data.toList.take k))) (fun _ i => s.size - (intOf i).toNat)
  case atStart => exact ⟨0, Nat.zero_le _, rfl, rfl⟩
  case round =>
    obtain ⟨k, hk, rfl, rfl⟩ := hrel
    by_cases hlt : k < s.size
    · have HS : Hid (aut (s.data.toList.take (k + 1)) = stpB (aut (s.data.toList.take k)) ((s[k].toNat : Int) == 45) ((s[k].toNat : Int) == 48) (digB s[k].toNat)) := by
        show aut (s.data.toList.take (k + 1)) = _
        rw [take_snoc s k hlt, aut_snoc, stp_eq]
      have hr := aut_range (s.data.toList.take k)
      generalize aut (s.data.toList.take k) = x at *
      generalize h5 : ((s[k].toNat : Int) == 45) = b5 at HS
      generalize h8 : ((s[k].toNat : Int) == 48) = b8 at HS
      generalize hd : digB (s[k].toNat : Int) = d at HS
      have HD : Hid (digB (s[k].toNat : Int) = d) := hd
      clear hd HFIN
      have hx : x = 0 ∨ x = 1 ∨ x = 2 ∨ x = 3 ∨ x = 4 ∨ x = 5 := by omega
      clear hr
      rcases hx with rfl | rfl | rfl | rfl | rfl | rfl
      all_goals
        cases b5 <;> cases b8 <;> cases d
        all_goals
          go_wp2_with (go_at_call 12; refine (digits_any _ _).mono ?_; rintro e w' ⟨rfl, rfl⟩; rw [HD.out])
          go_round
          case rel => exact ⟨k + 1, by omega, by go_num, congrArg (Value.int .i64) HS.out.symm⟩
          case measure => simp [intOf]; omega
    · have e : s.data.toList.take k = s.data.toList := List.take_of_length_le (by simp; omega)
      rw [e]
      have hr := aut_range s.data.toList
      have HA : Hid (acc s.data.toList = (aut s.data.toList == 2 || aut s.data.toList == 4)) := rfl
      clear e
      generalize aut s.data.toList = x at *
      have hx : x = 0 ∨ x = 1 ∨ x = 2 ∨ x = 3 ∨ x = 4 ∨ x = 5 := by omega
      clear hr
      have hno : acc s.data.toList = false → Hid (∀ w, Calls Try.prog 15 #[.string s] w fun e w' => e = .returned (.tuple #[.string ⟨#[]⟩, .bool false, .bool false]) ∧ w' = w) := by
        intro ha
        have hf := HFIN.out
        rw [(res_no s ha).1, (res_no s ha).2.1, (res_no s ha).2.2] at hf
        exact hf
      have hyes : acc s.data.toList = true → ∃ h0 : 0 < s.size, (((s[0].toNat : Int) == 45) = true ∧ Hid (∀ w, Calls Try.prog 15 #[.string s] w fun e w' => e = .returned (.tuple #[.string (s.extract 1 s.size), .bool true, .bool true]) ∧ w' = w))
          ∨ (((s[0].toNat : Int) == 45) = false ∧ Hid (∀ w, Calls Try.prog 15 #[.string s] w fun e w' => e = .returned (.tuple #[.string s, .bool false, .bool true]) ∧ w' = w)) := by
        intro ha
        have h0 := acc_size s ha
        refine ⟨h0, ?_⟩
        rw [head45 s h0]
        have hf := HFIN.out
        cases hn : negL s.data.toList with
        | true =>
          rw [(res_neg s ha hn).1, (res_neg s ha hn).2.1, (res_neg s ha hn).2.2] at hf
          exact .inl ⟨rfl, hf⟩
        | false =>
          rw [(res_pos s ha hn).1, (res_pos s ha hn).2.1, (res_pos s ha hn).2.2] at hf
          exact .inr ⟨rfl, hf⟩
      clear HFIN
      by_cases hacc : x = 2 ∨ x = 4
      · obtain ⟨h0, hcase⟩ := hyes (by rw [HA.out]; rcases hacc with rfl | rfl <;> rfl)
        clear hno hyes HA hx
        rcases hacc with rfl | rfl
        all_goals
          rcases hcase with ⟨h45, HC⟩ | ⟨h45, HC⟩
          all_goals
            go_wp2_with (go_at_call 15; refine (HC.out _).mono ?_; rintro e w' ⟨rfl, rfl⟩)
            go_ret
            exact ⟨ret_bool (by simp), rfl⟩
      · have HC := hno (by rw [HA.out]; rcases hx with rfl | rfl | rfl | rfl | rfl | rfl <;> first | rfl | omega)
        clear hno hyes HA
        rcases hx with rfl | rfl | rfl | rfl | rfl | rfl
        all_goals first | (exfalso; omega) | skip
        all_goals
          clear hacc
          go_wp2_with (go_at_call 15; refine (HC.out _).mono ?_; rintro e w' ⟨rfl, rfl⟩)
          go_ret
          exact ⟨ret_bool (by simp), rfl⟩

theorem walk (a0 : ByteArray) (w0 : a0.size ≤ maxLen) (w : World) :
    Calls Try.prog 5 #[.string a0] w fun e w' => e = .returned (.bool true) ∧ Grown w w' := by
  by_cases h : 1048576 < a0.size
  · exact (walk_long a0 w0 h w).mono fun e w' ⟨h1, h2⟩ => ⟨h1, h2 ▸ Grown.refl w⟩
  · exact (walk_short a0 (by omega) w).mono fun e w' ⟨h1, h2⟩ => ⟨h1, h2 ▸ Grown.refl w⟩

/-! ### THE ROW's STEP: WRITTEN OUT: LEAVE IT -/
set_option maxRecDepth 100000 in
theorem lifted (os : Os) (started : os.Started) (H : Type) (enc : TypeId × Value → H) :
    ReturnsInHanded {} Try.checked os 5 .any (Rows.fnIntDigitsExactSpec.pre6 enc Try.prog Try.f5 Rows.fnIntDigitsExactRow.domain false) (Rows.fnIntDigitsExactSpec.post enc Try.prog Try.f5 false true false false) := by
  refine returnsInHanded_of_change (C := Try.checked) own started (by kernel_rfl) Try.func5
    (ChangeSpec.witness6 (enc := enc) (C := Try.checked) false ⟨#[], #[.string ByteArray.empty], []⟩ 8 (by kernel_rfl) (by kernel_rfl) (by kernel_rfl) (by kernel_rfl)) ?_
  intro W base args ds gs before hval0 hW hcnd _
  have hval : ∀ (j : Nat) t v, Try.f5.params[j]? = some t → args[j]? = some v → Value.okWide Try.prog W .any base t v := hval0
  have hW' := hW
  obtain ⟨p, q, hA0, hV, rfl, hfz, hnd⟩ := hW
  have hA : DataW.TrodAll enc Try.prog W 0 (fun _ => true) true Try.f5.params.toList args.toList ds p := hA0
  rw [Try.params5] at hA hval
  obtain ⟨v0, vs0, d0, ds0, p0, q0, hargs, rfl, rfl, h0, r0⟩ := trodAll_cons hA
  obtain ⟨rfl, rfl, rfl⟩ := trodAll_nil r0
  obtain rfl : args = #[v0] := by cases args; simp_all
  obtain ⟨rfl, rfl⟩ := trodVars_none hV
  obtain ⟨a0, rfl, rfl, rfl, w0⟩ := open_string Try.underlying9 (hval 0 9 v0 rfl rfl) h0
  clear hA0 hval0
  simp only [List.append_nil] at hW'
  refine (walk a0 w0 W).mono fun e W' ⟨he, hg⟩ => ?_
  subst he
  exact ⟨_, rfl, post_of_same (pa := []) (pv := []) hW' (fun _ _ _ => (trodAll_cons_mk (shut_bool Try.underlying4 _) trodAll_mk0)) (fun sp _ => (trodAll_cons_mk (shut_string Try.underlying9 w0) trodAll_mk0)) (fun _ _ => rfl) rfl
    (hg.frame _) hg.2.1 (ok_one (by kernel_rfl) rfl (okWide_bool_mk Try.underlying4 _))⟩

theorem over : Rows.fnIntDigitsExactRow.holds Try.pinned (OpenSpec.ofChange Rows.fnIntDigitsExactSpec) :=
  OpenClaim.holds_of_wide 5 Try.f5 rfl rfl rfl rfl rfl rfl rfl ⟨rfl, rfl, rfl, rfl, rfl⟩ rfl rfl rfl rfl rfl (by kernel_rfl) Try.func5 (by kernel_rfl)
    (of_decide_eq_true (by kernel_rfl)) (by unfold Func.isWrapper; first | (rw [if_pos (by decide +kernel)]; kernel_rfl) | (rw [if_neg (by decide +kernel)]; exact ⟨rfl, rfl⟩))
    (fun os started H enc _ => lifted os started H enc)

/-- ████ THE STATEMENT ████ -/
theorem proved : Rows.FnIntDigitsExactSaid :=
  over
end Go.Proofs.Qxb6602386a.fnIntDigitsExact
