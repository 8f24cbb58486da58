/-
  THE PROOF OF 'Rows.FnIntDigitsOfFormattedInt64Said': the frame is the guide's shell for this function; the walk is ours.
-/
import Derived.Test.Qxb6602386aRows
import Derived.WalkKit
import Derived.ProofKit
import Derived.OpenShut
import Derived.ShutString
import Derived.Test.Qxb6602386aItoa
import Derived.Lib.Strings
namespace Go.Proofs.Qxb6602386a.fnIntDigitsOfFormattedInt64
open Go.ChangeShapes Go.WideShapes Go.ChangeAt Go.RowKit
open Go.ChangeMaps (open_string shut_string)
set_option linter.unusedVariables false      -- a walk need not use every 'w<i>' (that an integer argument fits its kind)

theorem own : ownKnob Try.prog.godebug = none := by kernel_rfl

/-! ### The plain laws -/
open Go.Proofs.Qxb6602386a.Plain Go.Proofs.Qxb6602386a.Walks

theorem text_neg {u : Nat} {l : List UInt8} (h : Text u l) : negL l = false := by
  cases l with
  | nil => rfl
  | cons a t =>
    have hd := h.digits
    simp only [allD, List.all_cons, Bool.and_eq_true, digB, decide_eq_true_eq] at hd
    unfold negL
    rw [List.head?_cons, beq_eq_false_iff_ne]
    intro he
    injection he with he
    rw [he] at hd
    have h45 : ((45 : UInt8).toNat : Int) = 45 := rfl
    omega

theorem text_ok {u : Nat} {l : List UInt8} {n : Bool} (h : Text u l) (hu : n = true → u ≠ 0) : okL l n = true := by
  have h1 := h.some'
  have hd := h.digits
  have hl := h.lead
  unfold okL
  have he : l.isEmpty = false := by cases l <;> simp_all
  rw [he, hd]
  cases hz : (l.head? == some 48) with
  | false => rfl
  | true =>
    obtain ⟨h2, h3⟩ := hl (beq_iff_eq.1 hz)
    cases n with
    | true => exact absurd h3 (hu rfl)
    | false => simp [h2]

theorem pos_all {u : Nat} {m : ByteArray} (h : Text u m.data.toList) : idOk m = true ∧ idN m = false ∧ idD m = m := by
  have hn := text_neg h
  have hc : cutB m = m := by unfold cutB; rw [if_neg (by simp [hn])]
  have ho : idOk m = true := by unfold idOk; rw [hc, hn]; exact text_ok h (by simp)
  refine ⟨ho, ?_, ?_⟩
  · unfold idN; rw [ho, hn]; rfl
  · unfold idD; rw [if_pos ho, hc]

theorem neg_all {u : Nat} {m : ByteArray} (h : Text u m.data.toList) (hu : u ≠ 0) :
    idOk (⟨#[45]⟩ ++ m) = true ∧ idN (⟨#[45]⟩ ++ m) = true ∧ idD (⟨#[45]⟩ ++ m) = m := by
  have e : ((⟨#[45]⟩ : ByteArray) ++ m).data.toList = 45 :: m.data.toList := by simp
  have hn : negL ((⟨#[45]⟩ : ByteArray) ++ m).data.toList = true := by rw [e]; rfl
  have hc : cutB (⟨#[45]⟩ ++ m) = m := by
    unfold cutB; rw [if_pos hn]
    apply ByteArray.ext
    apply Array.ext'
    have h45 : (⟨#[45]⟩ : ByteArray).size = 1 := rfl
    rw [Lib.extract_data, e, ByteArray.size_append, h45, List.drop_succ_cons, List.drop_zero]
    exact List.take_of_length_le (by simp)
  have ho : idOk (⟨#[45]⟩ ++ m) = true := by unfold idOk; rw [hc, hn]; exact text_ok h (fun _ => hu)
  refine ⟨ho, ?_, ?_⟩
  · unfold idN; rw [ho, hn]; rfl
  · unfold idD; rw [if_pos ho, hc]

theorem two_wraps (a : Int) (h0 : a < 0) (h1 : -9223372036854775808 ≤ a) : IntKind.u64.wrap (-IntKind.u64.wrap a) = ((-a).toNat : Int) := by
  simp only [IntKind.wrap, IntKind.signed, IntKind.bits, Bool.false_and, Bool.false_eq_true, if_false]
  omega

/-! ### The walk -/
theorem neg_call (m : ByteArray) (w1 : World) (hsz : m.size ≤ 20) (h : idOk (⟨#[45]⟩ ++ m) = true ∧ idN (⟨#[45]⟩ ++ m) = true ∧ idD (⟨#[45]⟩ ++ m) = m) :
    Calls Try.prog 15 #[.string (⟨#[45]⟩ ++ m)] w1 fun e w' => e = .returned (.tuple #[.string m, .bool true, .bool true]) ∧ w' = w1 := by
  have hl : ((⟨#[45]⟩ : ByteArray) ++ m).size ≤ maxLen := by
    unfold maxLen; rw [ByteArray.size_append]; have : (⟨#[45]⟩ : ByteArray).size = 1 := rfl; omega
  have hc := zzIntDigits_any (⟨#[45]⟩ ++ m) w1 hl
  rw [h.1, h.2.1, h.2.2] at hc
  exact hc

set_option maxHeartbeats 400000 in
theorem walk_pos (u : Nat) (h1 : u < 9223372036854775808) (w : World) :
    Calls Try.prog 6 #[.int .i64 u] w fun e w' => e = .returned (.bool true) ∧ Grown w w' := by
  go_enter Try.func6, Try.ntmps6
  go_wp2_with fail
  refine (itoa_any u w (by omega)).mono ?_
  rintro e w1 ⟨m, rfl, ht, hg⟩
  have hsz : m.size ≤ 20 := by have := ht.few; simpa using this
  obtain ⟨e1, e2, e3⟩ := pos_all ht
  have HT : Hid (idOk m = true ∧ idN m = false ∧ idD m = m) := ⟨e1, e2, e3⟩
  clear ht e1 e2 e3
  go_wp2_with fail
  refine (zzIntDigits_any m w1 (by unfold maxLen; omega)).mono ?_
  rw [HT.out.1, HT.out.2.1, HT.out.2.2]
  rintro e w2 ⟨rfl, rfl⟩
  go_wp2
  go_ret
  exact ⟨ret_bool (by simp), hg⟩

set_option maxHeartbeats 400000 in
theorem walk_neg (a0 : Int) (h0 : a0 < 0) (h1 : -9223372036854775808 ≤ a0) (w : World) :
    Calls Try.prog 6 #[.int .i64 a0] w fun e w' => e = .returned (.bool true) ∧ Grown w w' := by
  go_enter Try.func6, Try.ntmps6
  go_wp2_with fail
  rw [two_wraps a0 h0 h1]
  refine (itoa_any (-a0).toNat w (by omega)).mono ?_
  rintro e w1 ⟨m, rfl, ht, hg⟩
  have hsz : m.size ≤ 20 := by have := ht.few; simpa using this
  have hne : (-a0).toNat ≠ 0 := by omega
  obtain ⟨e1, e2, e3⟩ := neg_all ht hne
  have HT : Hid (idOk (⟨#[45]⟩ ++ m) = true ∧ idN (⟨#[45]⟩ ++ m) = true ∧ idD (⟨#[45]⟩ ++ m) = m) := ⟨e1, e2, e3⟩
  clear ht e1 e2 e3 hne
  have hc := neg_call m w1 hsz HT.out
  clear HT
  have HC : Hid (Calls Try.prog 15 #[.string (⟨#[45]⟩ ++ m)] w1 fun e w' => e = .returned (.tuple #[.string m, .bool true, .bool true]) ∧ w' = w1) := hc
  clear hc
  go_wp2_with fail
  refine HC.out.mono ?_
  rintro e w2 ⟨rfl, rfl⟩
  clear HC
  go_wp2
  go_ret
  exact ⟨ret_bool (by simp), hg⟩

theorem walk (a0 : Int) (w0 : (Lit.int .i64 a0).wf = true) (w : World) :
    Calls Try.prog 6 #[.int .i64 a0] w fun e w' => e = .returned (.bool true) ∧ Grown w w' := by
  have hb := bounds_i64 w0
  by_cases h : a0 < 0
  · exact walk_neg a0 h (by omega) w
  · obtain ⟨u, rfl⟩ := Int.eq_ofNat_of_zero_le (show 0 ≤ a0 by omega)
    exact walk_pos u (by omega) w

/-! ### THE ROW's STEP: WRITTEN OUT: LEAVE IT -/
set_option maxRecDepth 100000 in
theorem lifted (os : Os) (started : os.Started) (H : Type) (enc : TypeId × Value → H) :
    ReturnsInHanded {} Try.checked os 6 .any (Rows.fnIntDigitsOfFormattedInt64Spec.pre6 enc Try.prog Try.f6 Rows.fnIntDigitsOfFormattedInt64Row.domain false) (Rows.fnIntDigitsOfFormattedInt64Spec.post enc Try.prog Try.f6 false true false false) := by
  refine returnsInHanded_of_change (C := Try.checked) own started (by kernel_rfl) Try.func6
    (ChangeSpec.witness6 (enc := enc) (C := Try.checked) false ⟨#[], #[.int .i64 0], []⟩ 8 (by kernel_rfl) (by kernel_rfl) (by kernel_rfl) (by kernel_rfl)) ?_
  intro W base args ds gs before hval0 hW hcnd _
  have hval : ∀ (j : Nat) t v, Try.f6.params[j]? = some t → args[j]? = some v → Value.okWide Try.prog W .any base t v := hval0
  have hW' := hW
  obtain ⟨p, q, hA0, hV, rfl, hfz, hnd⟩ := hW
  have hA : DataW.TrodAll enc Try.prog W 0 (fun _ => true) true Try.f6.params.toList args.toList ds p := hA0
  rw [Try.params6] at hA hval
  obtain ⟨v0, vs0, d0, ds0, p0, q0, hargs, rfl, rfl, h0, r0⟩ := trodAll_cons hA
  obtain ⟨rfl, rfl, rfl⟩ := trodAll_nil r0
  obtain rfl : args = #[v0] := by cases args; simp_all
  obtain ⟨rfl, rfl⟩ := trodVars_none hV
  obtain ⟨a0, rfl, rfl, rfl, w0⟩ := open_int Try.underlying2 (hval 0 2 v0 rfl rfl) h0
  clear hA0 hval0
  simp only [List.append_nil] at hW'
  refine (walk a0 w0 W).mono fun e W' ⟨he, hg⟩ => ?_
  subst he
  exact ⟨_, rfl, post_of_same (pa := []) (pv := []) hW' (fun _ _ _ => (trodAll_cons_mk (shut_bool Try.underlying4 _) trodAll_mk0)) (fun sp _ => (trodAll_cons_mk (shut_int Try.underlying2 w0) trodAll_mk0)) (fun _ _ => rfl) rfl
    (hg.frame _) hg.2.1 (ok_one (by kernel_rfl) rfl (okWide_bool_mk Try.underlying4 _))⟩

theorem over : Rows.fnIntDigitsOfFormattedInt64Row.holds Try.pinned (OpenSpec.ofChange Rows.fnIntDigitsOfFormattedInt64Spec) :=
  OpenClaim.holds_of_wide 6 Try.f6 rfl rfl rfl rfl rfl rfl rfl ⟨rfl, rfl, rfl, rfl, rfl⟩ rfl rfl rfl rfl rfl (by kernel_rfl) Try.func6 (by kernel_rfl)
    (of_decide_eq_true (by kernel_rfl)) (by unfold Func.isWrapper; first | (rw [if_pos (by decide +kernel)]; kernel_rfl) | (rw [if_neg (by decide +kernel)]; exact ⟨rfl, rfl⟩))
    (fun os started H enc _ => lifted os started H enc)

/-- ████ THE STATEMENT ████ -/
theorem proved : Rows.FnIntDigitsOfFormattedInt64Said :=
  over
end Go.Proofs.Qxb6602386a.fnIntDigitsOfFormattedInt64
