import Derived.Test.Qxb6602386aRows
import Derived.WalkKit
import Derived.WalkSpells
import Derived.WalkLawsBesides
import Derived.Test.Qxb6602386aPlain
namespace Go.Proofs.Qxb6602386a.Walks
open Go.RowKit Go.Proofs.Qxb6602386a.Plain
theorem ret_bool {a b : Bool} (h : a = b) : Ending.returned (.bool a) = .returned (.bool b) := by rw [h]

theorem isDigit_any (c : Int) (w : World) :
    Calls Try.prog 22 #[.int .u8 c] w fun e w' => e = .returned (.bool (digB c)) ∧ w' = w := by
  by_cases h1 : 48 ≤ c
  · by_cases h2 : c ≤ 57
    · have e : digB c = true := by simp [digB, h1, h2]
      rw [e]; clear e
      go_enter Try.func22, Try.ntmps22
      go_wp2
      go_ret
      exact ⟨rfl, rfl⟩
    · have e : digB c = false := by simp [digB, h2]
      rw [e]; clear e
      go_enter Try.func22, Try.ntmps22
      go_wp2
      go_ret
      exact ⟨rfl, rfl⟩
  · have e : digB c = false := by simp [digB, h1]
    rw [e]; clear e
    go_enter Try.func22, Try.ntmps22
    go_wp2
    go_ret
    exact ⟨rfl, rfl⟩

theorem isLetter_any (c : Int) (w : World) :
    Calls Try.prog 21 #[.int .u8 c] w fun e w' => e = .returned (.bool (letB c)) ∧ w' = w := by
  by_cases h1 : 97 ≤ c <;> by_cases h2 : c ≤ 122 <;> by_cases h3 : 65 ≤ c <;> by_cases h4 : c ≤ 90
  all_goals first | omega | skip
  all_goals
    first
    | (have e : letB c = true := by simp [letB]; omega
       rw [e]; clear e
       go_enter Try.func21, Try.ntmps21
       go_wp2
       go_ret
       exact ⟨rfl, rfl⟩)
    | (have e : letB c = false := by simp [letB]; omega
       rw [e]; clear e
       go_enter Try.func21, Try.ntmps21
       go_wp2
       go_ret
       exact ⟨rfl, rfl⟩)

set_option maxHeartbeats 400000 in
theorem zzsIn_any (c : Int) (s : ByteArray) (w : World) (hs : s.size ≤ maxLen) :
    Calls Try.prog 12 #[.int .u8 c, .string s] w fun e w' => e = .returned (.bool (inB s.data.toList c)) ∧ w' = w := by
  unfold maxLen at hs
  go_enter Try.func12, Try.ntmps12
  go_wp2
  go_loop [5] (fun i => ∃ k : Nat, k ≤ s.size ∧ i = .int .i64 k ∧ inB (s.data.toList.take k) c = false) (fun i => s.size - (intOf i).toNat)
  case atStart => exact ⟨0, Nat.zero_le _, rfl, by simp [inB]⟩
  case round =>
    obtain ⟨k, hk, rfl, hf⟩ := hrel
    have HF : Hid (inB (s.data.toList.take k) c = false) := hf
    clear hf
    by_cases hlt : k < s.size
    · by_cases he : (s[k].toNat : Int) = c
      · have hb : ((s[k].toNat : Int) == c) = true := by simp [he]
        have HR : Hid (inB s.data.toList c = true) := by
          have h1 : inB (s.data.toList.take (k + 1)) c = true := by rw [take_snoc s k hlt, inB_snoc, hb]; simp
          have h2 : s.data.toList = s.data.toList.take (k + 1) ++ s.data.toList.drop (k + 1) := by simp
          show inB s.data.toList c = true
          rw [h2]; unfold inB; rw [List.any_append]; unfold inB at h1; rw [h1]; rfl
        clear he
        go_wp2
        go_ret
        exact ⟨ret_bool HR.out.symm, rfl⟩
      · have hb : ((s[k].toNat : Int) == c) = false := by simp [he]
        have HR : Hid (inB (s.data.toList.take (k + 1)) c = false) := by
          show inB (s.data.toList.take (k + 1)) c = false
          rw [take_snoc s k hlt, inB_snoc, hb, HF.out]; rfl
        clear he
        go_wp2
        go_round
        case rel => exact ⟨k + 1, by omega, by go_num, HR.out⟩
        case measure => simp [intOf]; omega
    · have HR : Hid (inB s.data.toList c = false) := by
        have h0 := HF.out
        rw [List.take_of_length_le (by simp; omega)] at h0
        exact h0
      go_wp2
      go_ret
      exact ⟨ret_bool HR.out.symm, rfl⟩

set_option maxHeartbeats 400000 in
theorem cut_neg (s : ByteArray) (w : World) (hs : s.size ≤ maxLen) (h0 : 1 ≤ s.size) (h : ((s.extract 0 1).toList == [45]) = true) :
    Calls Try.prog 23 #[.string s, .string ⟨#[45]⟩] w fun e w' => e = .returned (.tuple #[.string (s.extract 1 s.size), .bool true]) ∧ w' = w := by
  unfold maxLen at hs
  go_enter Try.func23, Try.ntmps23
  go_wp2
  go_ret2
  exact ⟨rfl, rfl⟩

set_option maxHeartbeats 400000 in
theorem cut_pos (s : ByteArray) (w : World) (hs : s.size ≤ maxLen) (h : s.size = 0 ∨ (1 ≤ s.size ∧ ((s.extract 0 1).toList == [45]) = false)) :
    Calls Try.prog 23 #[.string s, .string ⟨#[45]⟩] w fun e w' => e = .returned (.tuple #[.string s, .bool false]) ∧ w' = w := by
  unfold maxLen at hs
  rcases h with h | ⟨h1, h⟩
  · have h' : ¬ 1 ≤ s.size := by omega
    clear h
    go_enter Try.func23, Try.ntmps23
    go_wp2
    go_ret2
    exact ⟨rfl, rfl⟩
  · go_enter Try.func23, Try.ntmps23
    go_wp2
    go_ret2
    exact ⟨rfl, rfl⟩

set_option maxHeartbeats 400000 in
theorem int_empty (s d : ByteArray) (n : Bool) (w : World)
    (hc : ∀ w, Calls Try.prog 23 #[.string s, .string ⟨#[45]⟩] w fun e w' => e = .returned (.tuple #[.string d, .bool n]) ∧ w' = w) (h0 : d.toList.isEmpty = true) :
    Calls Try.prog 20 #[.string s] w fun e w' => e = .returned (.tuple #[.string ⟨#[]⟩, .bool false, .bool false]) ∧ w' = w := by
  have HC : Hid (∀ w, Calls Try.prog 23 #[.string s, .string ⟨#[45]⟩] w fun e w' => e = .returned (.tuple #[.string d, .bool n]) ∧ w' = w) := hc
  clear hc
  go_enter Try.func20, Try.ntmps20
  go_wp2_with (go_at_call 23; refine (HC.out _).mono ?_; rintro e w' ⟨rfl, rfl⟩)
  go_ret3
  exact ⟨rfl, rfl⟩

set_option maxHeartbeats 400000 in
theorem int_zero (s d : ByteArray) (n : Bool) (w : World) (hd : d.size ≤ maxLen)
    (hc : ∀ w, Calls Try.prog 23 #[.string s, .string ⟨#[45]⟩] w fun e w' => e = .returned (.tuple #[.string d, .bool n]) ∧ w' = w) (h0 : d.toList.isEmpty = false) (hp : 0 < d.size)
    (h1 : ((d[0].toNat : Int) == 48) = true) (h2 : 1 < d.size ∨ n = true) :
    Calls Try.prog 20 #[.string s] w fun e w' => e = .returned (.tuple #[.string ⟨#[]⟩, .bool false, .bool false]) ∧ w' = w := by
  unfold maxLen at hd
  have HC : Hid (∀ w, Calls Try.prog 23 #[.string s, .string ⟨#[45]⟩] w fun e w' => e = .returned (.tuple #[.string d, .bool n]) ∧ w' = w) := hc
  clear hc
  by_cases h3 : 1 < d.size
  · clear h2
    go_enter Try.func20, Try.ntmps20
    go_wp2_with (go_at_call 23; refine (HC.out _).mono ?_; rintro e w' ⟨rfl, rfl⟩)
    go_ret3
    exact ⟨rfl, rfl⟩
  · obtain rfl : n = true := by rcases h2 with h | h; exact absurd h h3; exact h
    clear h2
    go_enter Try.func20, Try.ntmps20
    go_wp2_with (go_at_call 23; refine (HC.out _).mono ?_; rintro e w' ⟨rfl, rfl⟩)
    go_ret3
    exact ⟨rfl, rfl⟩

set_option maxHeartbeats 400000 in
theorem int_loop (s d : ByteArray) (n : Bool) (w : World) (hd : d.size ≤ maxLen)
    (hc : ∀ w, Calls Try.prog 23 #[.string s, .string ⟨#[45]⟩] w fun e w' => e = .returned (.tuple #[.string d, .bool n]) ∧ w' = w) (h0 : d.toList.isEmpty = false) (hp : 0 < d.size)
    (h1 : ((d[0].toNat : Int) == 48) = false ∨ (((d[0].toNat : Int) == 48) = true ∧ ¬ 1 < d.size ∧ n = false)) :
    Calls Try.prog 20 #[.string s] w fun e w' => (allD d.data.toList = true ∧ e = .returned (.tuple #[.string d, .bool n, .bool true]) ∨ allD d.data.toList = false ∧ e = .returned (.tuple #[.string ⟨#[]⟩, .bool false, .bool false])) ∧ w' = w := by
  unfold maxLen at hd
  have HC : Hid (∀ w, Calls Try.prog 23 #[.string s, .string ⟨#[45]⟩] w fun e w' => e = .returned (.tuple #[.string d, .bool n]) ∧ w' = w) := hc
  clear hc
  rcases h1 with h1 | ⟨h1, h2, h3⟩
  all_goals
    go_enter Try.func20, Try.ntmps20
    go_wp2_with (go_at_call 23; refine (HC.out _).mono ?_; rintro e w' ⟨rfl, rfl⟩)
    go_loop [2, 3, 28] (fun a b i => ∃ k : Nat, a = .string d ∧ b = .bool n ∧ k ≤ d.size ∧ i = .int .i64 k ∧ allD (d.data.toList.take k) = true) (fun _ _ i => d.size - (intOf i).toNat)
    case atStart => exact ⟨0, rfl, by first | rfl | rw [h3], Nat.zero_le _, rfl, by simp [allD]⟩
    case round =>
      obtain ⟨k, rfl, rfl, hk, rfl, hf⟩ := hrel
      have HF : Hid (allD (d.data.toList.take k) = true) := hf
      clear hf
      by_cases hlt : k < d.size
      · have HS : Hid (allD (d.data.toList.take (k + 1)) = digB d[k].toNat) := by
          show allD (d.data.toList.take (k + 1)) = digB d[k].toNat
          have h := HF.out
          rw [take_snoc d k hlt]; unfold allD at *; rw [List.all_append, h]; simp
        generalize hx : digB (d[k].toNat : Int) = x at *
        cases x
        · have HA : Hid (allD d.data.toList = false) := by
            have h2 : d.data.toList = d.data.toList.take (k + 1) ++ d.data.toList.drop (k + 1) := by simp
            have h3 := HS.out
            show allD d.data.toList = false
            rw [h2]; unfold allD at *; rw [List.all_append, h3]; rfl
          have HX : Hid (digB (d[k].toNat : Int) = false) := hx
          clear hx
          go_wp2_with (go_at_call 22; refine (isDigit_any _ _).mono ?_; rintro e w' ⟨rfl, rfl⟩; rw [HX.out])
          go_ret3
          exact ⟨.inr ⟨HA.out, rfl⟩, rfl⟩
        · have HX : Hid (digB (d[k].toNat : Int) = true) := hx
          clear hx
          go_wp2_with (go_at_call 22; refine (isDigit_any _ _).mono ?_; rintro e w' ⟨rfl, rfl⟩; rw [HX.out])
          go_round
          case rel => exact ⟨k + 1, rfl, by first | rfl | rw [h3], by omega, by go_num, HS.out⟩
          case measure => simp [intOf]; omega
      · have HA : Hid (allD d.data.toList = true) := by
          have h3 := HF.out
          rw [List.take_of_length_le (by simp; omega)] at h3
          exact h3
        go_wp2
        go_ret3
        exact ⟨.inl ⟨HA.out, by first | rfl | rw [h3]⟩, rfl⟩
/-! ### intDigits, whole -/

theorem ext01 (s : ByteArray) (h : 1 ≤ s.size) : ((s.extract 0 1).toList == [45]) = negL s.data.toList := by
  rw [ByteArray.toList_eq]
  obtain ⟨⟨l⟩⟩ := s
  cases l with
  | nil => simp [ByteArray.size] at h
  | cons a t => simp [negL, ByteArray.extract_mk]

theorem first_data (s : ByteArray) (h : 0 < s.size) : s.data.toList = s[0] :: s.data.toList.drop 1 := by
  obtain ⟨⟨l⟩⟩ := s
  cases l with
  | nil => simp [ByteArray.size] at h
  | cons a t => rfl

theorem cut_any (s : ByteArray) (w : World) (hs : s.size ≤ maxLen) :
    Calls Try.prog 23 #[.string s, .string ⟨#[45]⟩] w fun e w' => e = .returned (.tuple #[.string (cutB s), .bool (negL s.data.toList)]) ∧ w' = w := by
  by_cases h0 : 1 ≤ s.size
  · have h1 := ext01 s h0
    cases hn : negL s.data.toList with
    | true => rw [hn] at h1; unfold cutB; rw [if_pos hn]; exact cut_neg s w hs h0 h1
    | false => rw [hn] at h1; unfold cutB; rw [if_neg (by simp [hn])]; exact cut_pos s w hs (.inr ⟨h0, h1⟩)
  · have e : s.data.toList = [] := by
      have : s.data.toList.length = s.size := by simp
      exact List.eq_nil_of_length_eq_zero (by omega)
    have hn : negL s.data.toList = false := by rw [e]; rfl
    unfold cutB; rw [if_neg (by simp [hn]), hn]; exact cut_pos s w hs (.inl (by omega))

theorem cutB_size (s : ByteArray) : (cutB s).size ≤ s.size := by
  unfold cutB
  split
  · simp
  · exact Nat.le_refl _

theorem intDigits_any (s : ByteArray) (w : World) (hs : s.size ≤ maxLen) :
    Calls Try.prog 20 #[.string s] w fun e w' => e = .returned (.tuple #[.string (idD s), .bool (idN s), .bool (idOk s)]) ∧ w' = w := by
  have hc := fun w => cut_any s w hs
  have hd := Nat.le_trans (cutB_size s) hs
  unfold idD idN idOk
  generalize cutB s = d at *
  generalize negL s.data.toList = n at *
  by_cases h0 : 0 < d.size
  · have he : d.toList.isEmpty = false := by rw [ByteArray.toList_eq, first_data d h0]; rfl
    have hl : d.data.toList.length = d.size := by simp
    have hz : ((d[0].toNat : Int) == 48) = (d.data.toList.head? == some 48) := by
      rw [first_data d h0, Bool.eq_iff_iff]
      simp only [beq_iff_eq, List.head?_cons, Option.some.injEq]
      constructor
      · intro h; apply UInt8.toNat_inj.1; simp; omega
      · intro h; rw [h]; rfl
    by_cases hbad : ((d[0].toNat : Int) == 48) = true ∧ (1 < d.size ∨ n = true)
    · have ho : okL d.data.toList n = false := by
        unfold okL
        rw [← hz, hbad.1, hl]
        rcases hbad.2 with h | h <;> simp [h]
      rw [ho]
      exact int_zero s d n w hd hc he h0 hbad.1 hbad.2
    · have h1 : ((d[0].toNat : Int) == 48) = false ∨ (((d[0].toNat : Int) == 48) = true ∧ ¬ 1 < d.size ∧ n = false) := by
        cases hq : ((d[0].toNat : Int) == 48) with
        | false => exact .inl rfl
        | true =>
          rw [hq] at hbad
          refine .inr ⟨rfl, fun h => hbad ⟨rfl, .inl h⟩, ?_⟩
          cases n with
          | false => rfl
          | true => exact absurd ⟨rfl, .inr rfl⟩ hbad
      have ho : okL d.data.toList n = allD d.data.toList := by
        unfold okL
        rw [← hz, hl]
        have hne : d.data.toList.isEmpty = false := by rw [← ByteArray.toList_eq]; exact he
        rw [hne]
        rcases h1 with h | ⟨h, h', h''⟩
        · simp [h]
        · simp [h, h', h'']
      rw [ho]
      refine (int_loop s d n w hd hc he h0 h1).mono ?_
      rintro e w' ⟨⟨ha, rfl⟩ | ⟨ha, rfl⟩, rfl⟩
      · rw [ha]; simp
      · rw [ha]; simp
  · have e : d.data.toList = [] := List.eq_nil_of_length_eq_zero (by have : d.data.toList.length = d.size := by simp
                                                                     omega)
    have ho : okL d.data.toList n = false := by rw [e]; rfl
    rw [ho]
    exact int_empty s d n w hc (by rw [ByteArray.toList_eq, e]; rfl)

set_option maxHeartbeats 400000 in
theorem zzIntDigits_any (s : ByteArray) (w : World) (hs : s.size ≤ maxLen) :
    Calls Try.prog 15 #[.string s] w fun e w' => e = .returned (.tuple #[.string (idD s), .bool (idN s), .bool (idOk s)]) ∧ w' = w := by
  have H := intDigits_any s w hs
  generalize idD s = x at *
  generalize idN s = y at *
  generalize idOk s = z at *
  have HC : Hid (Calls Try.prog 20 #[.string s] w fun e w' => e = .returned (.tuple #[.string x, .bool y, .bool z]) ∧ w' = w) := H
  clear H
  go_enter Try.func15, Try.ntmps15
  go_wp2_with (go_at_call 20; refine HC.out.mono ?_; rintro e w' ⟨rfl, rfl⟩)
  go_ret3
  exact ⟨rfl, rfl⟩

end Go.Proofs.Qxb6602386a.Walks
