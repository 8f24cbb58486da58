/-
  Plain laws for FnIntDigitsExact: the automaton of the law against what intDigits asks. No Go in sight.
-/
import Derived.Test.Qxb6602386aPlain
import Derived.Lib.Strings
namespace Go.Proofs.Qxb6602386a.Plain

/-- One step of the automaton. -/
def stp (st c : Int) : Int :=
  if st = 0 then (if c = 45 then 1 else if c = 48 then 2 else if digB c = true then 4 else 5)
  else if st = 1 then (if c = 48 then 3 else if digB c = true then 4 else 5)
  else if st = 2 ∨ st = 3 then 5
  else if st = 4 then (if digB c = true then 4 else 5)
  else st

/-- The same step over the three tests. -/
def stpB (st : Int) (b5 b8 d : Bool) : Int :=
  if st = 0 then (if b5 = true then 1 else if b8 = true then 2 else if d = true then 4 else 5)
  else if st = 1 then (if b8 = true then 3 else if d = true then 4 else 5)
  else if st = 2 ∨ st = 3 then 5
  else if st = 4 then (if d = true then 4 else 5)
  else st

theorem stp_eq (st c : Int) : stp st c = stpB st (c == 45) (c == 48) (digB c) := by
  simp [stp, stpB]

def autFrom (st : Int) (l : List UInt8) : Int := l.foldl (fun st b => stp st b.toNat) st
def aut (l : List UInt8) : Int := autFrom 0 l

theorem autFrom_cons (st : Int) (a : UInt8) (t : List UInt8) : autFrom st (a :: t) = autFrom (stp st a.toNat) t := rfl

theorem aut_snoc (l : List UInt8) (b : UInt8) : aut (l ++ [b]) = stp (aut l) b.toNat := by
  simp [aut, autFrom]

theorem stp_range (st c : Int) (h0 : 0 ≤ st) (h5 : st ≤ 5) : 0 ≤ stp st c ∧ stp st c ≤ 5 := by
  unfold stp
  repeat' split
  all_goals omega

theorem autFrom_range (l : List UInt8) : ∀ st : Int, 0 ≤ st → st ≤ 5 → 0 ≤ autFrom st l ∧ autFrom st l ≤ 5 := by
  induction l with
  | nil => intro st h0 h5; exact ⟨h0, h5⟩
  | cons a t ih =>
    intro st h0 h5
    have h := stp_range st a.toNat h0 h5
    exact ih _ h.1 h.2

theorem aut_range (l : List UInt8) : 0 ≤ aut l ∧ aut l ≤ 5 := autFrom_range l 0 (by omega) (by omega)

theorem from5 (l : List UInt8) : autFrom 5 l = 5 := by
  induction l with
  | nil => rfl
  | cons a t ih => rw [autFrom_cons]; simp [stp, ih]

theorem from4 (l : List UInt8) : autFrom 4 l = if allD l = true then 4 else 5 := by
  induction l with
  | nil => rfl
  | cons a t ih =>
    rw [autFrom_cons]
    by_cases h : digB a.toNat = true
    · simp [stp, h, ih, allD]
    · simp [stp, h, from5, allD]

theorem from23 (l : List UInt8) (st : Int) (h : st = 2 ∨ st = 3) : autFrom st l = if l = [] then st else 5 := by
  cases l with
  | nil => rfl
  | cons a t =>
    rw [autFrom_cons]
    have e : stp st a.toNat = 5 := by
      rcases h with rfl | rfl <;> simp [stp]
    rw [e, from5]; simp

def cutL (l : List UInt8) : List UInt8 := if negL l = true then l.tail else l

theorem cutB_data (s : ByteArray) : (cutB s).data.toList = cutL s.data.toList := by
  unfold cutB cutL
  split
  · rw [Lib.extract_data, List.take_of_length_le (by simp)]
    simp
  · rfl

def acc (l : List UInt8) : Bool := aut l == 2 || aut l == 4

theorem dig48 : digB 48 = true := by decide
theorem dig45 : digB 45 = false := by decide

theorem ofNat_inj {a : UInt8} {n : Nat} (hn : n < 256) : ((a.toNat : Int) = n) ↔ a = UInt8.ofNat n := by
  constructor
  · intro h
    apply UInt8.toNat_inj.1
    rw [UInt8.toNat_ofNat']
    omega
  · intro h
    rw [h, UInt8.toNat_ofNat']
    omega

/-- behind a digit or at the start: what is asked of d, not behind a sign -/
theorem okL_false (a : UInt8) (t : List UInt8) : okL (a :: t) false = (digB a.toNat && allD t && !(a == 48 && !t.isEmpty)) := by
  unfold okL
  cases t with
  | nil => simp [allD]
  | cons b t =>
    by_cases h : a = 48
    · simp [h]
    · have h' : (a == 48) = false := by simpa using h
      simp [h', allD]

theorem okL_true (a : UInt8) (t : List UInt8) : okL (a :: t) true = (digB a.toNat && allD t && !(a == 48)) := by
  unfold okL
  by_cases h : a = 48
  · simp [h]
  · have h' : (a == 48) = false := by simpa using h
    simp [h', allD]

theorem i45 (a : UInt8) : ((a.toNat : Int) = 45) ↔ a = 45 := ofNat_inj (n := 45) (by omega)
theorem i48 (a : UInt8) : ((a.toNat : Int) = 48) ↔ a = 48 := ofNat_inj (n := 48) (by omega)

theorem acc_cons_other (a : UInt8) (t : List UInt8) (h : ¬ a = 45) : acc (a :: t) = okL (a :: t) false := by
  rw [okL_false]
  unfold acc aut
  rw [autFrom_cons]
  by_cases h8 : a = 48
  · subst h8
    have e : stp 0 (48 : UInt8).toNat = 2 := by decide
    rw [e, from23 _ _ (.inl rfl)]
    have hd : digB ((48 : UInt8).toNat : Int) = true := by decide
    cases t with
    | nil => rw [hd]; rfl
    | cons b t => simp
  · by_cases hd : digB a.toNat = true
    · have e : stp 0 a.toNat = 4 := by simp [stp, i45, i48, h, h8, hd]
      rw [e, from4, hd]
      by_cases ha : allD t = true
      · simp [ha, h8]
      · simp [ha]
    · have e : stp 0 a.toNat = 5 := by simp [stp, i45, i48, h, h8, hd]
      rw [e, from5]
      simp [hd]

theorem acc_cons_minus (t : List UInt8) : acc (45 :: t) = okL t true := by
  unfold acc aut
  rw [autFrom_cons]
  have e : stp 0 (45 : UInt8).toNat = 1 := by decide
  rw [e]
  cases t with
  | nil => rfl
  | cons a t =>
    rw [okL_true, autFrom_cons]
    by_cases h8 : a = 48
    · subst h8
      have e : stp 1 (48 : UInt8).toNat = 3 := by decide
      rw [e, from23 _ _ (.inr rfl)]
      cases t with
      | nil => simp
      | cons b t => simp
    · by_cases hd : digB a.toNat = true
      · have e : stp 1 a.toNat = 4 := by simp [stp, i48, h8, hd]
        rw [e, from4, hd]
        by_cases ha : allD t = true
        · simp [ha, h8]
        · simp [ha]
      · have e : stp 1 a.toNat = 5 := by simp [stp, i48, h8, hd]
        rw [e, from5]
        simp [hd]

theorem acc_ok (s : ByteArray) : acc s.data.toList = idOk s := by
  unfold idOk
  rw [cutB_data]
  cases h : s.data.toList with
  | nil => rfl
  | cons a t =>
    by_cases h5 : a = 45
    · subst h5
      rw [acc_cons_minus]
      rfl
    · have hn : negL (a :: t) = false := by simp [negL, h5]
      unfold cutL
      rw [hn, acc_cons_other a t h5]
      simp

theorem head45 (s : ByteArray) (h : 0 < s.size) : ((s[0].toNat : Int) == 45) = negL s.data.toList := by
  obtain ⟨⟨l⟩⟩ := s
  cases l with
  | nil => simp [ByteArray.size] at h
  | cons a t =>
    show (((a.toNat : Nat) : Int) == 45) = (some a == some 45)
    rw [Bool.eq_iff_iff, beq_iff_eq, beq_iff_eq, i45]
    simp

theorem acc_size (s : ByteArray) (h : acc s.data.toList = true) : 0 < s.size := by
  rcases Nat.eq_zero_or_pos s.size with h0 | h0
  · have e : s.data.toList = [] := List.eq_nil_of_length_eq_zero (by simpa using h0)
    rw [e] at h
    exact absurd h (by decide)
  · exact h0

theorem res_no (s : ByteArray) (h : acc s.data.toList = false) : idOk s = false ∧ idN s = false ∧ idD s = ⟨#[]⟩ := by
  rw [acc_ok] at h
  refine ⟨h, ?_, ?_⟩
  · unfold idN; rw [h]; rfl
  · unfold idD; rw [if_neg (by simp [h])]

theorem res_neg (s : ByteArray) (h : acc s.data.toList = true) (hn : negL s.data.toList = true) : idOk s = true ∧ idN s = true ∧ idD s = s.extract 1 s.size := by
  rw [acc_ok] at h
  refine ⟨h, ?_, ?_⟩
  · unfold idN; rw [h, hn]; rfl
  · unfold idD cutB; rw [if_pos h, if_pos hn]

theorem res_pos (s : ByteArray) (h : acc s.data.toList = true) (hn : negL s.data.toList = false) : idOk s = true ∧ idN s = false ∧ idD s = s := by
  rw [acc_ok] at h
  refine ⟨h, ?_, ?_⟩
  · unfold idN; rw [h, hn]; rfl
  · unfold idD cutB; rw [if_pos h, if_neg (by simp [hn])]

/-- The digits written out one by one are the digits of the range. -/
theorem inB_digits (c : Int) : inB [48, 49, 50, 51, 52, 53, 54, 55, 56, 57] c = digB c := by
  rw [Bool.eq_iff_iff]
  simp only [inB, digB, List.any_cons, List.any_nil, Bool.or_false, Bool.or_eq_true, beq_iff_eq, decide_eq_true_eq]
  have e : ((48 : UInt8).toNat : Int) = 48 ∧ ((49 : UInt8).toNat : Int) = 49 ∧ ((50 : UInt8).toNat : Int) = 50 ∧ ((51 : UInt8).toNat : Int) = 51 ∧ ((52 : UInt8).toNat : Int) = 52 ∧
    ((53 : UInt8).toNat : Int) = 53 ∧ ((54 : UInt8).toNat : Int) = 54 ∧ ((55 : UInt8).toNat : Int) = 55 ∧ ((56 : UInt8).toNat : Int) = 56 ∧ ((57 : UInt8).toNat : Int) = 57 := by decide
  omega

end Go.Proofs.Qxb6602386a.Plain
