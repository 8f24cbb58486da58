/-
  Plain laws for FnSessionNameIsResourceNameWithoutPunct. No Go in sight.
-/
import Derived.Test.Qxb6602386aPlain
namespace Go.Proofs.Qxb6602386a.Plain

/-- A letter or a digit. -/
def ldB (c : Int) : Bool := letB c || digB c
def pnB (c : Int) : Bool := c == 46 || c == 45 || c == 95
def rcB (c : Int) : Bool := ldB c || pnB c

def allLd (l : List UInt8) : Bool := l.all fun b => ldB b.toNat
def allRc (l : List UInt8) : Bool := l.all fun b => rcB b.toNat
def anyPn (l : List UInt8) : Bool := l.any fun b => pnB b.toNat

theorem allLd_snoc (l : List UInt8) (b : UInt8) : allLd (l ++ [b]) = (allLd l && ldB b.toNat) := by simp [allLd]
theorem allRc_snoc (l : List UInt8) (b : UInt8) : allRc (l ++ [b]) = (allRc l && rcB b.toNat) := by simp [allRc]
theorem anyPn_snoc (l : List UInt8) (b : UInt8) : anyPn (l ++ [b]) = (anyPn l || pnB b.toNat) := by simp [anyPn]

theorem allLd_no {s : ByteArray} {k : Nat} (h : allLd (s.data.toList.take k) = false) : allLd s.data.toList = false := by
  have e : s.data.toList = s.data.toList.take k ++ s.data.toList.drop k := by simp
  rw [e]; unfold allLd at *; rw [List.all_append, h]; rfl
theorem allRc_no {s : ByteArray} {k : Nat} (h : allRc (s.data.toList.take k) = false) : allRc s.data.toList = false := by
  have e : s.data.toList = s.data.toList.take k ++ s.data.toList.drop k := by simp
  rw [e]; unfold allRc at *; rw [List.all_append, h]; rfl
theorem anyPn_yes {s : ByteArray} {k : Nat} (h : anyPn (s.data.toList.take k) = true) : anyPn s.data.toList = true := by
  have e : s.data.toList = s.data.toList.take k ++ s.data.toList.drop k := by simp
  rw [e]; unfold anyPn at *; rw [List.any_append, h]; rfl

/-- No letter or digit is one of '.', '-', '_'. -/
theorem ld_pn (c : Int) (h : ldB c = true) : pnB c = false := by
  simp only [ldB, letB, digB, Bool.or_eq_true, decide_eq_true_eq] at h
  simp only [pnB, Bool.or_eq_false_iff, beq_eq_false_iff_ne]
  omega

theorem rc_split (l : List UInt8) : (allRc l && !anyPn l) = allLd l := by
  induction l with
  | nil => rfl
  | cons a t ih =>
    have e1 : allRc (a :: t) = (rcB a.toNat && allRc t) := rfl
    have e2 : anyPn (a :: t) = (pnB a.toNat || anyPn t) := rfl
    have e3 : allLd (a :: t) = (ldB a.toNat && allLd t) := rfl
    rw [e1, e2, e3, ← ih]
    unfold rcB
    cases hl : ldB a.toNat with
    | true => rw [ld_pn _ hl]; cases allRc t <;> cases anyPn t <;> rfl
    | false => cases pnB a.toNat <;> cases allRc t <;> cases anyPn t <;> rfl

/-- A session name: a letter first, letters and digits behind. -/
def sessB (s : ByteArray) : Bool := letB ((s.data.toList.headD 0).toNat) && allLd s.data.toList

theorem names_law (s : ByteArray) : sessB s = (allRc s.data.toList && !anyPn s.data.toList && letB ((s.data.toList.headD 0).toNat)) := by
  rw [rc_split]
  unfold sessB
  rw [Bool.and_comm]

theorem inB_punct (c : Int) : inB [46, 45, 95] c = pnB c := by
  rw [Bool.eq_iff_iff]
  simp only [inB, pnB, List.any_cons, List.any_nil, Bool.or_false, Bool.or_eq_true, beq_iff_eq]
  have e : ((46 : UInt8).toNat : Int) = 46 ∧ ((45 : UInt8).toNat : Int) = 45 ∧ ((95 : UInt8).toNat : Int) = 95 := by decide
  omega

def letters : List UInt8 := [65, 66, 67, 68, 69, 70, 71, 72, 73, 74, 75, 76, 77, 78, 79, 80, 81, 82, 83, 84, 85, 86, 87, 88, 89, 90,
  97, 98, 99, 100, 101, 102, 103, 104, 105, 106, 107, 108, 109, 110, 111, 112, 113, 114, 115, 116, 117, 118, 119, 120, 121, 122]

theorem letters_table : ∀ n : Fin 256, letters.any (fun b => b.toNat == n.val) = letB (n.val : Int) := by decide +kernel

theorem inB_letters (a : UInt8) : inB letters (a.toNat : Int) = letB (a.toNat : Int) := by
  have h := letters_table ⟨a.toNat, a.toNat_lt⟩
  rw [← h]
  unfold inB
  congr 1
  funext b
  rw [Bool.eq_iff_iff, beq_iff_eq, beq_iff_eq]
  show ((b.toNat : Int) = (a.toNat : Int)) ↔ b.toNat = a.toNat
  omega

theorem headD_data (s : ByteArray) (h : 0 < s.size) : s.data.toList.headD 0 = s[0] := by
  obtain ⟨⟨l⟩⟩ := s
  cases l with
  | nil => simp [ByteArray.size] at h
  | cons a t => rfl

end Go.Proofs.Qxb6602386a.Plain
