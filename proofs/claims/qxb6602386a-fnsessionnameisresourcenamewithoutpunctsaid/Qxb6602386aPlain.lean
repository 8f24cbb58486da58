/-
  Plain functions and plain laws for the seat b6602386a: no Go in sight.
-/
namespace Go.Proofs.Qxb6602386a.Plain

/-- Is the byte c (as a number) among l's? -/
def inB (l : List UInt8) (c : Int) : Bool := l.any fun b => (b.toNat : Int) == c

def digB (c : Int) : Bool := decide (48 ≤ c ∧ c ≤ 57)

def letB (c : Int) : Bool := decide ((97 ≤ c ∧ c ≤ 122) ∨ (65 ≤ c ∧ c ≤ 90))

def allD (l : List UInt8) : Bool := l.all fun b => digB b.toNat

def negL (l : List UInt8) : Bool := l.head? == some 45

/-- The text without its sign. -/
def cutB (s : ByteArray) : ByteArray := if negL s.data.toList = true then s.extract 1 s.size else s

/-- Are d the digits of a number as intDigits asks, n: behind a sign? -/
def okL (d : List UInt8) (n : Bool) : Bool := !d.isEmpty && !(d.head? == some 48 && (decide (1 < d.length) || n)) && allD d

def idOk (s : ByteArray) : Bool := okL (cutB s).data.toList (negL s.data.toList)
def idD (s : ByteArray) : ByteArray := if idOk s = true then cutB s else ⟨#[]⟩
def idN (s : ByteArray) : Bool := idOk s && negL s.data.toList

theorem inB_snoc (l : List UInt8) (b : UInt8) (c : Int) : inB (l ++ [b]) c = (inB l c || ((b.toNat : Int) == c)) := by
  simp [inB]

theorem take_snoc (s : ByteArray) (k : Nat) (h : k < s.size) : s.data.toList.take (k + 1) = s.data.toList.take k ++ [s[k]] := by
  rw [List.take_succ_eq_append_getElem (by simpa using h)]; rfl

end Go.Proofs.Qxb6602386a.Plain
