/-
  The words for the seat b6602402a: a slice header as plain data, a row of headers in memory, frames.
-/
import Derived.Test.Qxb6602402aRows
import Derived.WalkKit
import Derived.WalkSpells
import Derived.WalkLawsBesides
import Derived.Below
namespace Go.Proofs.Qxb6602402a
open Go.RowKit

/-- A slice's header. -/
structure Hd where
  a : Option Addr
  n : Nat
  c : Nat

def Hd.val (h : Hd) : Value := .slice h.a h.n h.c
def nilHd : Hd := ⟨none, 0, 0⟩

/-- Behind the address a lie, one a cell, the headers es. -/
def Row (w : World) (a : Option Addr) (es : List Hd) : Prop :=
  ∀ k, k < es.length → ∃ b off, a = some ⟨b, off, none⟩ ∧ w.cell? ⟨b, off + k, none⟩ = some (es.getD k nilHd).val

/-- The bytes of the slices es. -/
def sumL (es : List Hd) : Nat := (es.map Hd.n).sum

theorem sumL_nil : sumL [] = 0 := rfl
theorem sumL_cons (h : Hd) (t : List Hd) : sumL (h :: t) = h.n + sumL t := by simp [sumL]
theorem sumL_append (l t : List Hd) : sumL (l ++ t) = sumL l + sumL t := by simp [sumL]

theorem take_snoc (es : List Hd) (k : Nat) (h : k < es.length) : es.take (k + 1) = es.take k ++ [es.getD k nilHd] := by
  rw [List.take_succ_eq_append_getElem h, List.getD, List.getElem?_eq_getElem h]; rfl

theorem sumL_take_succ (es : List Hd) (k : Nat) (h : k < es.length) : sumL (es.take (k + 1)) = sumL (es.take k) + (es.getD k nilHd).n := by
  rw [take_snoc es k h, sumL_append, sumL_cons, sumL_nil]; omega

theorem getD_mem (es : List Hd) (k : Nat) (h : k < es.length) : es.getD k nilHd ∈ es := by
  rw [List.getD, List.getElem?_eq_getElem h]; exact List.getElem_mem h

/-- A []byte that reads in w. -/
def ElOK (w : World) (h : Hd) : Prop :=
  h.n ≤ maxLen ∧ ∀ j, j < h.n → ∃ (b off : Nat) (z : Int), h.a = some ⟨b, off, none⟩ ∧ w.cell? ⟨b, off + j, none⟩ = some (.int .u8 z)

def Els (w : World) (es : List Hd) : Prop := ∀ h, h ∈ es → ElOK w h

/-- What the walk asks at index k. -/
theorem Row.at {w : World} {a : Option Addr} {es : List Hd} (hr : Row w a es) {k : Nat} (h : k < es.length) :
    ∃ b off A L C, a = some ⟨b, off, none⟩ ∧ w.cell? ⟨b, off + k, none⟩ = some (.slice A L C) ∧ es.getD k nilHd = ⟨A, L, C⟩ := by
  obtain ⟨b, off, h1, h2⟩ := hr k h
  exact ⟨b, off, _, _, _, h1, h2, rfl⟩

theorem ret_bool {a b : Bool} (h : a = b) : Ending.returned (.bool a) = .returned (.bool b) := by rw [h]
theorem ret_int {k : IntKind} {a b : Int} (h : a = b) : Ending.returned (.int k a) = .returned (.int k b) := by rw [h]

theorem wrapN (x : Int) (h0 : 0 ≤ x) (h1 : x ≤ 4000000) : IntKind.i64.wrap x = x := by
  rw [IntKind.wrap_i64]
  omega

/-- It came back with some bool. -/
def IsBool (e : Ending) : Prop := ∃ r : Bool, e = .returned (.bool r)
theorem isBool (r : Bool) : IsBool (.returned (.bool r)) := ⟨r, rfl⟩

/-- It came back with false; or with true, and x is no more than 1<<20. -/
def FitsR (x : Nat) (e : Ending) : Prop := e = .returned (.bool false) ∨ (e = .returned (.bool true) ∧ x ≤ 1048576)
theorem fitsNo (x : Nat) : FitsR x (.returned (.bool false)) := .inl rfl
theorem fitsYes {x : Nat} (h : x ≤ 1048576) : FitsR x (.returned (.bool true)) := .inr ⟨rfl, h⟩

end Go.Proofs.Qxb6602402a
