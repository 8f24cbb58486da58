import Derived.Test.Qxb6602402aBase
import Derived.Deep.OwnRows
namespace Go.Proofs.Qxb6602402a
open Go.RowKit
set_option linter.unusedVariables false

theorem info30 : (Try.prog.info? 30).map (fun i => (i.zero, i.size, i.bytes)) = some (some (.slice none 0 0), 1, 24) := by kernel_rfl

/-- A row that the call itself has made: nil; or a block of its own, one header a cell, and no spare. -/
def Owned (w : World) (a : Option Addr) (es : List Hd) : Prop :=
  (a = none ∧ es = []) ∨ ∃ g, a = some ⟨g, 0, none⟩ ∧ w.rowIs g 30 es.length (fun k => (es.getD k nilHd).val)

theorem Owned.row {w : World} {a : Option Addr} {es : List Hd} (h : Owned w a es) : Row w a es := by
  rcases h with ⟨rfl, rfl⟩ | ⟨g, rfl, h⟩
  · intro k hk; simp at hk
  · intro k hk
    exact ⟨g, 0, rfl, by simpa using h.cell hk⟩

theorem Row.below {W w : World} {a : Option Addr} {es : List Hd} (h : Row W a es) (hb : Below W.heap.size W w) : Row w a es := by
  intro k hk
  obtain ⟨b, off, h1, h2⟩ := h k hk
  exact ⟨b, off, h1, (hb.cell (World.block_lt_of_cell? _ _ h2)).trans h2⟩

theorem ElOK.below {W w : World} {h : Hd} (ho : ElOK W h) (hb : Below W.heap.size W w) : ElOK w h := by
  refine ⟨ho.1, fun j hj => ?_⟩
  obtain ⟨b, off, z, h1, h2⟩ := ho.2 j hj
  exact ⟨b, off, z, h1, (hb.cell (World.block_lt_of_cell? _ _ h2)).trans h2⟩

theorem Els.below {W w : World} {es : List Hd} (ho : Els W es) (hb : Below W.heap.size W w) : Els w es := fun h hm => (ho h hm).below hb

theorem Owned.below {w w' : World} {a : Option Addr} {es : List Hd} (h : Owned w a es) (hb : Below w.heap.size w w') : Owned w' a es := by
  rcases h with h | ⟨g, rfl, h⟩
  · exact .inl h
  · exact .inr ⟨g, rfl, h.of_block (hb.block g h.lt)⟩

theorem Owned.grown {w w' : World} {a : Option Addr} {es : List Hd} {row : Option Nat} (h : Owned w a es) (hg : w.grownBy w' row) (hne : ∀ x, a = some x → some x.block ≠ row) : Owned w' a es := by
  rcases h with h | ⟨g, rfl, h⟩
  · exact .inl h
  · exact .inr ⟨g, rfl, h.of_block (hg.block g h.lt (hne _ rfl))⟩

theorem Owned.lt {w : World} {a : Option Addr} {es : List Hd} (h : Owned w a es) : ∀ x, a = some x → x.block < w.heap.size := by
  rintro x rfl
  rcases h with ⟨h, _⟩ | ⟨g, h1, h2⟩
  · cases h
  · injection h1 with h1; rw [h1]; exact h2.lt

/-- How cloneOuterB1 comes back. -/
def CloneR (w : World) (a : Option Addr) (es : List Hd) (e : Ending) (w' : World) : Prop :=
  ∃ a', e = .returned (.slice a' es.length es.length) ∧ a'.isNone = a.isNone ∧ (∀ x, a' = some x → x.block = w.heap.size) ∧ Owned w' a' es ∧ Below w.heap.size w w'

set_option maxHeartbeats 400000 in
theorem clone_some (A : Addr) (c : Nat) (es : List Hd) (w : World) (hn : es.length ≤ 1048576) (hr : Row w (some A) es) :
    Calls Try.prog 11 #[.slice (some A) es.length c] w fun e w' => e = .returned (.slice (some ⟨w.heap.size, 0, none⟩) es.length es.length) ∧ w'.rowIs w.heap.size 30 es.length (fun k => (es.getD k nilHd).val) ∧ Below w.heap.size w w' := by
  have HR : Hid (Row w (some A) es) := hr
  clear hr
  have hnil : ∀ (w : World) (a : Option Addr) (n c n' c' : Nat), (binOp .eql 23 (.slice a n c) (.slice none n' c')).run Try.prog w = .ok (.bool a.isNone) w := fun w a n c n' c' => Lib.run_eql_slice_nil w _ _ a n c n' c' Try.underlying23
  have hmk := run_make_row' (P := Try.prog) 23 30 (.slice none 0 0) 24 Try.underlying23 info30 rfl .i64 .i64 es.length (by omega) (by omega)
  go_enter Try.func11, Try.ntmps11
  go_wp2
  go_loopw [4] (fun i wr => ∃ (k : Nat), k ≤ es.length ∧ i = .int .i64 k ∧ Hid (wr.rowIs w.heap.size 30 es.length (fun j => if j < k then (es.getD j nilHd).val else .slice none 0 0)) ∧ Hid (Below w.heap.size w wr)) (fun i _ => es.length - (intOf i).toNat)
  case atStart => exact ⟨0, Nat.zero_le _, rfl, (World.rowIs_made w (.slice none 0 0) es.length 30).congr (fun i hi => by simp), (Below.refl _ _).alloc (Nat.le_refl _) _⟩
  case round =>
    obtain ⟨k, hk, rfl, HK, HB⟩ := hrel
    by_cases hlt : k < es.length
    · obtain ⟨b, off, A', L, C, hA, hc, he⟩ := HR.out.at hlt
      injection hA with hA
      subst hA
      have hc' : wr.cell? ⟨b, off + k, none⟩ = some (.slice A' L C) := (HB.out.cell (World.block_lt_of_cell? _ _ hc)).trans hc
      have h1 := HK.out.cell hlt
      have h2 := HK.out.frozen k
      have HE : Hid (es.getD k nilHd = ⟨A', L, C⟩) := he
      clear he hc
      simp only [Nat.lt_irrefl, if_false] at h1
      go_wp2
      go_roundw
      case rel =>
        refine ⟨k + 1, by omega, by go_num, ?_, HB.out.setCell (Nat.le_refl _) _⟩
        refine (HK.out.set k (.slice A' L C)).congr (fun i hi => ?_)
        by_cases e : i = k
        · subst e
          simp only [if_true, Nat.lt_succ_self]
          rw [HE.out]; rfl
        · have e2 : (i < k + 1) = (i < k) := by apply propext; omega
          simp only [e, e2, if_false]
      case measure => simp [intOf]; omega
    · have HK2 : Hid (wr.rowIs w.heap.size 30 es.length (fun k => (es.getD k nilHd).val)) := HK.out.congr (fun i hi => by rw [if_pos (by omega)])
      go_wp2
      go_ret
      exact ⟨rfl, HK2.out, HB.out⟩

theorem clone_any (a : Option Addr) (c : Nat) (es : List Hd) (w : World) (hn : es.length ≤ 1048576) (hr : Row w a es) :
    Calls Try.prog 11 #[.slice a es.length c] w (CloneR w a es) := by
  cases a with
  | some A =>
    refine (clone_some A c es w hn hr).mono ?_
    rintro e w' ⟨rfl, h1, h2⟩
    exact ⟨_, rfl, rfl, (by rintro x hx; injection hx with hx; rw [← hx]), .inr ⟨_, rfl, h1⟩, h2⟩
  | none =>
    have he : es = [] := by
      cases es with
      | nil => rfl
      | cons h t => obtain ⟨b, off, h1, _⟩ := hr 0 (by simp); cases h1
    subst he
    have hnil : ∀ (w : World) (a : Option Addr) (n c n' c' : Nat), (binOp .eql 23 (.slice a n c) (.slice none n' c')).run Try.prog w = .ok (.bool a.isNone) w := fun w a n c n' c' => Lib.run_eql_slice_nil w _ _ a n c n' c' Try.underlying23
    have H : Calls Try.prog 11 #[.slice none 0 c] w fun e w' => e = .returned (.slice none 0 0) ∧ w' = w := by
      go_enter Try.func11, Try.ntmps11
      go_wp2
      go_ret
      exact ⟨rfl, rfl⟩
    refine Calls.mono H ?_
    rintro e w' ⟨rfl, rfl⟩
    exact ⟨none, rfl, rfl, (by rintro x hx; cases hx), .inl ⟨rfl, rfl⟩, Below.refl _ _⟩
end Go.Proofs.Qxb6602402a
