import Derived.Test.Qxb6602402aClone
import Derived.Deep.LoopGhost
import Derived.Deep.QuietTactic
import Derived.BigQuiet
import Derived.RegionTactic
namespace Go.Proofs.Qxb6602402a
open Go.RowKit
set_option linter.unusedVariables false

/-- All blocks but g and B are as they were. -/
structure Off2 (g B : Nat) (w w' : World) : Prop where
  os : w'.os = w.os
  tape : w'.tape = w.tape
  output : w'.output = w.output
  size : w'.heap.size = w.heap.size
  block : ∀ k, k ≠ g → k ≠ B → w'.heap[k]? = w.heap[k]?

theorem Off2.refl (g B : Nat) (w : World) : Off2 g B w w := ⟨rfl, rfl, rfl, rfl, fun _ _ _ => rfl⟩
theorem Off2.drew {g B : Nat} {w w' : World} (h : Off2 g B w w') : Off2 g B w w'.drew := ⟨h.os, h.tape, h.output, h.size, h.block⟩
theorem Off2.setCell {g B : Nat} {w w' : World} (h : Off2 g B w w') {a : Addr} (ha : a.block = g ∨ a.block = B) (v : Value) : Off2 g B w (w'.setCell a v) :=
  ⟨h.os, h.tape, h.output, by rw [← h.size]; simp [World.setCell], fun k h1 h2 => by
    rw [Below.heap_setCell _ _ _ _ (by rcases ha with ha | ha <;> rw [ha] <;> assumption)]
    exact h.block k h1 h2⟩

/-- The struct 'recent' in its block. -/
def recF (x : Int) (v : Value) (z : Int) : Nat → Value := fun i => if i = 0 then .int .u64 x else if i = 1 then v else .int .i64 z

/-- What the loop of drop holds when d entries are gone. -/
structure Gone (B g f u : Nat) (s : Int) (es : List Hd) (w : World) (d : Nat) (wr : World) : Prop where
  le : d ≤ es.length
  old : ∀ j, j < d → f + j ≤ u
  ptr : ∃ (o : Nat) (z : Int), (d < es.length → o = d) ∧ z = wrap64 (s - sumL (es.take d)) ∧ wr.rowIs B 43 3 (recF ((f + d : Nat) : Int) (.slice (some ⟨g, o, none⟩) (es.length - d) (es.length - d)) z)
  row : wr.rowIs g 30 es.length (fun k => if k < d then .slice none 0 0 else (es.getD k nilHd).val)
  off : Off2 g B w wr

theorem wrap_wrap (s S L : Int) : wrap64 (wrap64 (s - S) - L) = wrap64 (s - (S + L)) := by
  unfold wrap64; omega

theorem Gone.step {B g f u : Nat} {s : Int} {es : List Hd} {w wr : World} {d : Nat} (hG : Gone B g f u s es w d wr) (hBg : B ≠ g) (hd : d < es.length) (hle : f + d ≤ u) {z : Int} {L o o' : Nat}
    (hz : z = wrap64 (s - sumL (es.take d))) (hB : wr.rowIs B 43 3 (recF ((f + d : Nat) : Int) (.slice (some ⟨g, o, none⟩) (es.length - d) (es.length - d)) z)) (hL : (es.getD d nilHd).n = L)
    (ho' : d + 1 < es.length → o' = d + 1) {v' : Value} {x' : Int} (hv : v' = .slice (some ⟨g, o', none⟩) (es.length - (d + 1)) (es.length - (d + 1))) (hx : x' = ((f + (d + 1) : Nat) : Int)) :
    Gone B g f u s es w (d + 1) ((((wr.setCell ⟨B, 2, none⟩ (.int .i64 (wrap64 (z - (L : Int))))).setCell ⟨g, d, none⟩ (.slice none 0 0)).setCell ⟨B, 1, none⟩ v').setCell ⟨B, 0, none⟩ (.int .u64 x')).drew := by
  subst hv; subst hx
  refine ⟨by omega, fun j hj => ?_, ⟨o', wrap64 (z - (L : Int)), ho', ?_, ?_⟩, ?_, ?_⟩
  · by_cases e : j = d
    · rw [e]; exact hle
    · exact hG.old j (by omega)
  · rw [hz, wrap_wrap, sumL_take_succ es d hd, hL, Int.natCast_add]
  · refine ((((hB.set 2 _).setOther (a := ⟨g, d, none⟩) hBg _).set 1 _).set 0 _).drew.congr (fun i hi => ?_)
    unfold recF
    have : i = 0 ∨ i = 1 ∨ i = 2 := by omega
    rcases this with rfl | rfl | rfl <;> simp
  · refine (((((hG.row.setOther (a := ⟨B, 2, none⟩) (fun h => hBg h.symm) _).set d (.slice none 0 0)).setOther (a := ⟨B, 1, none⟩) (fun h => hBg h.symm) _).setOther (a := ⟨B, 0, none⟩) (fun h => hBg h.symm) _).drew).congr (fun i hi => ?_)
    by_cases e : i = d
    · subst e; simp
    · have e2 : (i < d + 1) = (i < d) := by apply propext; omega
      simp only [e, e2, if_false]
  · exact ((((hG.off.setCell (a := ⟨B, 2, none⟩) (.inr rfl) _).setCell (a := ⟨g, d, none⟩) (.inl rfl) _).setCell (a := ⟨B, 1, none⟩) (.inr rfl) _).setCell (a := ⟨B, 0, none⟩) (.inr rfl) _).drew

set_option maxHeartbeats 1000000 in
theorem drop_own (B g f u : Nat) (s : Int) (es : List Hd) (w : World) (hBg : B ≠ g) (hn : es.length ≤ 1048576) (hf : f + es.length ≤ 18446744073709551615)
    (hel : sumL es ≤ 1048576) (hs : s = wrap64 s)
    (hB : w.rowIs B 43 3 (recF f (.slice (some ⟨g, 0, none⟩) es.length es.length) s)) (hg : w.rowIs g 30 es.length (fun k => (es.getD k nilHd).val)) :
    Calls Try.prog 25 #[.pointer (some ⟨B, 0, none⟩), .int .u64 u] w fun e w' => e = .returned (.tuple #[]) ∧ ∃ d, Gone B g f u s es w d w' ∧ (d < es.length → u < f + d) := by
  have hgB : g ≠ B := fun h => hBg h.symm
  have H0 : Hid (Gone B g f u s es w 0 w) := by
    refine ⟨Nat.zero_le _, fun j hj => by omega, ⟨0, s, fun _ => rfl, by simpa [sumL] using hs, by simpa using hB⟩, hg.congr (fun i hi => by simp), Off2.refl _ _ _⟩
  clear hB hg hs
  go_enter Try.func25, Try.ntmps25
  go_wp2
  go_loopg [] es.length (fun m wr => ∃ (d : Nat), d + m = es.length ∧ Hid (Gone B g f u s es w d wr))
  case atStart => exact ⟨0, by omega, H0⟩
  case round =>
    obtain ⟨d, hdm, HG⟩ := hrel
    obtain ⟨o, z, ho, hz, hB⟩ := HG.out.ptr
    have c0 : wr.cell? ⟨B, 0, none⟩ = some (.int .u64 ((f + d : Nat) : Int)) := hB.cell (by omega)
    have c1 : wr.cell? ⟨B, 1, none⟩ = some (.slice (some ⟨g, o, none⟩) (es.length - d) (es.length - d)) := hB.cell (by omega)
    have c2 : wr.cell? ⟨B, 2, none⟩ = some (.int .i64 z) := hB.cell (by omega)
    have m0 := hB.frozen 0
    have m1 := hB.frozen 1
    have m2 := hB.frozen 2
    have HB : Hid (wr.rowIs B 43 3 (recF ((f + d : Nat) : Int) (.slice (some ⟨g, o, none⟩) (es.length - d) (es.length - d)) z)) := hB
    have HZ : Hid (z = wrap64 (s - sumL (es.take d))) := hz
    clear hB hz H0
    obtain rfl : gk = es.length - d := by omega
    by_cases hd : d < es.length
    · have hod := ho hd
      subst hod
      clear ho
      by_cases hle : f + o ≤ u
      · have hrow := HG.out.row
        have cg := hrow.cell hd
        have mg := hrow.frozen o
        simp only [Nat.lt_irrefl, if_false] at cg
        obtain ⟨A, L, C, he⟩ : ∃ A L C, es.getD o nilHd = ⟨A, L, C⟩ := ⟨_, _, _, rfl⟩
        rw [he] at cg
        have HE : Hid (es.getD o nilHd = ⟨A, L, C⟩) := he
        clear he hrow
        have cg' : wr.cell? ⟨g, o, none⟩ = some (.slice A L C) := cg
        clear cg
        go_wp2
        go_region
        go_wp2
        · go_roundg (es.length - (o + 1))
          case measure => omega
          case rel => exact ⟨o + 1, by omega, Gone.step (o' := o) HG.out hBg hd hle HZ.out HB.out (by rw [HE.out]) (fun h => by omega) (by rw [show es.length - (o + 1) = 0 by omega]) (by omega)⟩
        · go_roundg (es.length - (o + 1))
          case measure => omega
          case rel => exact ⟨o + 1, by omega, Gone.step (o' := o + 1) HG.out hBg hd hle HZ.out HB.out (by rw [HE.out]) (fun h => rfl) (by rw [show es.length - (o + 1) = es.length - o - 1 by omega]) (by omega)⟩
      · have HR : Hid (∃ d, Gone B g f u s es w d wr ∧ (d < es.length → u < f + d)) := ⟨o, HG.out, fun _ => by omega⟩
        go_wp2
        go_end0
        exact ⟨rfl, HR.out⟩
    · have HR : Hid (∃ d, Gone B g f u s es w d wr ∧ (d < es.length → u < f + d)) := ⟨d, HG.out, fun h => absurd h hd⟩
      have e0 : es.length - d = 0 := by omega
      go_wp2
      go_end0
      exact ⟨rfl, HR.out⟩

set_option maxHeartbeats 400000 in
theorem drop_nil (B f u : Nat) (s : Int) (w : World) (hB : w.rowIs B 43 3 (recF f (.slice none 0 0) s)) :
    Calls Try.prog 25 #[.pointer (some ⟨B, 0, none⟩), .int .u64 u] w fun e w' => e = .returned (.tuple #[]) ∧ w' = w := by
  have c1 : w.cell? ⟨B, 1, none⟩ = some (.slice none 0 0) := hB.cell (by omega)
  clear hB
  go_enter Try.func25, Try.ntmps25
  go_wp2
  refine wp_loop_rounds 1 ?_
  rw [rounds_succ]
  go_wp2
  go_end0
  exact ⟨rfl, rfl⟩

/-- How ZZRecentDropB1 comes back: d entries are gone. -/
def DropR (f u : Nat) (s : Int) (a : Option Addr) (es : List Hd) (w : World) (e : Ending) (w' : World) : Prop :=
  ∃ (d : Nat) (a' : Option Addr) (z : Int), e = .returned (.tuple #[.int .u64 ((f + d : Nat) : Int), .slice a' (es.length - d) (es.length - d), .int .i64 z]) ∧
    d ≤ es.length ∧ (∀ j, j < d → f + j ≤ u) ∧ (d < es.length → u < f + d) ∧ a'.isNone = a.isNone ∧ z = wrap64 (s - sumL (es.take d)) ∧ Row w' a' (es.drop d) ∧ w.grownBy w' (a.map Addr.block)

theorem rec_new (w : World) (x : Int) (v : Value) (z : Int) : (w.alloc (.cells #[.int .u64 x, v, .int .i64 z] 43)).rowIs w.heap.size 43 3 (recF x v z) :=
  World.rowIs_alloc w _ 43 (recF x v z) (fun i hi => by
    have : i = 0 ∨ i = 1 ∨ i = 2 := by simp at hi; omega
    rcases this with rfl | rfl | rfl <;> rfl)

theorem getD_drop (es : List Hd) (d k : Nat) : (es.drop d).getD k nilHd = es.getD (d + k) nilHd := by
  simp [List.getD]

set_option maxHeartbeats 400000 in
theorem zzDrop_own (g f u : Nat) (s : Int) (es : List Hd) (w : World) (hn : es.length ≤ 1048576) (hf : f + es.length ≤ 18446744073709551615)
    (hel : sumL es ≤ 1048576) (hs : s = wrap64 s) (hg : w.rowIs g 30 es.length (fun k => (es.getD k nilHd).val)) :
    Calls Try.prog 16 #[.int .u64 f, .slice (some ⟨g, 0, none⟩) es.length es.length, .int .i64 s, .int .u64 u] w (DropR f u s (some ⟨g, 0, none⟩) es w) := by
  have hlt := hg.lt
  have H := drop_own w.heap.size g f u s es (w.alloc (.cells #[.int .u64 f, .slice (some ⟨g, 0, none⟩) es.length es.length, .int .i64 s] 43)) (by omega) hn hf hel hs (rec_new _ _ _ _) (hg.alloc _)
  have HC : Hid (Calls Try.prog 25 #[.pointer (some ⟨w.heap.size, 0, none⟩), .int .u64 u] (w.alloc (.cells #[.int .u64 f, .slice (some ⟨g, 0, none⟩) es.length es.length, .int .i64 s] 43)) fun e w' => e = .returned (.tuple #[]) ∧
      ∃ d, Gone w.heap.size g f u s es (w.alloc (.cells #[.int .u64 f, .slice (some ⟨g, 0, none⟩) es.length es.length, .int .i64 s] 43)) d w' ∧ (d < es.length → u < f + d)) := H
  clear H hs hg
  go_enter Try.func16, Try.ntmps16
  go_wp2_with fail
  refine HC.out.mono ?_
  rintro e w1 ⟨rfl, d, hG, hd⟩
  clear HC
  obtain ⟨o, z, ho, hz, hB⟩ := hG.ptr
  have c0 : w1.cell? ⟨w.heap.size, 0, none⟩ = some (.int .u64 ((f + d : Nat) : Int)) := hB.cell (by omega)
  have c1 : w1.cell? ⟨w.heap.size, 1, none⟩ = some (.slice (some ⟨g, o, none⟩) (es.length - d) (es.length - d)) := hB.cell (by omega)
  have c2 : w1.cell? ⟨w.heap.size, 2, none⟩ = some (.int .i64 z) := hB.cell (by omega)
  have HF : Hid (∀ n, DropR f u s (some ⟨g, 0, none⟩) es w (.returned (.tuple #[.int .u64 ((f + d : Nat) : Int), .slice (some ⟨g, o, none⟩) (es.length - d) (es.length - d), .int .i64 z])) (w1.drewN n)) := by
    intro n
    refine ⟨d, _, z, rfl, hG.le, hG.old, hd, rfl, hz, ?_, ?_⟩
    · intro k hk
      have hk' : k < es.length - d := by simpa using hk
      refine ⟨g, o, rfl, ?_⟩
      rw [ho (by omega), getD_drop]
      have := hG.row.cell (i := d + k) (by omega)
      rw [if_neg (by omega)] at this
      simpa using this
    · refine ⟨?_, ?_, ?_, ?_, ?_⟩
      · exact hG.off.os
      · simpa using hG.off.tape
      · exact hG.off.output
      · have := hG.off.size
        simp at this ⊢
        omega
      · intro k hk hne
        have h1 := hG.off.block k (fun e => hne (by simp [e])) (by omega)
        rw [Below.heap_alloc _ _ _ hk] at h1
        simpa using h1
  clear hG hB ho hz hd
  go_wp2
  go_quiet (fail)
  go_wp2
  go_ret3
  exact HF.out nq

set_option maxHeartbeats 400000 in
theorem zzDrop_nil (f u : Nat) (s : Int) (w : World) (hs : s = wrap64 s) :
    Calls Try.prog 16 #[.int .u64 f, .slice none 0 0, .int .i64 s, .int .u64 u] w (DropR f u s none [] w) := by
  have H := drop_nil w.heap.size f u s (w.alloc (.cells #[.int .u64 f, .slice none 0 0, .int .i64 s] 43)) (rec_new _ _ _ _)
  have HC : Hid (Calls Try.prog 25 #[.pointer (some ⟨w.heap.size, 0, none⟩), .int .u64 u] (w.alloc (.cells #[.int .u64 f, .slice none 0 0, .int .i64 s] 43)) fun e w' => e = .returned (.tuple #[]) ∧ w' = w.alloc (.cells #[.int .u64 f, .slice none 0 0, .int .i64 s] 43)) := H
  clear H
  have HF : Hid (∀ n, DropR f u s none [] w (.returned (.tuple #[.int .u64 f, .slice none 0 0, .int .i64 s])) ((w.alloc (.cells #[.int .u64 f, .slice none 0 0, .int .i64 s] 43)).drewN n)) := by
    intro n
    refine ⟨0, none, s, rfl, Nat.le_refl _, fun j hj => by omega, fun h => by simp at h, rfl, by simpa [sumL] using hs, fun k hk => by simp at hk, ?_⟩
    refine ⟨rfl, rfl, rfl, by simp, fun k hk _ => ?_⟩
    have := Below.heap_alloc w (.cells #[.int .u64 f, .slice none 0 0, .int .i64 s] 43) k hk
    simpa using this
  clear hs
  go_enter Try.func16, Try.ntmps16
  go_wp2_with fail
  refine HC.out.mono ?_
  rintro e w1 ⟨rfl, rfl⟩
  clear HC
  go_wp2
  go_quiet (fail)
  go_wp2
  go_ret3
  exact HF.out nq

/-- ZZRecentDropB1 upon a row of the call's own. -/
theorem zzDrop (f u : Nat) (s : Int) (a : Option Addr) (es : List Hd) (w : World) (hn : es.length ≤ 1048576) (hf : f + es.length ≤ 18446744073709551615)
    (hel : sumL es ≤ 1048576) (hs : s = wrap64 s) (ho : Owned w a es) :
    Calls Try.prog 16 #[.int .u64 f, .slice a es.length es.length, .int .i64 s, .int .u64 u] w (DropR f u s a es w) := by
  rcases ho with ⟨rfl, rfl⟩ | ⟨g, rfl, h⟩
  · exact zzDrop_nil f u s w hs
  · exact zzDrop_own g f u s es w hn hf hel hs h
end Go.Proofs.Qxb6602402a
