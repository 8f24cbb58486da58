import Derived.Test.Qxb6602402aBase
import Derived.ProofKit
import Derived.Deep.Matrix
namespace Go.Proofs.Qxb6602402a
open Go.RowKit Go.Deep

theorem spot_none {w : World} {a : Addr} {v : Value} (h : w.cell? a = some v) : a = ⟨a.block, a.off, none⟩ := by
  obtain ⟨b, off, sp⟩ := a
  cases sp with
  | none => rfl
  | some x =>
    unfold World.cell? at h
    split at h
    · simp at h
    · simp at h

theorem add_none (b off k : Nat) : (⟨b, off, none⟩ : Addr).add k = ⟨b, off + k, none⟩ := by
  unfold Addr.add; split <;> simp_all

theorem cell_add {w : World} {a : Addr} {v0 v : Value} {k : Nat} (h0 : w.cell? (a.add 0) = some v0) (h : w.cell? (a.add k) = some v) :
    a = ⟨a.block, a.off, none⟩ ∧ w.cell? ⟨a.block, a.off + k, none⟩ = some v := by
  have e0 : a.add 0 = a := by simp [Addr.add]
  rw [e0] at h0
  have ha := spot_none h0
  refine ⟨ha, ?_⟩
  rw [ha, add_none] at h
  exact h

theorem getD_range (f : Nat → Hd) (n k : Nat) (h : k < n) : ((List.range n).map f).getD k nilHd = f k := by
  simp [List.getD, h]

/-- What the walk is told of a [][]byte that came in. -/
theorem rows_of {H : Type} {enc : TypeId × Value → H} {W : World} {a : Option Addr} {len cap : Nat} {d : DataW H} {p : List MemPlace}
    (h : DataW.Trod enc Try.prog W 0 (fun _ => true) true 23 (.slice a len cap) d p) : ∃ es : List Hd, es.length = len ∧ len ≤ maxLen ∧ Row W a es ∧ Els W es := by
  obtain ⟨fuel, hf⟩ := h
  rcases open_int_rows Try.underlying23 Try.underlying30 Try.underlying5 (by kernel_rfl) (by kernel_rfl) hf with ⟨hcs, _⟩ | ⟨x, l, c, A, L, C, Z, hcs, _, hl, hm, _, hcell⟩
  · simp [Value.cells] at hcs
    obtain ⟨rfl, rfl, rfl⟩ := hcs
    exact ⟨[], rfl, Nat.zero_le _, fun k hk => by simp at hk, fun h hm => by simp at hm⟩
  · simp [Value.cells] at hcs
    obtain ⟨rfl, rfl, rfl⟩ := hcs
    refine ⟨(List.range len).map fun r => ⟨A r, L r, C r⟩, by simp, Nat.le_trans hl hm, ?_, ?_⟩
    · intro k hk
      have hk' : k < len := by simpa using hk
      have h0 := (hcell 0 (by omega)).1
      have h1 := (hcell k (by omega)).1
      obtain ⟨ha, hc⟩ := cell_add h0 h1
      rw [getD_range _ _ _ hk']
      exact ⟨x.block, x.off, by rw [← ha], hc⟩
    · intro hd hmem
      obtain ⟨r, hr, rfl⟩ := List.mem_map.1 hmem
      have hr' : r < len := List.mem_range.1 hr
      obtain ⟨_, h1, h2, _, _, h5, h6⟩ := hcell r (by omega)
      refine ⟨Nat.le_trans h1 h2, fun j hj => ?_⟩
      have hj' : j < L r := hj
      cases hA : A r with
      | none => have := h5 hA; omega
      | some a' =>
        obtain ⟨_, h7⟩ := h6 a' hA
        obtain ⟨ha, hc⟩ := cell_add (h7 0 (by omega)) (h7 j (by omega))
        exact ⟨a'.block, a'.off, _, by rw [← ha], hc⟩

theorem wrap_of_wf {s : Int} (h : -9223372036854775808 ≤ s ∧ s ≤ 9223372036854775807) : s = wrap64 s := by
  unfold wrap64; omega
end Go.Proofs.Qxb6602402a
