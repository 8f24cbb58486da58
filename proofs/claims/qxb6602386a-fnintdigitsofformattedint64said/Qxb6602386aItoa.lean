import Derived.Test.Qxb6602386aWalks
import Derived.Laws.BytesArg
namespace Go.Proofs.Qxb6602386a.Walks
open Go.RowKit Go.Proofs.Qxb6602386a.Plain

/-- The cells of 'buf' in the world: each holds a byte, is not frozen; those from k on hold digits. -/
structure Buf (B : Nat) (k : Nat) (wr : World) : Prop where
  cell : ∀ j, j < 20 → ∃ n : Int, wr.cell? ⟨B, j, none⟩ = some (.int .u8 n) ∧ (k ≤ j → 48 ≤ n ∧ n ≤ 57)
  mark : ∀ j, j < 20 → wr.frozen? ⟨B, j, none⟩ = false

theorem Buf.store {B k : Nat} {wr : World} (h : Buf B k wr) (h1 : 1 ≤ k) (h20 : k ≤ 20) (n : Int) (hn : 48 ≤ n ∧ n ≤ 57) :
    Buf B (k - 1) (wr.setCell ⟨B, k - 1, none⟩ (.int .u8 n)) := by
  obtain ⟨n0, hc0, -⟩ := h.cell (k - 1) (by omega)
  constructor
  · intro j hj
    by_cases e : j = k - 1
    · subst e
      exact ⟨n, World.cell?_setCell_same _ _ _ hc0, fun _ => hn⟩
    · obtain ⟨n', hc, hd⟩ := h.cell j hj
      refine ⟨n', ?_, fun hk => hd (by omega)⟩
      have hne : (⟨B, k - 1, none⟩ : Addr) ≠ ⟨B, j, none⟩ := by intro h; injection h; omega
      rw [World.cell?_setCell_other (h := hne)]
      exact hc
  · intro j hj
    rw [World.frozen?_setCell]
    exact h.mark j hj

theorem wrap_div (v : Nat) (h : v < 18446744073709551616) : IntKind.u64.wrap ((v : Int) / 10) = (v : Int) / 10 := by
  simp only [IntKind.wrap, IntKind.signed, IntKind.bits, Bool.false_and, Bool.false_eq_true, if_false]
  omega

theorem slice_buf (B k : Nat) (h1 : 1 ≤ k) (h20 : k ≤ 20) (w : World) :
    (Instr.sliceAt 30 (.pointer (some ⟨B, 0, none⟩)) (some (.int .i64 ((k : Int) - 1))) none none).run Try.prog w = .ok (.slice (some ⟨B, k - 1, none⟩) (21 - k) (21 - k)) w := by
  have hl : Try.prog.arrayLen 30 = 20 := by kernel_rfl
  have he : Try.prog.elem 30 = 5 := by kernel_rfl
  have hz : (Go.sizeOf 5).run Try.prog w = .ok 1 w := by kernel_rfl
  rw [run_sliceAt_array_l w 30 ⟨B, 0, none⟩ (by rw [hl, he]; exact Try.underlying30) .i64 _ (by omega) (by rw [hl]; omega), hl, he, hz]
  have e1 : ((k : Int) - 1).toNat = k - 1 := by omega
  have e2 : 20 - (k - 1) = 21 - k := by omega
  have e3 : ¬ (20 = k - 1) := by omega
  simp only [Result.andThen, slicedAt, e1, e2, if_neg e3, Nat.mul_one]
  have e4 : (⟨B, 0, none⟩ : Addr).add (k - 1) = ⟨B, k - 1, none⟩ := by unfold Addr.add; split <;> simp_all
  rw [e4]

/-- A list out of cells. -/
theorem list_of {p : Nat → Int → Prop} : ∀ n : Nat, (∀ j, j < n → ∃ x, p j x) → ∃ xs : List Int, xs.length = n ∧ ∀ j, j < n → p j (xs.getD j 0)
  | 0, _ => ⟨[], rfl, fun j hj => by omega⟩
  | n + 1, h => by
    obtain ⟨xs, hl, hx⟩ := list_of n fun j hj => h j (by omega)
    obtain ⟨x, hp⟩ := h n (by omega)
    refine ⟨xs ++ [x], by simp [hl], fun j hj => ?_⟩
    by_cases e : j = n
    · subst e
      have : (xs ++ [x]).getD j 0 = x := by simp [List.getD, ← hl]
      rw [this]; exact hp
    · have : (xs ++ [x]).getD j 0 = xs.getD j 0 := by simp [List.getD, List.getElem?_append_left (show j < xs.length by omega)]
      rw [this]; exact hx j (by omega)

/-- What the text of u looks like. -/
structure Text (u : Nat) (l : List UInt8) : Prop where
  some' : 1 ≤ l.length
  few : l.length ≤ 20
  digits : allD l = true
  lead : l.head? = some 48 → l.length = 1 ∧ u = 0

theorem text_of {B k v u : Nat} {wr : World} (h : Buf B k wr) (h1 : 1 ≤ k) (h20 : k ≤ 20) (hz : v = 0 → k = 20 ∧ u = 0) (hv : v < 10) :
    ∃ m : ByteArray, (convert 31 9 (.slice (some ⟨B, k - 1, none⟩) (21 - k) (21 - k))).run Try.prog (wr.setCell ⟨B, k - 1, none⟩ (.int .u8 (48 + (v : Int) % 10))) = .ok (.string m) (wr.setCell ⟨B, k - 1, none⟩ (.int .u8 (48 + (v : Int) % 10))) ∧ Text u m.data.toList := by
  have h' := h.store h1 h20 (48 + (v : Int) % 10) (by omega)
  obtain ⟨n0, hc0, -⟩ := h.cell (k - 1) (by omega)
  have hfirst : (wr.setCell ⟨B, k - 1, none⟩ (.int .u8 (48 + (v : Int) % 10))).cell? ⟨B, k - 1, none⟩ = some (.int .u8 (48 + (v : Int) % 10)) := World.cell?_setCell_same _ _ _ hc0
  generalize wr.setCell ⟨B, k - 1, none⟩ (.int .u8 (48 + (v : Int) % 10)) = W at *
  obtain ⟨xs, hl, hx⟩ := list_of (p := fun j x => W.cell? ⟨B, k - 1 + j, none⟩ = some (.int .u8 x) ∧ 48 ≤ x ∧ x ≤ 57) (21 - k) (fun j hj => by
    obtain ⟨n, hc, hd⟩ := h'.cell (k - 1 + j) (by omega)
    exact ⟨n, hc, hd (by omega)⟩)
  refine ⟨strOfNums xs, run_convert_bytes_arg W 31 5 Try.underlying31 Try.underlying5 B (k - 1) (21 - k) (21 - k) xs hl (fun i hi => (hx i hi).1) 9 Try.underlying9, ?_⟩
  rw [strOfNums_data]
  refine ⟨by simp; omega, by simp; omega, ?_, ?_⟩
  · unfold allD
    rw [List.all_map, List.all_eq_true]
    intro x hxm
    obtain ⟨i, hi, rfl⟩ := List.getElem_of_mem hxm
    have hb := (hx i (by omega)).2
    rw [List.getD, List.getElem?_eq_getElem hi] at hb
    simp only [Option.getD_some] at hb
    simp only [Function.comp, digB, decide_eq_true_eq, UInt8.toNat_ofNat']
    omega
  · intro hh
    obtain ⟨x, xs', rfl⟩ : ∃ x xs', xs = x :: xs' := by
      cases xs with
      | nil => simp at hl; omega
      | cons x xs' => exact ⟨x, xs', rfl⟩
    have hb := hx 0 (by omega)
    simp only [List.getD_cons_zero, Nat.add_zero] at hb
    rw [hfirst] at hb
    obtain ⟨hb1, hb2⟩ := hb
    simp only [Option.some.injEq, Value.int.injEq, true_and] at hb1
    simp only [List.map_cons, List.head?_cons, Option.some.injEq] at hh
    have h3 : (UInt8.ofNat x.toNat).toNat = 48 := by rw [hh]; rfl
    rw [UInt8.toNat_ofNat'] at h3
    have hv0 : v = 0 := by omega
    obtain ⟨hk, hu⟩ := hz hv0
    refine ⟨?_, hu⟩
    rw [List.length_map, hl]
    omega

theorem buf_start (w : World) : Buf w.heap.size 20 (w.alloc (.cells #[.int .u8 0, .int .u8 0, .int .u8 0, .int .u8 0, .int .u8 0, .int .u8 0, .int .u8 0, .int .u8 0, .int .u8 0, .int .u8 0,
    .int .u8 0, .int .u8 0, .int .u8 0, .int .u8 0, .int .u8 0, .int .u8 0, .int .u8 0, .int .u8 0, .int .u8 0, .int .u8 0] 30)) := by
  constructor
  · intro j hj
    refine ⟨0, ?_, fun h => by omega⟩
    rw [World.cell?_alloc_new]
    have e : (#[.int .u8 0, .int .u8 0, .int .u8 0, .int .u8 0, .int .u8 0, .int .u8 0, .int .u8 0, .int .u8 0, .int .u8 0, .int .u8 0,
      .int .u8 0, .int .u8 0, .int .u8 0, .int .u8 0, .int .u8 0, .int .u8 0, .int .u8 0, .int .u8 0, .int .u8 0, .int .u8 0] : Array Value) = Array.replicate 20 (.int .u8 0) := rfl
    rw [e, Array.getElem?_replicate, if_pos hj]
  · intro j hj
    exact World.frozen?_alloc_new _ _ _ _

theorem div_small {v k : Nat} (h : v < 10 ^ k) (h1 : 1 ≤ k) : v / 10 < 10 ^ (k - 1) := by
  obtain ⟨m, rfl⟩ : ∃ m, k = m + 1 := ⟨k - 1, by omega⟩
  rw [Nat.pow_succ] at h
  simp only [Nat.add_sub_cancel]
  omega

theorem pow_one_le {v k : Nat} (h : v < 10 ^ k) (h1 : v ≠ 0) : 1 ≤ k := by
  cases k with
  | zero => simp at h; omega
  | succ k => omega

set_option maxHeartbeats 400000 in
theorem itoa_any (u : Nat) (w : World) (hu : u < 18446744073709551616) :
    Calls Try.prog 16 #[.int .u64 u] w fun e w' => ∃ m : ByteArray, e = .returned (.string m) ∧ Text u m.data.toList ∧ Grown w w' := by
  go_enter Try.func16, Try.ntmps16
  go_wp2
  go_loopw [0, 4] (fun u' i wr => ∃ k v : Nat, u' = .int .u64 v ∧ i = .int .i64 k ∧ 1 ≤ k ∧ k ≤ 20 ∧ Grown w wr ∧ Buf w.heap.size k wr ∧ Hid (v < 10 ^ k) ∧ v ≤ u ∧ Hid (v = 0 → k = 20 ∧ u = 0)) (fun _ i _ => (intOf i).toNat)
  case atStart => exact ⟨20, u, rfl, rfl, by omega, by omega, (Grown.refl _).alloc _ _, buf_start w, (show u < 10 ^ 20 by omega), Nat.le_refl _, fun h => ⟨rfl, h⟩⟩
  case round =>
    obtain ⟨k, v, rfl, rfl, h1, h20, hb, hbuf, hp, hvu, hz⟩ := hrel
    obtain ⟨n, hc, -⟩ := hbuf.cell (k - 1) (by omega)
    have hm := hbuf.mark (k - 1) (by omega)
    have hsl := slice_buf w.heap.size k h1 h20
    have hwr := wrap_div v (by omega)
    have hB := hb.setCell (a := ⟨w.heap.size, k - 1, none⟩) (Nat.le_refl _) (.int .u8 (48 + (v : Int) % 10))
    by_cases hv : v < 10
    · have ht : ((v : Int) / 10 == 0) = true := by rw [beq_iff_eq]; omega
      obtain ⟨m, hcv, hm'⟩ := text_of hbuf h1 h20 hz.out hv
      have HM : Hid (Text u m.data.toList) := hm'
      clear hm'
      go_wp2
      go_ret
      exact ⟨m, rfl, HM.out, hB⟩
    · have ht : ((v : Int) / 10 == 0) = false := by rw [beq_eq_false_iff_ne]; omega
      have hd := div_small hp.out h1
      have HP : Hid (v / 10 < 10 ^ (k - 1)) := hd
      have h1' := pow_one_le hd (by omega)
      clear hd
      have hbuf' := hbuf.store h1 h20 (48 + (v : Int) % 10) (by omega)
      go_wp2
      refine ⟨⟨k - 1, v / 10, by go_num, by go_num, h1', by omega, hB, hbuf', HP, by omega, fun h => by omega⟩, ?_⟩
      simp [intOf]; omega
end Go.Proofs.Qxb6602386a.Walks
