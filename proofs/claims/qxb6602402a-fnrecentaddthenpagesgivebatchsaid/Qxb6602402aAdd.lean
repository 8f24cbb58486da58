import Derived.Test.Qxb6602402aFrom
import Derived.ArgAppend
namespace Go.Proofs.Qxb6602402a
open Go.RowKit
set_option linter.unusedVariables false

/-- All old blocks but B are as they were. -/
structure But (B : Nat) (w w' : World) : Prop where
  os : w'.os = w.os
  tape : w'.tape = w.tape
  output : w'.output = w.output
  size : w.heap.size ≤ w'.heap.size
  block : ∀ j, j < w.heap.size → j ≠ B → w'.heap[j]? = w.heap[j]?

/-- What 'add' holds when k entries of bs are appended. -/
structure Put (B f : Nat) (s : Int) (a : Option Addr) (es bs : List Hd) (w : World) (k : Nat) (v : Value) (z : Int) (wr : World) : Prop where
  strct : wr.rowIs B 43 3 (recF f v z)
  sum : z = s + sumL (bs.take k)
  start : k = 0 → v = .slice a es.length es.length
  own : 1 ≤ k → wr.ownsRow w.heap.size 30 1 v (es.length + k) ((es ++ bs.take k).map Hd.val) ∧ (v = .slice none 0 0 → False)
  but : But B w wr

theorem ownsRow_mono {w : World} {b b' : Nat} {v : Value} {n : Nat} {xs : List Value} (h : w.ownsRow b 30 1 v n xs) (hb : b' ≤ b) : w.ownsRow b' 30 1 v n xs := by
  refine ⟨h.1, ?_⟩
  rcases h.2 with h | ⟨g, cap, cur, h1, h2, h3⟩
  · exact .inl h
  · exact .inr ⟨g, cap, cur, h1, Nat.le_trans hb h2, h3⟩

theorem Put.next {B f : Nat} {s : Int} {a : Option Addr} {es bs : List Hd} {w wr w3 : World} {k : Nat} {v v' : Value} {z : Int} {A : Option Addr} {L C : Nat} (hP : Put B f s a es bs w k v z wr) (hB : B < w.heap.size) (hk : k < bs.length)
    (he : bs.getD k nilHd = ⟨A, L, C⟩) (hown : w3.ownsRow w.heap.size 30 1 v' (es.length + k + 1) ((es ++ bs.take k).map Hd.val ++ [.slice A L C])) (hv : v' = .slice none 0 0 → False)
    (hos : w3.os = wr.os) (htp : w3.tape = wr.tape) (hot : w3.output = wr.output) (hblk : ∀ j, j < w.heap.size → w3.heap[j]? = wr.heap[j]?) (hsz : wr.heap.size ≤ w3.heap.size) :
    ∃ g cap, v' = .slice (some ⟨g, 0, none⟩) (es.length + k + 1) cap ∧ w.heap.size ≤ g ∧ w3.cell? ⟨B, 1, none⟩ = some v ∧ w3.cell? ⟨B, 2, none⟩ = some (.int .i64 z) ∧ w3.frozen? ⟨B, 1, none⟩ = false ∧ w3.frozen? ⟨B, 2, none⟩ = false ∧
      ∀ x : Int, x = z + L → Put B f s a es bs w (k + 1) (.slice (some ⟨g, 0, none⟩) (es.length + k + 1) cap) x ((w3.setCell ⟨B, 1, none⟩ (.slice (some ⟨g, 0, none⟩) (es.length + k + 1) cap)).setCell ⟨B, 2, none⟩ (.int .i64 x)) := by
  have hl : (es ++ bs.take k).map Hd.val ++ [.slice A L C] = (es ++ bs.take (k + 1)).map Hd.val := by
    rw [take_snoc bs k hk, he, ← List.append_assoc, List.map_append (l₁ := es ++ bs.take k)]; rfl
  rw [hl] at hown
  obtain ⟨g, cap, rfl, hg, _⟩ := own_row hown hv
  have hS : w3.rowIs B 43 3 (recF f v z) := hP.strct.of_block (hblk B hB)
  refine ⟨g, cap, rfl, hg, hS.cell (by omega), hS.cell (by omega), hS.frozen 1, hS.frozen 2, fun x hx => ?_⟩
  have hne : g ≠ B := by omega
  refine ⟨?_, ?_, fun h => by omega, fun _ => ⟨?_, fun h => by cases h⟩, ?_⟩
  · refine ((hS.set 1 _).set 2 _).congr (fun i hi => ?_)
    unfold recF
    have : i = 0 ∨ i = 1 ∨ i = 2 := by omega
    rcases this with rfl | rfl | rfl <;> simp
  · rw [hx, hP.sum, sumL_take_succ bs k hk, he]
    show s + _ + (L : Int) = s + ((_ + L : Nat) : Int)
    omega
  · refine World.ownsRow.kept (row := some B) hown ⟨rfl, rfl, rfl, by simp [World.setCell], fun j hj hjB => ?_⟩ (.inr (by simp [Value.ownBlock]; exact hne))
    have h' : j ≠ B := fun e => hjB (by rw [e])
    rw [Below.heap_setCell _ _ _ _ h', Below.heap_setCell _ _ _ _ h']
  · refine ⟨hos.trans hP.but.os, htp.trans hP.but.tape, hot.trans hP.but.output, ?_, fun j hj hjB => ?_⟩
    · have := hP.but.size
      simp [World.setCell]
      omega
    · rw [Below.heap_setCell _ _ _ _ hjB, Below.heap_setCell _ _ _ _ hjB, hblk j hj]
      exact hP.but.block j hj hjB

/-- What the second loop of 'add' holds when d entries are gone: 'all' lay in block g. -/
structure Trim (B g cap f : Nat) (z0 : Int) (all : List Hd) (G : Nat → Value) (w : World) (d : Nat) (wr : World) : Prop where
  le : d ≤ all.length
  old : ∀ j, j < d → 1 < all.length - j ∧ 67108864 < z0 - sumL (all.take j)
  strct : wr.rowIs B 43 3 (recF ((f + d : Nat) : Int) (.slice (some ⟨g, d, none⟩) (all.length - d) (cap - d)) (z0 - sumL (all.take d)))
  row : wr.rowIs g 30 cap (fun k => if k < d then .slice none 0 0 else G k)
  off : Off2 g B w wr

theorem Trim.step {B g cap f : Nat} {z0 : Int} {all : List Hd} {G : Nat → Value} {w wr : World} {d : Nat} (hT : Trim B g cap f z0 all G w d wr) (hBg : B ≠ g) (h1 : 1 < all.length - d) (h2 : 67108864 < z0 - sumL (all.take d)) {L : Nat}
    (hL : (all.getD d nilHd).n = L) {v' : Value} {x' y' : Int} (hv : v' = .slice (some ⟨g, d + 1, none⟩) (all.length - (d + 1)) (cap - (d + 1))) (hx : x' = ((f + (d + 1) : Nat) : Int)) (hy : y' = z0 - sumL (all.take d) - L) :
    Trim B g cap f z0 all G w (d + 1) ((((wr.setCell ⟨B, 2, none⟩ (.int .i64 y')).setCell ⟨g, d, none⟩ (.slice none 0 0)).setCell ⟨B, 1, none⟩ v').setCell ⟨B, 0, none⟩ (.int .u64 x')).drew := by
  subst hv; subst hx; subst hy
  have hd : d < all.length := by omega
  refine ⟨by omega, fun j hj => ?_, ?_, ?_, ?_⟩
  · by_cases e : j = d
    · rw [e]; exact ⟨h1, h2⟩
    · exact hT.old j (by omega)
  · have hz : z0 - (sumL (all.take (d + 1)) : Int) = z0 - sumL (all.take d) - L := by rw [sumL_take_succ all d hd, hL]; omega
    rw [hz]
    refine ((((hT.strct.set 2 _).setOther (a := ⟨g, d, none⟩) hBg _).set 1 _).set 0 _).drew.congr (fun i hi => ?_)
    unfold recF
    have : i = 0 ∨ i = 1 ∨ i = 2 := by omega
    rcases this with rfl | rfl | rfl <;> simp
  · refine (((((hT.row.setOther (a := ⟨B, 2, none⟩) (fun h => hBg h.symm) _).set d (.slice none 0 0)).setOther (a := ⟨B, 1, none⟩) (fun h => hBg h.symm) _).setOther (a := ⟨B, 0, none⟩) (fun h => hBg h.symm) _).drew).congr (fun i hi => ?_)
    by_cases e : i = d
    · subst e; simp
    · have e2 : (i < d + 1) = (i < d) := by apply propext; omega
      simp only [e, e2, if_false]
  · exact ((((hT.off.setCell (a := ⟨B, 2, none⟩) (.inr rfl) _).setCell (a := ⟨g, d, none⟩) (.inl rfl) _).setCell (a := ⟨B, 1, none⟩) (.inr rfl) _).setCell (a := ⟨B, 0, none⟩) (.inr rfl) _).drew

/-- The row once all of bs is appended. -/
theorem Put.done {B f : Nat} {s : Int} {a : Option Addr} {es bs : List Hd} {w wr : World} {v : Value} {z : Int} (hP : Put B f s a es bs w bs.length v z wr) (hn : es.length ≤ 1048576) (ho : Owned w a es) (haB : ∀ x, a = some x → x.block ≠ B) :
    (a = none ∧ es = [] ∧ bs = [] ∧ v = .slice none 0 0) ∨
    ∃ (g cap : Nat) (G : Nat → Value), v = .slice (some ⟨g, 0, none⟩) (es ++ bs).length cap ∧ (es ++ bs).length ≤ cap ∧ cap ≤ maxLen ∧ g ≠ B ∧ (w.heap.size ≤ g ∨ a.map Addr.block = some g) ∧ (a.isNone && bs.isEmpty) = false ∧
      wr.rowIs g 30 cap G ∧ ∀ k, k < (es ++ bs).length → G k = ((es ++ bs).getD k nilHd).val := by
  cases hb : bs with
  | nil =>
    subst hb
    have hv := hP.start rfl
    rcases ho with ⟨rfl, rfl⟩ | ⟨g, rfl, hg⟩
    · exact .inl ⟨rfl, rfl, rfl, hv⟩
    · refine .inr ⟨g, es.length, fun k => (es.getD k nilHd).val, by simpa using hv, by simp, by unfold maxLen; omega, haB _ rfl, .inr rfl, rfl, hg.of_block (hP.but.block g hg.lt (haB _ rfl)), fun k hk => by simp⟩
  | cons h t =>
    have hb' : 1 ≤ bs.length := by rw [hb]; simp
    obtain ⟨hown, hv⟩ := hP.own hb'
    rw [List.take_of_length_le (Nat.le_refl _)] at hown
    rw [← hb]
    obtain ⟨hl, hh⟩ := hown
    rcases hh with ⟨h, _⟩ | ⟨g, cap, cur, rfl, hbg, hg, hnc, hcm, hcs, htake⟩
    · exact absurd h hv
    · refine .inr ⟨g, cap, fun k => cur.getD k undef, by simp, by simpa using hnc, hcm, ?_, .inl hbg, by rw [hb]; simp, ⟨cur, hg, by simpa using hcs, fun i hi => ?_⟩, fun k hk => ?_⟩
      · intro e
        have h1 := hP.strct
        obtain ⟨c, h2, _⟩ := h1
        rw [← e, hg] at h2
        simp at h2
      · have hi' : i < cur.size := by rw [hcs]; omega
        simp [Array.getD, hi']
      · have h1 : (cur.toList.take ((es.length + bs.length) * 1))[k]? = some ((es ++ bs).getD k nilHd).val := by
          rw [htake, List.getElem?_map, List.getD, List.getElem?_eq_getElem hk]; rfl
        have hk' : k < es.length + bs.length := by simpa using hk
        rw [List.getElem?_take, if_pos (by omega)] at h1
        have hkc : k < cur.size := by rw [hcs]; omega
        have h2 : cur[k]? = some ((es ++ bs).getD k nilHd).val := by simpa using h1
        rw [Array.getElem?_eq_getElem hkc] at h2
        injection h2 with h2
        simp [Array.getD, hkc, h2]

/-- How 'add' leaves things: d of the entries of es and bs are gone. -/
structure AddQ (B f : Nat) (s : Int) (a : Option Addr) (es bs : List Hd) (w w' : World) (d : Nat) (a' : Option Addr) (c' : Nat) : Prop where
  le : d ≤ (es ++ bs).length
  old : ∀ j, j < d → 1 < (es ++ bs).length - j ∧ 67108864 < s + sumL bs - sumL ((es ++ bs).take j)
  fin : ¬ (1 < (es ++ bs).length - d ∧ 67108864 < s + sumL bs - sumL ((es ++ bs).take d))
  cap : (es ++ bs).length - d ≤ c'
  capm : c' ≤ maxLen
  isnil : a'.isNone = (a.isNone && bs.isEmpty)
  strct : w'.rowIs B 43 3 (recF ((f + d : Nat) : Int) (.slice a' ((es ++ bs).length - d) c') (s + sumL bs - sumL ((es ++ bs).take d)))
  row : Row w' a' ((es ++ bs).drop d)
  os : w'.os = w.os
  tape : w'.tape = w.tape
  output : w'.output = w.output
  size : w.heap.size ≤ w'.heap.size
  block : ∀ j, j < w.heap.size → j ≠ B → some j ≠ a.map Addr.block → w'.heap[j]? = w.heap[j]?

theorem Trim.done {B g cap f : Nat} {s z : Int} {a : Option Addr} {es bs : List Hd} {G : Nat → Value} {w wr w' : World} {d : Nat} (hT : Trim B g cap f z (es ++ bs) G wr d w') (hz : z = s + sumL bs) (hb : But B w wr)
    (hcap : (es ++ bs).length ≤ cap) (hcm : cap ≤ maxLen) (hg : w.heap.size ≤ g ∨ a.map Addr.block = some g) (hnn : (a.isNone && bs.isEmpty) = false) (hG : ∀ k, k < (es ++ bs).length → G k = ((es ++ bs).getD k nilHd).val)
    (hfin : ¬ (1 < (es ++ bs).length - d ∧ 67108864 < z - sumL ((es ++ bs).take d))) : AddQ B f s a es bs w w' d (some ⟨g, d, none⟩) (cap - d) := by
  subst hz
  refine ⟨hT.le, hT.old, hfin, by omega, Nat.le_trans (Nat.sub_le _ _) hcm, by rw [hnn]; rfl, hT.strct, ?_, hT.off.os.trans hb.os, hT.off.tape.trans hb.tape, hT.off.output.trans hb.output, by rw [hT.off.size]; exact hb.size, fun j hj hjB hja => ?_⟩
  · intro k hk
    have hk' : d + k < (es ++ bs).length := by rw [List.length_drop] at hk; omega
    refine ⟨g, d, rfl, ?_⟩
    have := hT.row.cell (i := d + k) (by omega)
    rw [if_neg (by omega), hG _ hk', ← getD_drop] at this
    exact this
  · rw [hT.off.block j (by
      rcases hg with h | h
      · omega
      · intro e; exact hja (by rw [h, e])) hjB]
    exact hb.block j hj hjB

set_option maxHeartbeats 4000000 in
theorem add_any (B f : Nat) (s : Int) (a a2 : Option Addr) (c2 : Nat) (es bs : List Hd) (w : World) (hn : es.length + bs.length ≤ 1048576) (hs : -9223372036852678656 ≤ s ∧ s ≤ 9223372036852678655)
    (hsum : sumL bs ≤ 1048576) (hall : sumL (es ++ bs) ≤ 1048576) (hf : f + (es.length + bs.length) ≤ 18446744073709551615) (hB : B < w.heap.size) (ho : Owned w a es) (haB : ∀ x, a = some x → x.block ≠ B) (hS : w.rowIs B 43 3 (recF f (.slice a es.length es.length) s)) (hr2 : Row w a2 bs) (hap : ∀ x, a2 = some x → x.block ≠ B) :
    Calls Try.prog 26 #[.pointer (some ⟨B, 0, none⟩), .slice a2 bs.length c2] w fun e w' => e = .returned (.tuple #[]) ∧ ∃ d a' c', AddQ B f s a es bs w w' d a' c' := by
  obtain ⟨i0, hi, hzz⟩ := Option.map_eq_some_iff.1 info30
  simp only [Prod.mk.injEq] at hzz
  obtain ⟨hz0, hz1, hz2⟩ := hzz
  have HR : Hid (Row w a2 bs ∧ (∀ x, a2 = some x → x.block ≠ B) ∧ Owned w a es ∧ (∀ x, a = some x → x.block ≠ B)) := ⟨hr2, hap, ho, haB⟩
  have HP : Hid (Put B f s a es bs w 0 (.slice a es.length es.length) s w) := ⟨hS, by simp [sumL], fun _ => rfl, fun h => by omega, ⟨rfl, rfl, rfl, Nat.le_refl _, fun _ _ _ => rfl⟩⟩
  obtain ⟨hs1, hs2⟩ := hs
  clear hr2 hap ho haB hS
  go_enter Try.func26, Try.ntmps26
  go_wp2_with fail
  go_loopw [8] (fun x wr => ∃ (k : Nat) (v : Value) (z : Int), k ≤ bs.length ∧ x = .int .i64 k ∧ -9223372036852678656 ≤ z ∧ z ≤ 9223372036853727231 ∧ Hid (Put B f s a es bs w k v z wr)) (fun x _ => bs.length - (intOf x).toNat)
  case atStart => exact ⟨0, _, s, Nat.zero_le _, rfl, hs1, by omega, HP⟩
  case round =>
    obtain ⟨k, v, z, hk, rfl, hzl, hzh, HK⟩ := hrel
    clear HP
    have c1 : wr.cell? ⟨B, 1, none⟩ = some v := HK.out.strct.cell (by omega)
    have c2' : wr.cell? ⟨B, 2, none⟩ = some (.int .i64 z) := HK.out.strct.cell (by omega)
    have m1 := HK.out.strct.frozen 1
    have m2 := HK.out.strct.frozen 2
    by_cases hlt : k < bs.length
    · obtain ⟨b2, o2, A, L, C, rfl, hc, he⟩ := HR.out.1.at hlt
      have hcw : wr.cell? ⟨b2, o2 + k, none⟩ = some (.slice A L C) := by
        have := HK.out.but.block b2 (World.block_lt_of_cell? _ _ hc) (HR.out.2.1 _ rfl)
        exact (World.cell?_of_block (a := ⟨b2, o2 + k, none⟩) this).trans hc
      have hL := len_le_sum bs k hlt
      rw [he] at hL
      have hL' : L ≤ 1048576 := Nat.le_trans hL hsum
      have hS1 := sumL_take_succ bs k hlt
      have hS2 := sumL_take_le bs (k + 1)
      rw [he] at hS1
      have hzL : z + L ≤ 9223372036853727231 := by
        have := HK.out.sum
        have h3 : sumL (bs.take (k + 1)) = sumL (bs.take k) + L := hS1
        omega
      have HE : Hid (bs.getD k nilHd = ⟨A, L, C⟩) := he
      clear hL he hc hS1 hS2
      by_cases hk0 : k = 0
      · have hv := HK.out.start hk0
        subst hv
        have HK0 : Hid (k = 0) := hk0
        clear hk0
        have HG : Hid (∀ b, a = some b → ∀ j u, (es.map Hd.val)[j]? = some u → (wr.alloc (.cells #[.slice A L C] 30)).cell? (b.add j) = some u) := by
          rintro b rfl j u hu
          rcases HR.out.2.2.1 with ⟨h, _⟩ | ⟨g, h, hg⟩
          · cases h
          · injection h with h
            subst h
            have hgB : g ≠ B := HR.out.2.2.2 _ rfl
            have hg' : (wr.alloc (.cells #[.slice A L C] 30)).rowIs g 30 es.length (fun k => (es.getD k nilHd).val) := (hg.of_block (HK.out.but.block g hg.lt hgB)).alloc _
            have hrow : Row (wr.alloc (.cells #[.slice A L C] 30)) (some ⟨g, 0, none⟩) es := fun k hk => ⟨g, 0, rfl, by simpa using hg'.cell hk⟩
            exact news_of hrow (Below.refl _ _) j u hu
        have HNN : Hid (a = none → es.length = 0) := by
          rintro rfl
          rcases HR.out.2.2.1 with ⟨_, h⟩ | ⟨g, h, hg⟩
          · rw [h]; rfl
          · cases h
        go_wp2_with (at_builtin; refine wpList_append_grows _ rfl _ _ 23 rfl 30 i0 (.slice none 0 0) 1 24 Try.underlying23 hi hz0 hz1 hz2 rfl (by decide) a es.length es.length (es.map Hd.val) rfl ?hnone ?hlo HG.out ⟨wr.heap.size, 0, none⟩ 1 1 [.slice A L C] rfl rfl (cell_one_new _ _ _) ?h1c ?hfull ?b1 ?b2 ?hK)
        case hnone => exact fun h => ⟨HNN.out h, HNN.out h⟩
        case hlo => simp
        case h1c => intro u hu; simp at hu; subst hu; rfl
        case hfull => omega
        case b1 => unfold maxLen; omega
        case b2 => omega
        case hK =>
          intro v' w3 hown hgr
          have hsz := HK.out.but.size
          have hv' : v' = .slice none 0 0 → False := by
            intro h
            rcases hown.2 with ⟨_, h0⟩ | ⟨g, cap, cur, h1, _⟩
            · omega
            · rw [h] at h1; cases h1
          have hown2 : w3.ownsRow w.heap.size 30 1 v' (es.length + k + 1) ((es ++ bs.take k).map Hd.val ++ [.slice A L C]) := by
            rw [HK0.out]
            have := ownsRow_mono hown (show w.heap.size ≤ wr.heap.size + 1 by omega)
            simpa using this
          obtain ⟨g, cap, rfl, hg, x1, x2, y1, y2, hnext⟩ := HK.out.next hB hlt HE.out hown2 hv' hgr.os hgr.tape hgr.output (fun j hj => by
              rw [hgr.block j (by simp; omega) (by simp), Below.heap_alloc _ _ _ (by omega)]) (by have := hgr.size; simp at this; omega)
          have HX : Hid (∀ x : Int, x = z + L → Put B f s a es bs w (k + 1) (.slice (some ⟨g, 0, none⟩) (es.length + k + 1) cap) x ((w3.setCell ⟨B, 1, none⟩ (.slice (some ⟨g, 0, none⟩) (es.length + k + 1) cap)).setCell ⟨B, 2, none⟩ (.int .i64 x))) := hnext
          clear hnext hown hown2 hgr hv' HG HNN HK
          go_wp2
          go_roundw
          case rel => exact ⟨k + 1, _, z + L, by omega, by go_num, by omega, by omega, HX.out _ rfl⟩
          case measure => simp [intOf]; omega
      · have hown0 := HK.out.own (by omega)
        obtain ⟨hown0, hv0⟩ := hown0
        have HO : Hid ((wr.alloc (.cells #[.slice A L C] 30)).ownsRow w.heap.size 30 1 v (es.length + k) ((es ++ bs.take k).map Hd.val)) := hown0.alloc _
        obtain ⟨g0, cap0, hv, hg0, _⟩ := own_row hown0 hv0
        have HGB : Hid (v.ownBlock = some g0 ∧ w.heap.size ≤ g0) := ⟨by rw [hv]; rfl, hg0⟩
        have hw3 := HK.out.but.size
        clear hk0 hown0 hv0 hv
        go_wp2_with (at_builtin; refine wpList_append_own _ rfl _ _ 23 rfl w.heap.size 30 i0 (.slice none 0 0) 1 24 Try.underlying23 hi hz0 hz1 hz2 rfl (by decide) v (es.length + k) ((es ++ bs.take k).map Hd.val) rfl HO.out ⟨wr.heap.size, 0, none⟩ 1 1 [.slice A L C] rfl rfl (cell_one_new _ _ _) ?h1c ?b1 ?b2 ?b3 ?hK)
        case h1c => intro u hu; simp at hu; subst hu; rfl
        case b1 => unfold maxLen; omega
        case b2 => omega
        case b3 => simp; omega
        case hK =>
          intro v' w3 hown hgr hnil3
          have hv' : v' = .slice none 0 0 → False := by simpa using hnil3
          have hown2 : w3.ownsRow w.heap.size 30 1 v' (es.length + k + 1) ((es ++ bs.take k).map Hd.val ++ [.slice A L C]) := by simpa using hown
          obtain ⟨g, cap, rfl, hg, x1, x2, y1, y2, hnext⟩ := HK.out.next hB hlt HE.out hown2 hv' hgr.os hgr.tape hgr.output (fun j hj => by
              rw [hgr.block j (by simp; omega) (by rw [HGB.out.1]; intro h; injection h with h; have := HGB.out.2; omega), Below.heap_alloc _ _ _ (by omega)]) (by have := hgr.size; simp at this; omega)
          have HX : Hid (∀ x : Int, x = z + L → Put B f s a es bs w (k + 1) (.slice (some ⟨g, 0, none⟩) (es.length + k + 1) cap) x ((w3.setCell ⟨B, 1, none⟩ (.slice (some ⟨g, 0, none⟩) (es.length + k + 1) cap)).setCell ⟨B, 2, none⟩ (.int .i64 x))) := hnext
          clear hnext hown hown2 hgr hv' hnil3 HGB HO HK
          go_wp2
          go_roundw
          case rel => exact ⟨k + 1, _, z + L, by omega, by go_num, by omega, by omega, HX.out _ rfl⟩
          case measure => simp [intOf]; omega
    · obtain rfl : k = bs.length := by omega
      have hz : z = s + sumL bs := by have := HK.out.sum; rw [List.take_of_length_le (Nat.le_refl _)] at this; exact this
      rcases HK.out.done (by omega) HR.out.2.2.1 HR.out.2.2.2 with ⟨rfl, rfl, rfl, rfl⟩ | ⟨g, cap, G, rfl, hcap, hcm, hgB, hg, hnn, hrow, hG⟩
      · have HQ : Hid (∃ d a' c', AddQ B f s none [] [] w wr d a' c') := by
          have hst := HK.out.strct
          have hb := HK.out.but
          have hz' : z = s := by simpa [sumL] using hz
          subst hz'
          exact ⟨0, none, 0, ⟨Nat.le_refl _, fun j hj => by omega, fun h => by simp at h, Nat.le_refl _, Nat.zero_le _, rfl, by simpa [sumL] using hst, fun k hk => by simp at hk, hb.os, hb.tape, hb.output, hb.size, fun j hj hjB _ => hb.block j hj hjB⟩⟩
        clear HK HR hz
        go_wp2_with fail
        refine wp_loop_rounds 1 ?_
        rw [rounds_succ]
        go_wp2
        go_end0
        exact ⟨rfl, HQ.out⟩
      · have H0 : Hid (Trim B g cap f z (es ++ bs) G wr 0 wr) := by
          refine ⟨Nat.zero_le _, fun j hj => by omega, ?_, hrow.congr (fun i hi => by simp), Off2.refl _ _ _⟩
          have := HK.out.strct
          simpa [sumL] using this
        have HD : Hid (∀ d w', Trim B g cap f z (es ++ bs) G wr d w' → ¬ (1 < (es ++ bs).length - d ∧ 67108864 < z - sumL ((es ++ bs).take d)) → ∃ d a' c', AddQ B f s a es bs w w' d a' c') :=
          fun d w' hT hfin => ⟨d, _, _, hT.done hz HK.out.but hcap hcm hg hnn hG hfin⟩
        have HG : Hid (∀ k, k < (es ++ bs).length → G k = ((es ++ bs).getD k nilHd).val) := hG
        have hN : (es ++ bs).length ≤ 1048576 := by rw [List.length_append]; exact hn
        have hfN : f + (es ++ bs).length ≤ 18446744073709551615 := by rw [List.length_append]; exact hf
        have hcm' : cap ≤ 9223372036854775807 := hcm
        have hBg : B ≠ g := fun h => hgB h.symm
        clear HK HR hz hrow hG hnn hg hcm
        generalize es ++ bs = all at *
        rename World => WR
        go_wp2_with fail
        go_loopg [] all.length (fun m wx => ∃ (d : Nat), d + m = all.length ∧ Hid (Trim B g cap f z all G WR d wx))
        case atStart => exact ⟨0, by omega, H0⟩
        case round =>
          obtain ⟨d, hdm, HT⟩ := hrel
          obtain ⟨y, hy⟩ : ∃ y : Int, y = z - sumL (all.take d) := ⟨_, rfl⟩
          have hst := HT.out.strct
          rw [← hy] at hst
          have c0 : wr.cell? ⟨B, 0, none⟩ = some (.int .u64 ((f + d : Nat) : Int)) := hst.cell (by omega)
          have c1 : wr.cell? ⟨B, 1, none⟩ = some (.slice (some ⟨g, d, none⟩) (all.length - d) (cap - d)) := hst.cell (by omega)
          have c2 : wr.cell? ⟨B, 2, none⟩ = some (.int .i64 y) := hst.cell (by omega)
          have m0 := hst.frozen 0
          have m1 := hst.frozen 1
          have m2 := hst.frozen 2
          have hle := HT.out.le
          have hyl : -9223372036853727232 ≤ y := by have := sumL_take_le all d; omega
          have hyh : y ≤ 9223372036853727231 := by have := sumL_take_le all d; omega
          have HY : Hid (y = z - sumL (all.take d)) := hy
          clear hst hy H0
          obtain rfl : gk = all.length - d := by omega
          by_cases hgo : 1 < all.length - d ∧ 67108864 < y
          · obtain ⟨h1, h2⟩ := hgo
            have hd : d < all.length := by omega
            have cg := HT.out.row.cell (i := d) (by omega)
            have mg := HT.out.row.frozen d
            simp only [Nat.lt_irrefl, if_false] at cg
            rw [HG.out d hd] at cg
            obtain ⟨A, L, C, he⟩ : ∃ A L C, all.getD d nilHd = ⟨A, L, C⟩ := ⟨_, _, _, rfl⟩
            have hL := len_le_sum all d hd
            rw [he] at cg hL
            have hL' : L ≤ 1048576 := Nat.le_trans hL hall
            have cg' : wr.cell? ⟨g, d, none⟩ = some (.slice A L C) := cg
            have HE : Hid (all.getD d nilHd = ⟨A, L, C⟩) := he
            have hc1 : ¬ cap - d = 1 := by omega
            clear he cg hL
            go_wp2
            go_region
            go_wp2
            go_roundg (all.length - (d + 1))
            case measure => omega
            case rel =>
              exact ⟨d + 1, by omega, Trim.step HT.out hBg h1 (by rw [← HY.out]; exact h2) (by rw [HE.out]) (by rw [show all.length - (d + 1) = all.length - d - 1 by omega, show cap - (d + 1) = cap - d - 1 by omega]) (by omega) (by rw [HY.out])⟩
          · have HQ : Hid (∃ d a' c', AddQ B f s a es bs w wr d a' c') := HD.out d wr HT.out (by rw [← HY.out]; exact hgo)
            by_cases h1 : 1 < all.length - d
            · have h2 : ¬ 67108864 < y := fun h => hgo ⟨h1, h⟩
              clear hgo
              go_wp2
              go_end0
              exact ⟨rfl, HQ.out⟩
            · clear hgo
              go_wp2
              go_end0
              exact ⟨rfl, HQ.out⟩

/-- How ZZRecentAddB1 comes back. -/
def AddR (f : Nat) (s : Int) (a : Option Addr) (es bs : List Hd) (w : World) (e : Ending) (w' : World) : Prop :=
  ∃ (d : Nat) (a' : Option Addr) (c' : Nat) (z : Int), e = .returned (.tuple #[.int .u64 ((f + d : Nat) : Int), .slice a' ((es ++ bs).length - d) c', .int .i64 z]) ∧ z = s + sumL bs - sumL ((es ++ bs).take d) ∧ d ≤ (es ++ bs).length ∧
    (∀ j, j < d → 1 < (es ++ bs).length - j ∧ 67108864 < s + sumL bs - sumL ((es ++ bs).take j)) ∧ ¬ (1 < (es ++ bs).length - d ∧ 67108864 < s + sumL bs - sumL ((es ++ bs).take d)) ∧
    (es ++ bs).length - d ≤ c' ∧ c' ≤ maxLen ∧ a'.isNone = (a.isNone && bs.isEmpty) ∧ Row w' a' ((es ++ bs).drop d) ∧ w.grownBy w' (a.map Addr.block)

set_option maxHeartbeats 1000000 in
theorem zzAdd (f : Nat) (s : Int) (a a2 : Option Addr) (c2 : Nat) (es bs : List Hd) (w : World) (hn : es.length + bs.length ≤ 1048576) (hs : -9223372036852678656 ≤ s ∧ s ≤ 9223372036852678655)
    (hall : sumL (es ++ bs) ≤ 1048576) (hf : f + (es.length + bs.length) ≤ 18446744073709551615) (ho : Owned w a es) (ho2 : Owned w a2 bs) :
    Calls Try.prog 21 #[.int .u64 f, .slice a es.length es.length, .int .i64 s, .slice a2 bs.length c2] w (AddR f s a es bs w) := by
  have hsum : sumL bs ≤ 1048576 := by rw [sumL_append] at hall; omega
  have HA := add_any w.heap.size f s a a2 c2 es bs (w.alloc (.cells #[.int .u64 f, .slice a es.length es.length, .int .i64 s] 43)) hn hs hsum hall hf (by simp)
    (ho.below ((Below.refl _ _).alloc (Nat.le_refl _) _)) (fun x hx => by have := ho.lt x hx; omega) (rec_new _ _ _ _) (ho2.below ((Below.refl _ _).alloc (Nat.le_refl _) _)).row (fun x hx => by have := ho2.lt x hx; omega)
  have HC : Hid (Calls Try.prog 26 #[.pointer (some ⟨w.heap.size, 0, none⟩), .slice a2 bs.length c2] (w.alloc (.cells #[.int .u64 f, .slice a es.length es.length, .int .i64 s] 43)) fun e w' => e = .returned (.tuple #[]) ∧
      ∃ d a' c', AddQ w.heap.size f s a es bs (w.alloc (.cells #[.int .u64 f, .slice a es.length es.length, .int .i64 s] 43)) w' d a' c') := HA
  clear HA hs ho ho2
  go_enter Try.func21, Try.ntmps21
  go_wp2_with fail
  refine HC.out.mono ?_
  rintro e w1 ⟨rfl, d, a', c', hQ⟩
  clear HC
  have hB := hQ.strct
  obtain ⟨z, hz⟩ : ∃ z : Int, z = s + sumL bs - sumL ((es ++ bs).take d) := ⟨_, rfl⟩
  rw [← hz] at hB
  have c0 : w1.cell? ⟨w.heap.size, 0, none⟩ = some (.int .u64 ((f + d : Nat) : Int)) := hB.cell (by omega)
  have c1 : w1.cell? ⟨w.heap.size, 1, none⟩ = some (.slice a' ((es ++ bs).length - d) c') := hB.cell (by omega)
  have c3 : w1.cell? ⟨w.heap.size, 2, none⟩ = some (.int .i64 z) := hB.cell (by omega)
  obtain ⟨M, hM⟩ : ∃ M, M = (es ++ bs).length - d := ⟨_, rfl⟩
  have HF : Hid (∀ n, AddR f s a es bs w (.returned (.tuple #[.int .u64 ((f + d : Nat) : Int), .slice a' M c', .int .i64 z])) (w1.drewN n)) := by
    intro n
    rw [hM]
    refine ⟨d, a', c', z, rfl, hz, hQ.le, hQ.old, hQ.fin, hQ.cap, hQ.capm, hQ.isnil, ?_, ?_⟩
    · intro k hk
      obtain ⟨b, off, h1, h2⟩ := hQ.row k hk
      exact ⟨b, off, h1, by simpa using h2⟩
    · refine ⟨hQ.os, hQ.tape, hQ.output, ?_, fun k hk hne => ?_⟩
      · have := hQ.size
        simp at this ⊢
        omega
      · have h1 := hQ.block k (by simp; omega) (by omega) hne
        rw [Below.heap_alloc _ _ _ hk] at h1
        simpa using h1
  rw [← hM] at c1
  clear hQ hB hz hM
  go_wp2
  go_quiet (fail)
  go_wp2
  go_ret3
  exact HF.out nq
end Go.Proofs.Qxb6602402a
