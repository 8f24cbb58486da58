import Derived.Test.Qxb6602402aDrop
import Derived.Test.Qxb6602402aReads
namespace Go.Proofs.Qxb6602402a
open Go.RowKit
set_option linter.unusedVariables false

theorem own_row {w : World} {base : Nat} {v : Value} {n : Nat} {es : List Hd} (h : w.ownsRow base 30 1 v n (es.map Hd.val)) (hv : v = .slice none 0 0 → False) :
    ∃ g cap, v = .slice (some ⟨g, 0, none⟩) n cap ∧ base ≤ g ∧ n ≤ cap ∧ cap ≤ maxLen ∧ es.length = n ∧ Row w (some ⟨g, 0, none⟩) es := by
  obtain ⟨hl, h⟩ := h
  rcases h with ⟨h, _⟩ | ⟨g, cap, cur, rfl, hb, hg, hnc, hcm, hcs, htake⟩
  · exact absurd h hv
  · have hl' : es.length = n := by simpa using hl
    refine ⟨g, cap, rfl, hb, hnc, hcm, hl', fun k hk => ⟨g, 0, rfl, ?_⟩⟩
    have h1 : (cur.toList.take (n * 1))[k]? = some (es.getD k nilHd).val := by
      rw [htake, List.getElem?_map, List.getD, List.getElem?_eq_getElem hk]; rfl
    rw [List.getElem?_take] at h1
    split at h1
    · rw [Nat.zero_add, cell_of_row w g k cur 30 (0, 0) hg]
      simpa using h1
    · cases h1

/-- How slices.Clone comes back, of a slice that is not nil. -/
def CopyR (w : World) (es : List Hd) (e : Ending) (w' : World) : Prop :=
  ∃ g cap, e = .returned (.slice (some ⟨g, 0, none⟩) es.length cap) ∧ w.heap.size ≤ g ∧ Row w' (some ⟨g, 0, none⟩) es ∧ Below w.heap.size w w'

theorem news_of {w w0 : World} {b off : Nat} {es : List Hd} (hr : Row w (some ⟨b, off, none⟩) es) (hb : Below w.heap.size w w0) :
    ∀ (j : Nat) (u : Value), (es.map Hd.val)[j]? = some u → w0.cell? ((⟨b, off, none⟩ : Addr).add j) = some u := by
  intro j u hu
  have hj : j < es.length := by
    rcases Nat.lt_or_ge j es.length with h | h
    · exact h
    · rw [List.getElem?_eq_none (by simpa using h)] at hu; cases hu
  obtain ⟨b', off', h1, h2⟩ := hr.below hb j hj
  injection h1 with h1
  injection h1 with h1 h3
  subst h1; subst h3
  have hadd : (⟨b, off, none⟩ : Addr).add j = ⟨b, off + j, none⟩ := by unfold Addr.add; split <;> simp_all
  rw [hadd, h2]
  rw [List.getElem?_map, List.getElem?_eq_getElem hj] at hu
  rw [List.getD, List.getElem?_eq_getElem hj]
  exact hu

theorem val_cell (es : List Hd) : ∀ u, u ∈ es.map Hd.val → u.oneCell' = true := by
  intro u hu
  obtain ⟨h, _, rfl⟩ := List.mem_map.1 hu
  rfl

set_option maxHeartbeats 400000 in
theorem copy_any (b off c : Nat) (es : List Hd) (w : World) (hn : es.length ≤ 1048576) (hr : Row w (some ⟨b, off, none⟩) es) :
    Calls Try.prog 27 #[.slice (some ⟨b, off, none⟩) es.length c] w (CopyR w es) := by
  obtain ⟨i0, hi, hzz⟩ := Option.map_eq_some_iff.1 info30
  simp only [Prod.mk.injEq] at hzz
  obtain ⟨hz0, hz1, hz2⟩ := hzz
  have hnil : ∀ (w : World) (a : Option Addr) (n c n' c' : Nat), (binOp .eql 23 (.slice a n c) (.slice none n' c')).run Try.prog w = .ok (.bool a.isNone) w := fun w a n c n' c' => Lib.run_eql_slice_nil w _ _ a n c n' c' Try.underlying23
  have HB : Hid (Below w.heap.size w (w.alloc (.cells #[] 30))) := (Below.refl _ _).alloc (Nat.le_refl _) _
  have HO : Hid ((w.alloc (.cells #[] 30)).ownsRow w.heap.size 30 1 (.slice (some ⟨w.heap.size, 0, none⟩) 0 0) 0 []) := World.ownsRow_made w #[] 0 (Nat.le_refl _) (Nat.zero_le _) rfl
  have HN : Hid (∀ (j : Nat) (u : Value), (es.map Hd.val)[j]? = some u → (w.alloc (.cells #[] 30)).cell? ((⟨b, off, none⟩ : Addr).add j) = some u) := news_of hr HB.out
  clear hr
  go_enter Try.func27, Try.ntmps27
  go_wp2_with (at_builtin; refine wpList_append_own _ rfl _ _ 23 rfl w.heap.size 30 i0 (.slice none 0 0) 1 24 Try.underlying23 hi hz0 hz1 hz2 rfl (by decide) _ _ _ rfl HO.out ⟨b, off, none⟩ es.length c (es.map Hd.val) rfl (by simp) HN.out (val_cell es) (by unfold maxLen; omega) (by omega) (by simp) ?_; intro v' w3 hown' hgrow3 hnil3)
  have hv : v' = .slice none 0 0 → False := fun h => by
    have := (hnil3.1 h).1
    cases this
  rw [Nat.zero_add, List.nil_append] at hown'
  obtain ⟨g, cap, rfl, hg, hcap, hcm, _, hrow⟩ := own_row hown' hv
  have HF : Hid (CopyR w es (.returned (.slice (some ⟨g, 0, none⟩) es.length cap)) w3) :=
    ⟨g, cap, rfl, hg, hrow, HB.out.grown hgrow3 (by simp) (fun k hk => by have hk' : some w.heap.size = some k := hk; injection hk' with hk'; omega)⟩
  clear hown' hgrow3 hnil3 hv hrow HN HO HB
  go_wp2
  go_ret
  exact HF.out

/-- A stretch of a list. -/
def seg (es : List Hd) (l h : Nat) : List Hd := (es.take h).drop l

theorem seg_length (es : List Hd) (l h : Nat) (hh : h ≤ es.length) : (seg es l h).length = h - l := by
  simp [seg]; omega

theorem seg_getD (es : List Hd) (l h k : Nat) (hk : l + k < h) : (seg es l h).getD k nilHd = es.getD (l + k) nilHd := by
  simp [seg, List.getD, hk]

theorem Row.seg {w : World} {b off : Nat} {es : List Hd} (hr : Row w (some ⟨b, off, none⟩) es) (l h : Nat) (hh : h ≤ es.length) : Row w (some ⟨b, off + l, none⟩) (seg es l h) := by
  intro k hk
  rw [seg_length es l h hh] at hk
  obtain ⟨b', off', h1, h2⟩ := hr (l + k) (by omega)
  injection h1 with h1
  injection h1 with h1 h3
  subst h1; subst h3
  refine ⟨b, off + l, rfl, ?_⟩
  rw [seg_getD es l h k (by omega), Nat.add_assoc]
  exact h2

/-- How far 'from' goes: from st on, up to E. -/
structure Page (es : List Hd) (m : Int) (st E : Nat) : Prop where
  lo : st < E
  hi : E ≤ es.length
  fits : ∀ k, st < k → k < E → ((sumL (seg es st (k + 1)) : Nat) : Int) ≤ m
  full : E < es.length → m < ((sumL (seg es st (E + 1)) : Nat) : Int)

/-- How 'from' comes back. -/
def FromR (f i : Nat) (m : Int) (es : List Hd) (w : World) (e : Ending) (w' : World) : Prop :=
  Below w.heap.size w w' ∧
  ((i < f ∧ e = .returned (.tuple #[.slice none 0 0, .bool false])) ∨
   (f + es.length ≤ i ∧ e = .returned (.tuple #[.slice none 0 0, .bool true])) ∨
   ∃ st E g cap, i = f + st ∧ Page es m st E ∧ e = .returned (.tuple #[.slice (some ⟨g, 0, none⟩) (E - st) cap, .bool true]) ∧ w.heap.size ≤ g ∧ Row w' (some ⟨g, 0, none⟩) (seg es st E))

theorem copy_seg (b off c : Nat) (es : List Hd) (st E : Nat) (w : World) (hn : es.length ≤ 1048576) (hE : E ≤ es.length) (hr : Row w (some ⟨b, off, none⟩) es) :
    Calls Try.prog 27 #[.slice (some ⟨b, off + st, none⟩) (E - st) (c - st)] w fun e w' =>
      ∃ g cap, e = .returned (.slice (some ⟨g, 0, none⟩) (E - st) cap) ∧ w.heap.size ≤ g ∧ Row w' (some ⟨g, 0, none⟩) (seg es st E) ∧ Below w.heap.size w w' := by
  have hl := seg_length es st E hE
  have h := copy_any b (off + st) (c - st) (seg es st E) w (by omega) (hr.seg st E hE)
  rw [hl] at h
  refine h.mono ?_
  rintro e w' ⟨g, cap, h1, h2, h3, h4⟩
  rw [hl] at h1
  exact ⟨g, cap, h1, h2, h3, h4⟩

theorem seg_step (es : List Hd) (l k : Nat) (hl : l ≤ k) (h : k < es.length) : sumL (seg es l (k + 1)) = sumL (seg es l k) + (es.getD k nilHd).n := seg_succ es l k hl h

set_option maxHeartbeats 1000000 in
theorem from_page (B f i st : Nat) (m s : Int) (b off c : Nat) (es : List Hd) (w : World) (hn : es.length ≤ 1048576) (hs : sumL es ≤ 1048576) (hc : es.length ≤ c) (hc2 : c ≤ maxLen) (hi : i ≤ 18446744073709551615)
    (hm : -9223372036854775808 ≤ m ∧ m ≤ 9223372036854775807)
    (hst : i = f + st) (hlt : st < es.length) (hB : w.rowIs B 43 3 (recF f (.slice (some ⟨b, off, none⟩) es.length c) s)) (hr : Row w (some ⟨b, off, none⟩) es) :
    Calls Try.prog 24 #[.pointer (some ⟨B, 0, none⟩), .int .u64 i, .int .i64 m] w (FromR f i m es w) := by
  have c0 : w.cell? ⟨B, 0, none⟩ = some (.int .u64 f) := hB.cell (by omega)
  have c1 : w.cell? ⟨B, 1, none⟩ = some (.slice (some ⟨b, off, none⟩) es.length c) := hB.cell (by omega)
  have HR : Hid (Row w (some ⟨b, off, none⟩) es) := hr
  have HST : Hid (i = f + st) := hst
  have HSI : Hid ((i : Int) - (f : Int) = (st : Int)) := by show (i : Int) - (f : Int) = (st : Int); omega
  have d1 : decide ((i : Int) < (f : Int)) = false := by simp; omega
  have d2 : decide ((es.length : Int) ≤ (i : Int) - (f : Int)) = false := by simp; omega
  have h1 : (f : Int) ≤ (i : Int) := by omega
  have h2 : (i : Int) - (f : Int) < (es.length : Int) := by omega
  obtain ⟨hm1, hm2⟩ := hm
  clear hB hr hst
  unfold maxLen at hc2
  go_enter Try.func24, Try.ntmps24
  go_wp2_with fail
  simp only [HSI.out]
  clear HSI d1 d2 h2
  go_loop [9, 10] (fun en z => ∃ (E t : Nat), st ≤ E ∧ E ≤ es.length ∧ en = .int .u64 E ∧ z = .int .i64 t ∧ t ≤ 1048576 ∧ Hid (t = sumL (seg es st E)) ∧ Hid (∀ k, st < k → k < E → ((sumL (seg es st (k + 1)) : Nat) : Int) ≤ m)) (fun en _ => es.length - (intOf en).toNat)
  case atStart => exact ⟨st, 0, Nat.le_refl _, by omega, rfl, rfl, by omega, (show 0 = sumL (seg es st st) by simp [seg, sumL]), (show ∀ k, st < k → k < st → _ from fun k h1 h2 => by omega)⟩
  case round =>
    obtain ⟨E, t, hE1, hE2, rfl, rfl, ht, HT, HF⟩ := hrel
    by_cases hEn : E < es.length
    · obtain ⟨b', off', A, L, C, hA, hcl, he⟩ := HR.out.at hEn
      injection hA with hA
      injection hA with hA1 hA2
      subst hA1; subst hA2
      have hS := seg_step es st E hE1 hEn
      have hLs := len_le_sum es E hEn
      have hSl := seg_le es st (E + 1)
      rw [he] at hS hLs
      have hL : L ≤ 1048576 := Nat.le_trans hLs hs
      have hSl' : sumL (seg es st (E + 1)) ≤ 1048576 := Nat.le_trans hSl hs
      rw [hS, ← HT.out] at hSl'
      have htL : t + L ≤ 1048576 := hSl'
      have HS : Hid (t + L = sumL (seg es st (E + 1))) := by show t + L = _; rw [hS, HT.out]
      clear he hS hLs hSl hSl'
      by_cases hgo : E = st ∨ (t : Int) + L ≤ m
      · have HF2 : Hid (∀ k, st < k → k < E + 1 → ((sumL (seg es st (k + 1)) : Nat) : Int) ≤ m) := by
          intro k hk1 hk2
          by_cases e : k = E
          · subst e
            rw [← HS.out]
            rcases hgo with h | h <;> omega
          · exact HF.out k hk1 (by omega)
        by_cases hEs : E = st
        · have e1 : ((E : Int) == (st : Int)) = true := by rw [beq_iff_eq]; omega
          clear hgo hEs
          go_wp2
          go_round
          case rel => exact ⟨E + 1, t + L, by omega, by omega, by go_num, by go_num, htL, HS, HF2⟩
          case measure => simp [intOf]; omega
        · have e1 : ((E : Int) == (st : Int)) = false := by rw [beq_eq_false_iff_ne]; omega
          have hgo' : (t : Int) + L ≤ m := by rcases hgo with h | h; exact absurd h hEs; exact h
          clear hgo hEs
          go_wp2
          go_round
          case rel => exact ⟨E + 1, t + L, by omega, by omega, by go_num, by go_num, htL, HS, HF2⟩
          case measure => simp [intOf]; omega
      · have e1 : ((E : Int) == (st : Int)) = false := by rw [beq_eq_false_iff_ne]; omega
        have hgo' : ¬ (t : Int) + L ≤ m := fun h => hgo (.inr h)
        have HP : Hid (Page es m st E) := ⟨by omega, hE2, HF.out, fun _ => by rw [← HS.out]; omega⟩
        have hlo : st < E := by omega
        have HC := copy_seg b off c es st E w hn hE2 HR.out
        have HC' : Hid (Calls Try.prog 27 #[.slice (some ⟨b, off + st, none⟩) (E - st) (c - st)] w fun e w' =>
          ∃ g cap, e = .returned (.slice (some ⟨g, 0, none⟩) (E - st) cap) ∧ w.heap.size ≤ g ∧ Row w' (some ⟨g, 0, none⟩) (seg es st E) ∧ Below w.heap.size w w') := HC
        clear hgo HC
        go_wp2_with fail
        refine HC'.out.mono ?_
        rintro e w1 ⟨g, cap, rfl, hg, hrow, hbel⟩
        have HX : Hid (FromR f i m es w (.returned (.tuple #[.slice (some ⟨g, 0, none⟩) (E - st) cap, .bool true])) w1) := ⟨hbel, .inr (.inr ⟨st, E, g, cap, HST.out, HP.out, rfl, hg, hrow⟩)⟩
        clear hg hrow hbel HC' HR
        go_wp2
        go_ret2
        exact HX.out
    · obtain rfl : E = es.length := by omega
      have HP : Hid (Page es m st es.length) := ⟨by omega, Nat.le_refl _, HF.out, fun h => by omega⟩
      have HC := copy_seg b off c es st es.length w hn hE2 HR.out
      have HC' : Hid (Calls Try.prog 27 #[.slice (some ⟨b, off + st, none⟩) (es.length - st) (c - st)] w fun e w' =>
        ∃ g cap, e = .returned (.slice (some ⟨g, 0, none⟩) (es.length - st) cap) ∧ w.heap.size ≤ g ∧ Row w' (some ⟨g, 0, none⟩) (seg es st es.length) ∧ Below w.heap.size w w') := HC
      clear HC
      go_wp2_with fail
      refine HC'.out.mono ?_
      rintro e w1 ⟨g, cap, rfl, hg, hrow, hbel⟩
      have HX : Hid (FromR f i m es w (.returned (.tuple #[.slice (some ⟨g, 0, none⟩) (es.length - st) cap, .bool true])) w1) := ⟨hbel, .inr (.inr ⟨st, es.length, g, cap, HST.out, HP.out, rfl, hg, hrow⟩)⟩
      clear hg hrow hbel HC' HR
      go_wp2
      go_ret2
      exact HX.out

set_option maxHeartbeats 400000 in
theorem from_below (B f i : Nat) (m s : Int) (a : Option Addr) (c : Nat) (es : List Hd) (w : World) (hlt : i < f) (hB : w.rowIs B 43 3 (recF f (.slice a es.length c) s)) :
    Calls Try.prog 24 #[.pointer (some ⟨B, 0, none⟩), .int .u64 i, .int .i64 m] w (FromR f i m es w) := by
  have c0 : w.cell? ⟨B, 0, none⟩ = some (.int .u64 f) := hB.cell (by omega)
  have HX : Hid (FromR f i m es w (.returned (.tuple #[.slice none 0 0, .bool false])) w) := ⟨Below.refl _ _, .inl ⟨hlt, rfl⟩⟩
  clear hB
  go_enter Try.func24, Try.ntmps24
  go_wp2
  go_ret2
  exact HX.out

set_option maxHeartbeats 400000 in
theorem from_past (B f i : Nat) (m s : Int) (a : Option Addr) (c : Nat) (es : List Hd) (w : World) (hn : es.length ≤ 1048576) (hi : i ≤ 18446744073709551615) (hge : f + es.length ≤ i) (hB : w.rowIs B 43 3 (recF f (.slice a es.length c) s)) :
    Calls Try.prog 24 #[.pointer (some ⟨B, 0, none⟩), .int .u64 i, .int .i64 m] w (FromR f i m es w) := by
  have c0 : w.cell? ⟨B, 0, none⟩ = some (.int .u64 f) := hB.cell (by omega)
  have c1 : w.cell? ⟨B, 1, none⟩ = some (.slice a es.length c) := hB.cell (by omega)
  have HX : Hid (FromR f i m es w (.returned (.tuple #[.slice none 0 0, .bool true])) w) := ⟨Below.refl _ _, .inr (.inl ⟨hge, rfl⟩)⟩
  clear hB
  go_enter Try.func24, Try.ntmps24
  go_wp2
  go_ret2
  exact HX.out

theorem from_any (B f i : Nat) (m s : Int) (a : Option Addr) (c : Nat) (es : List Hd) (w : World) (hn : es.length ≤ 1048576) (hs : sumL es ≤ 1048576) (hc : es.length ≤ c) (hc2 : c ≤ maxLen) (hi : i ≤ 18446744073709551615)
    (hm : -9223372036854775808 ≤ m ∧ m ≤ 9223372036854775807) (hB : w.rowIs B 43 3 (recF f (.slice a es.length c) s)) (hr : Row w a es) :
    Calls Try.prog 24 #[.pointer (some ⟨B, 0, none⟩), .int .u64 i, .int .i64 m] w (FromR f i m es w) := by
  by_cases h1 : i < f
  · exact from_below B f i m s a c es w h1 hB
  · by_cases h2 : f + es.length ≤ i
    · exact from_past B f i m s a c es w hn hi h2 hB
    · obtain ⟨b, off, rfl, _⟩ := hr (i - f) (by omega)
      exact from_page B f i (i - f) m s b off c es w hn hs hc hc2 hi hm (by omega) (by omega) hB hr

theorem FromR.up {f i : Nat} {m : Int} {es : List Hd} {w w0 w' : World} {e : Ending} (h : FromR f i m es w0 e w') (hb : Below w.heap.size w w0) : FromR f i m es w e w' := by
  obtain ⟨h1, h2⟩ := h
  have hs := hb.size
  refine ⟨hb.trans (h1.mono hs), ?_⟩
  rcases h2 with h | h | ⟨st, E, g, cap, g1, g2, g3, g4, g5⟩
  · exact .inl h
  · exact .inr (.inl h)
  · exact .inr (.inr ⟨st, E, g, cap, g1, g2, g3, by omega, g5⟩)

set_option maxHeartbeats 400000 in
/-- ZZRecentFromB1 upon whatever row. -/
theorem zzFrom (f i : Nat) (m s : Int) (a : Option Addr) (c : Nat) (es : List Hd) (w : World) (hn : es.length ≤ 1048576) (hs : sumL es ≤ 1048576) (hc : es.length ≤ c) (hc2 : c ≤ maxLen) (hi : i ≤ 18446744073709551615)
    (hm : -9223372036854775808 ≤ m ∧ m ≤ 9223372036854775807) (hr : Row w a es) :
    Calls Try.prog 12 #[.int .u64 f, .slice a es.length c, .int .i64 s, .int .u64 i, .int .i64 m] w (FromR f i m es w) := by
  have HB : Hid (Below w.heap.size w (w.alloc (.cells #[.int .u64 f, .slice a es.length c, .int .i64 s] 43))) := (Below.refl _ _).alloc (Nat.le_refl _) _
  have H := from_any w.heap.size f i m s a c es (w.alloc (.cells #[.int .u64 f, .slice a es.length c, .int .i64 s] 43)) hn hs hc hc2 hi hm (rec_new _ _ _ _) (hr.below HB.out)
  have HC : Hid (Calls Try.prog 24 #[.pointer (some ⟨w.heap.size, 0, none⟩), .int .u64 i, .int .i64 m] (w.alloc (.cells #[.int .u64 f, .slice a es.length c, .int .i64 s] 43)) (FromR f i m es (w.alloc (.cells #[.int .u64 f, .slice a es.length c, .int .i64 s] 43)))) := H
  clear H hr hm
  go_enter Try.func12, Try.ntmps12
  go_wp2_with fail
  refine HC.out.mono ?_
  intro e w1 hR
  have hR' := hR.up HB.out
  clear HC HB hR
  obtain ⟨v, r, he⟩ : ∃ v r, e = .returned (.tuple #[v, .bool r]) := by
    rcases hR'.2 with ⟨_, h⟩ | ⟨_, h⟩ | ⟨st, E, g, cap, _, _, h, _⟩
    · exact ⟨_, _, h⟩
    · exact ⟨_, _, h⟩
    · exact ⟨_, _, h⟩
  subst he
  have HX : Hid (FromR f i m es w (.returned (.tuple #[v, .bool r])) w1) := hR'
  clear hR'
  go_wp2
  go_ret2
  exact HX.out
end Go.Proofs.Qxb6602402a
