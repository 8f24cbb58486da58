import Derived.Test.Qxb6602402aBase
namespace Go.Proofs.Qxb6602402a
open Go.RowKit

set_option maxHeartbeats 400000 in
theorem zz18 (f s u : Int) (a : Option Addr) (c : Nat) (es : List Hd) (w : World) (hl : es.length ≤ maxLen) (hel : ∀ h, h ∈ es → h.n ≤ maxLen) (hr : Row w a es) :
    Calls Try.prog 18 #[.int .u64 f, .slice a es.length c, .int .i64 s, .int .u64 u] w fun e w' => IsBool e ∧ w' = w := by
  have HR : Hid (Row w a es) := hr
  have HE : Hid (∀ h, h ∈ es → h.n ≤ maxLen) := hel
  clear hr hel
  unfold maxLen at hl
  go_enter Try.func18, Try.ntmps18
  go_wp2
  all_goals try (go_ret; exact ⟨isBool _, rfl⟩)
  go_loop [9, 10] (fun z i => ∃ (k : Nat) (t : Int), k ≤ es.length ∧ i = .int .i64 k ∧ z = .int .i64 t ∧ 0 ≤ t ∧ t ≤ 1048576) (fun _ i => es.length - (intOf i).toNat)
  case atStart => exact ⟨0, _, Nat.zero_le _, rfl, rfl, by omega, by omega⟩
  case round =>
    obtain ⟨k, t, hk, rfl, rfl, ht0, ht1⟩ := hrel
    by_cases hlt : k < es.length
    · obtain ⟨b, off, A, L, C, rfl, hc, he⟩ := HR.out.at hlt
      have hL := HE.out _ (getD_mem es k hlt)
      rw [he] at hL
      have hL' : L ≤ 9223372036854775807 := hL
      clear he hL
      go_wp2
      all_goals first
        | (go_ret; exact ⟨isBool _, rfl⟩)
        | (go_round
           case rel => exact ⟨k + 1, _, by omega, by go_num, rfl, by omega, by omega⟩
           case measure => simp [intOf]; omega)
    · go_wp2
      go_ret; exact ⟨isBool _, rfl⟩

set_option maxHeartbeats 400000 in
theorem zz9 (f s x m : Int) (a : Option Addr) (c : Nat) (es : List Hd) (w : World) (hl : es.length ≤ maxLen) (hel : ∀ h, h ∈ es → h.n ≤ maxLen) (hr : Row w a es) :
    Calls Try.prog 9 #[.int .u64 f, .slice a es.length c, .int .i64 s, .int .u64 x, .int .i64 m] w fun e w' => IsBool e ∧ w' = w := by
  have HR : Hid (Row w a es) := hr
  have HE : Hid (∀ h, h ∈ es → h.n ≤ maxLen) := hel
  clear hr hel
  unfold maxLen at hl
  go_enter Try.func9, Try.ntmps9
  go_wp2
  all_goals try (go_ret; exact ⟨isBool _, rfl⟩)
  go_loop [11, 12] (fun z i => ∃ (k : Nat) (t : Int), k ≤ es.length ∧ i = .int .i64 k ∧ z = .int .i64 t ∧ 0 ≤ t ∧ t ≤ 1048576) (fun _ i => es.length - (intOf i).toNat)
  case atStart => exact ⟨0, _, Nat.zero_le _, rfl, rfl, by omega, by omega⟩
  case round =>
    obtain ⟨k, t, hk, rfl, rfl, ht0, ht1⟩ := hrel
    by_cases hlt : k < es.length
    · obtain ⟨b, off, A, L, C, rfl, hc, he⟩ := HR.out.at hlt
      have hL := HE.out _ (getD_mem es k hlt)
      rw [he] at hL
      have hL' : L ≤ 9223372036854775807 := hL
      clear he hL
      go_wp2
      all_goals first
        | (go_ret; exact ⟨isBool _, rfl⟩)
        | (go_round
           case rel => exact ⟨k + 1, _, by omega, by go_num, rfl, by omega, by omega⟩
           case measure => simp [intOf]; omega)
    · go_wp2
      go_ret; exact ⟨isBool _, rfl⟩

set_option maxHeartbeats 400000 in
theorem zz15 (f s u x m : Int) (a : Option Addr) (c : Nat) (es : List Hd) (w : World) (hl : es.length ≤ maxLen) (hel : ∀ h, h ∈ es → h.n ≤ maxLen) (hr : Row w a es) :
    Calls Try.prog 15 #[.int .u64 f, .slice a es.length c, .int .i64 s, .int .u64 u, .int .u64 x, .int .i64 m] w fun e w' => IsBool e ∧ w' = w := by
  have HR : Hid (Row w a es) := hr
  have HE : Hid (∀ h, h ∈ es → h.n ≤ maxLen) := hel
  clear hr hel
  unfold maxLen at hl
  go_enter Try.func15, Try.ntmps15
  go_wp2
  all_goals try (go_ret; exact ⟨isBool _, rfl⟩)
  go_loop [13, 14] (fun z i => ∃ (k : Nat) (t : Int), k ≤ es.length ∧ i = .int .i64 k ∧ z = .int .i64 t ∧ 0 ≤ t ∧ t ≤ 1048576) (fun _ i => es.length - (intOf i).toNat)
  case atStart => exact ⟨0, _, Nat.zero_le _, rfl, rfl, by omega, by omega⟩
  case round =>
    obtain ⟨k, t, hk, rfl, rfl, ht0, ht1⟩ := hrel
    by_cases hlt : k < es.length
    · obtain ⟨b, off, A, L, C, rfl, hc, he⟩ := HR.out.at hlt
      have hL := HE.out _ (getD_mem es k hlt)
      rw [he] at hL
      have hL' : L ≤ 9223372036854775807 := hL
      clear he hL
      go_wp2
      all_goals first
        | (go_ret; exact ⟨isBool _, rfl⟩)
        | (go_round
           case rel => exact ⟨k + 1, _, by omega, by go_num, rfl, by omega, by omega⟩
           case measure => simp [intOf]; omega)
    · go_wp2
      go_ret; exact ⟨isBool _, rfl⟩

set_option maxHeartbeats 400000 in
theorem zz20 (f s : Int) (a a2 : Option Addr) (c c2 : Nat) (es bs : List Hd) (w : World) (hl : es.length ≤ maxLen) (hel : ∀ h, h ∈ es → h.n ≤ maxLen) (hr : Row w a es)
    (hl2 : bs.length ≤ maxLen) (hel2 : ∀ h, h ∈ bs → h.n ≤ maxLen) (hr2 : Row w a2 bs) :
    Calls Try.prog 20 #[.int .u64 f, .slice a es.length c, .int .i64 s, .slice a2 bs.length c2] w fun e w' => IsBool e ∧ w' = w := by
  have HR : Hid (Row w a es) := hr
  have HE : Hid (∀ h, h ∈ es → h.n ≤ maxLen) := hel
  have HR2 : Hid (Row w a2 bs) := hr2
  have HE2 : Hid (∀ h, h ∈ bs → h.n ≤ maxLen) := hel2
  clear hr hel hr2 hel2
  unfold maxLen at hl hl2
  go_enter Try.func20, Try.ntmps20
  go_wp2
  all_goals try (go_ret; exact ⟨isBool _, rfl⟩)
  go_loop [9, 10] (fun z i => ∃ (k : Nat) (t : Int), k ≤ es.length ∧ i = .int .i64 k ∧ z = .int .i64 t ∧ 0 ≤ t ∧ t ≤ 1048576) (fun _ i => es.length - (intOf i).toNat)
  case atStart => exact ⟨0, _, Nat.zero_le _, rfl, rfl, by omega, by omega⟩
  case round =>
    obtain ⟨k, t, hk, rfl, rfl, ht0, ht1⟩ := hrel
    by_cases hlt : k < es.length
    · obtain ⟨b, off, A, L, C, rfl, hc, he⟩ := HR.out.at hlt
      have hL := HE.out _ (getD_mem es k hlt)
      rw [he] at hL
      have hL' : L ≤ 9223372036854775807 := hL
      clear he hL
      go_wp2
      all_goals first
        | (go_ret; exact ⟨isBool _, rfl⟩)
        | (go_round
           case rel => exact ⟨k + 1, _, by omega, by go_num, rfl, by omega, by omega⟩
           case measure => simp [intOf]; omega)
    · go_wp2
      all_goals try (go_ret; exact ⟨isBool _, rfl⟩)
      go_loop [9, 11] (fun z i => ∃ (k : Nat) (t : Int), k ≤ bs.length ∧ i = .int .i64 k ∧ z = .int .i64 t ∧ 0 ≤ t ∧ t ≤ 1048576) (fun _ i => bs.length - (intOf i).toNat)
      case atStart => exact ⟨0, _, Nat.zero_le _, rfl, rfl, by omega, by omega⟩
      case round =>
        obtain ⟨k2, t2, hk2, rfl, rfl, ht02, ht12⟩ := hrel
        by_cases hlt2 : k2 < bs.length
        · obtain ⟨b, off, A, L, C, rfl, hc, he⟩ := HR2.out.at hlt2
          have hL := HE2.out _ (getD_mem bs k2 hlt2)
          rw [he] at hL
          have hL' : L ≤ 9223372036854775807 := hL
          clear he hL
          go_wp2
          all_goals first
            | (go_ret; exact ⟨isBool _, rfl⟩)
            | (go_round
               case rel => exact ⟨k2 + 1, _, by omega, by go_num, rfl, by omega, by omega⟩
               case measure => simp [intOf]; omega)
        · go_wp2
          go_ret; exact ⟨isBool _, rfl⟩

set_option maxHeartbeats 400000 in
theorem zz23 (f s m : Int) (a a2 : Option Addr) (c c2 : Nat) (es bs : List Hd) (w : World) (hl : es.length ≤ maxLen) (hel : ∀ h, h ∈ es → h.n ≤ maxLen) (hr : Row w a es)
    (hl2 : bs.length ≤ maxLen) (hel2 : ∀ h, h ∈ bs → h.n ≤ maxLen) (hr2 : Row w a2 bs) :
    Calls Try.prog 23 #[.int .u64 f, .slice a es.length c, .int .i64 s, .slice a2 bs.length c2, .int .i64 m] w fun e w' => IsBool e ∧ w' = w := by
  have HR : Hid (Row w a es) := hr
  have HE : Hid (∀ h, h ∈ es → h.n ≤ maxLen) := hel
  have HR2 : Hid (Row w a2 bs) := hr2
  have HE2 : Hid (∀ h, h ∈ bs → h.n ≤ maxLen) := hel2
  clear hr hel hr2 hel2
  unfold maxLen at hl hl2
  go_enter Try.func23, Try.ntmps23
  go_wp2
  all_goals try (go_ret; exact ⟨isBool _, rfl⟩)
  go_loop [11, 12] (fun z i => ∃ (k : Nat) (t : Int), k ≤ es.length ∧ i = .int .i64 k ∧ z = .int .i64 t ∧ 0 ≤ t ∧ t ≤ 1048576) (fun _ i => es.length - (intOf i).toNat)
  case atStart => exact ⟨0, _, Nat.zero_le _, rfl, rfl, by omega, by omega⟩
  case round =>
    obtain ⟨k, t, hk, rfl, rfl, ht0, ht1⟩ := hrel
    by_cases hlt : k < es.length
    · obtain ⟨b, off, A, L, C, rfl, hc, he⟩ := HR.out.at hlt
      have hL := HE.out _ (getD_mem es k hlt)
      rw [he] at hL
      have hL' : L ≤ 9223372036854775807 := hL
      clear he hL
      go_wp2
      all_goals first
        | (go_ret; exact ⟨isBool _, rfl⟩)
        | (go_round
           case rel => exact ⟨k + 1, _, by omega, by go_num, rfl, by omega, by omega⟩
           case measure => simp [intOf]; omega)
    · go_wp2
      all_goals try (go_ret; exact ⟨isBool _, rfl⟩)
      go_loop [11, 13] (fun z i => ∃ (k : Nat) (t : Int), k ≤ bs.length ∧ i = .int .i64 k ∧ z = .int .i64 t ∧ 0 ≤ t ∧ t ≤ 1048576) (fun _ i => bs.length - (intOf i).toNat)
      case atStart => exact ⟨0, _, Nat.zero_le _, rfl, rfl, by omega, by omega⟩
      case round =>
        obtain ⟨k2, t2, hk2, rfl, rfl, ht02, ht12⟩ := hrel
        by_cases hlt2 : k2 < bs.length
        · obtain ⟨b, off, A, L, C, rfl, hc, he⟩ := HR2.out.at hlt2
          have hL := HE2.out _ (getD_mem bs k2 hlt2)
          rw [he] at hL
          have hL' : L ≤ 9223372036854775807 := hL
          clear he hL
          go_wp2
          all_goals first
            | (go_ret; exact ⟨isBool _, rfl⟩)
            | (go_round
               case rel => exact ⟨k2 + 1, _, by omega, by go_num, rfl, by omega, by omega⟩
               case measure => simp [intOf]; omega)
        · go_wp2
          go_ret; exact ⟨isBool _, rfl⟩

set_option maxHeartbeats 1000000 in
theorem fits (a a2 : Option Addr) (c c2 : Nat) (es bs : List Hd) (w : World) (hl : es.length ≤ maxLen) (hel : ∀ h, h ∈ es → h.n ≤ maxLen) (hr : Row w a es)
    (hl2 : bs.length ≤ maxLen) (hel2 : ∀ h, h ∈ bs → h.n ≤ maxLen) (hr2 : Row w a2 bs) :
    Calls Try.prog 10 #[.slice a es.length c, .slice a2 bs.length c2] w fun e w' => FitsR (24 * (es.length + bs.length) + sumL es + sumL bs) e ∧ w' = w := by
  have HR : Hid (Row w a es) := hr
  have HE : Hid (∀ h, h ∈ es → h.n ≤ maxLen) := hel
  have HR2 : Hid (Row w a2 bs) := hr2
  have HE2 : Hid (∀ h, h ∈ bs → h.n ≤ maxLen) := hel2
  clear hr hel hr2 hel2
  unfold maxLen at hl hl2
  by_cases h1 : 1048576 < es.length
  · go_enter Try.func10, Try.ntmps10
    go_wp2
    go_ret; exact ⟨fitsNo _, rfl⟩
  by_cases h2 : 1048576 < bs.length
  · go_enter Try.func10, Try.ntmps10
    go_wp2
    go_ret; exact ⟨fitsNo _, rfl⟩
  by_cases h3 : 1048576 < 24 * (es.length + bs.length)
  · go_enter Try.func10, Try.ntmps10
    go_wp2
    go_ret; exact ⟨fitsNo _, rfl⟩
  have d1 : decide (1048576 < (es.length : Int)) = false := by simp; omega
  have d2 : decide (1048576 < (bs.length : Int)) = false := by simp; omega
  have d3 : decide (1048576 < 24 * ((es.length : Int) + (bs.length : Int))) = false := by simp; omega
  go_enter Try.func10, Try.ntmps10
  go_wp2
  go_loop [5, 6] (fun z i => ∃ (k t : Nat), k ≤ es.length ∧ i = .int .i64 k ∧ z = .int .i64 t ∧ t ≤ 1048576 ∧ Hid (t = 24 * (es.length + bs.length) + sumL (es.take k))) (fun _ i => es.length - (intOf i).toNat)
  case atStart => exact ⟨0, 24 * (es.length + bs.length), Nat.zero_le _, rfl, by go_num, by omega, rfl⟩
  case round =>
    obtain ⟨k, t, hk, rfl, rfl, ht1, HT⟩ := hrel
    by_cases hlt : k < es.length
    · obtain ⟨b, off, A, L, C, rfl, hc, he⟩ := HR.out.at hlt
      have hL := HE.out _ (getD_mem es k hlt)
      have hS := sumL_take_succ es k hlt
      rw [he] at hL hS
      have hL' : L ≤ 9223372036854775807 := hL
      have HS : Hid (sumL (es.take (k + 1)) = sumL (es.take k) + L) := hS
      clear he hL hS
      go_wp2
      · go_ret; exact ⟨fitsNo _, rfl⟩
      · go_round
        case rel => exact ⟨k + 1, t + L, by omega, by go_num, by go_num, by omega, (show t + L = _ by rw [HS.out, HT.out]; omega)⟩
        case measure => simp [intOf]; omega
    · have HT2 : Hid (t = 24 * (es.length + bs.length) + sumL es) := by
        have h := HT.out
        rw [List.take_of_length_le (by omega)] at h
        exact h
      clear HT
      go_wp2
      go_loop [5, 7] (fun z i => ∃ (k t : Nat), k ≤ bs.length ∧ i = .int .i64 k ∧ z = .int .i64 t ∧ t ≤ 1048576 ∧ Hid (t = 24 * (es.length + bs.length) + sumL es + sumL (bs.take k))) (fun _ i => bs.length - (intOf i).toNat)
      case atStart => exact ⟨0, t, Nat.zero_le _, rfl, rfl, by omega, HT2⟩
      case round =>
        obtain ⟨k2, t2, hk2, rfl, rfl, ht12, HT3⟩ := hrel
        by_cases hlt2 : k2 < bs.length
        · obtain ⟨b, off, A, L, C, rfl, hc, he⟩ := HR2.out.at hlt2
          have hL := HE2.out _ (getD_mem bs k2 hlt2)
          have hS := sumL_take_succ bs k2 hlt2
          rw [he] at hL hS
          have hL' : L ≤ 9223372036854775807 := hL
          have HS : Hid (sumL (bs.take (k2 + 1)) = sumL (bs.take k2) + L) := hS
          clear he hL hS
          go_wp2
          · go_ret; exact ⟨fitsNo _, rfl⟩
          · go_round
            case rel => exact ⟨k2 + 1, t2 + L, by omega, by go_num, by go_num, by omega, (show t2 + L = _ by rw [HS.out, HT3.out]; omega)⟩
            case measure => simp [intOf]; omega
        · have HT4 : Hid (24 * (es.length + bs.length) + sumL es + sumL bs ≤ 1048576) := by
            have h := HT3.out
            rw [List.take_of_length_le (by omega)] at h
            show _ ≤ _
            omega
          go_wp2
          go_ret; exact ⟨fitsYes HT4.out, rfl⟩

end Go.Proofs.Qxb6602402a
