/-
  The byte counts of several lists of strings: 24 (three), 19 and 32 (two): each returns, and only reads.
-/
import Derived.Test.Qxb6603349aBase
namespace Go.Proofs.Qxb6603349a
open Go.RowKit
set_option linter.unusedVariables false

set_option maxHeartbeats 1000000 in
set_option maxRecDepth 100000 in
theorem bytes24 (a0 : Option Addr) (len0 cap0 : Nat) (ss0 : List ByteArray) (a1 : Option Addr) (len1 cap1 : Nat) (ss1 : List ByteArray) (a2 : Option Addr) (len2 cap2 : Nat) (ss2 : List ByteArray) (w : World) (h0 : StrArg w a0 len0 ss0) (h1 : StrArg w a1 len1 ss1) (h2 : StrArg w a2 len2 ss2) :
    Calls Try.prog 24 #[.slice a0 len0 cap0, .slice a1 len1 cap1, .slice a2 len2 cap2] w fun e w' => RetBool e ∧ w' = w := by
  obtain ⟨_, m0, _, q0⟩ := h0
  unfold maxLen at m0
  obtain ⟨_, m1, _, q1⟩ := h1
  unfold maxLen at m1
  obtain ⟨_, m2, _, q2⟩ := h2
  unfold maxLen at m2
  go_enter Try.func24, Try.ntmps24
  by_cases hb0 : 1048576 < len0
  · go_wp2
    go_ret; exact ⟨RetBool.mk _, rfl⟩
  by_cases hbig0 : 1048576 < (len0 : Int)
  · go_wp2
    go_ret; exact ⟨RetBool.mk _, rfl⟩
  go_wp2
  go_loop [7, 8] (fun n i => ∃ k : Nat, ∃ t : Int, k ≤ len0 ∧ 0 ≤ t ∧ t ≤ 1048576 ∧ i = .int .i64 k ∧ n = .int .i64 t) (fun _ i => len0 - (intOf i).toNat)
  case atStart => exact ⟨0, (len0 : Int), Nat.zero_le _, by omega, by omega, rfl, by go_num⟩
  case round =>
    obtain ⟨k0, t0, hk0, ht00, ht10, rfl, rfl⟩ := hrel
    by_cases hlt : k0 < len0
    · obtain ⟨b, off, rfl, hc⟩ := q0 (by omega)
      have hcell := hc k0 hlt
      obtain ⟨s, hs⟩ : ∃ s, s = ss0.getD k0 ByteArray.empty := ⟨_, rfl⟩
      rw [← hs] at hcell
      clear hc hs q0 q1 q2
      by_cases hl1 : 1048576 < s.size
      · go_wp2
        go_ret; exact ⟨RetBool.mk _, rfl⟩
      · by_cases hl2 : 1048576 < t0 + s.size
        · go_wp2
          go_ret; exact ⟨RetBool.mk _, rfl⟩
        · go_wp2
          go_round
          case rel => exact ⟨k0 + 1, t0 + s.size, by omega, by omega, by omega, by go_num, by go_num⟩
          case measure => simp [intOf]; omega
    · have hlt0 := hlt
      clear hlt
      by_cases hb1 : 1048576 < len1
      · go_wp2
        go_ret; exact ⟨RetBool.mk _, rfl⟩
      by_cases hbig1 : 1048576 < t0 + (len1 : Int)
      · go_wp2
        go_ret; exact ⟨RetBool.mk _, rfl⟩
      go_wp2
      go_loop [7, 9] (fun n i => ∃ k : Nat, ∃ t : Int, k ≤ len1 ∧ 0 ≤ t ∧ t ≤ 1048576 ∧ i = .int .i64 k ∧ n = .int .i64 t) (fun _ i => len1 - (intOf i).toNat)
      case atStart => exact ⟨0, t0 + len1, Nat.zero_le _, by omega, by omega, rfl, by go_num⟩
      case round =>
        obtain ⟨k1, t1, hk1, ht01, ht11, rfl, rfl⟩ := hrel
        by_cases hlt : k1 < len1
        · obtain ⟨b, off, rfl, hc⟩ := q1 (by omega)
          have hcell := hc k1 hlt
          obtain ⟨s, hs⟩ : ∃ s, s = ss1.getD k1 ByteArray.empty := ⟨_, rfl⟩
          rw [← hs] at hcell
          clear hc hs q0 q1 q2
          by_cases hl1 : 1048576 < s.size
          · go_wp2
            go_ret; exact ⟨RetBool.mk _, rfl⟩
          · by_cases hl2 : 1048576 < t1 + s.size
            · go_wp2
              go_ret; exact ⟨RetBool.mk _, rfl⟩
            · go_wp2
              go_round
              case rel => exact ⟨k1 + 1, t1 + s.size, by omega, by omega, by omega, by go_num, by go_num⟩
              case measure => simp [intOf]; omega
        · have hlt1 := hlt
          clear hlt
          by_cases hb2 : 1048576 < len2
          · go_wp2
            go_ret; exact ⟨RetBool.mk _, rfl⟩
          by_cases hbig2 : 1048576 < t1 + (len2 : Int)
          · go_wp2
            go_ret; exact ⟨RetBool.mk _, rfl⟩
          go_wp2
          go_loop [7, 10] (fun n i => ∃ k : Nat, ∃ t : Int, k ≤ len2 ∧ 0 ≤ t ∧ t ≤ 1048576 ∧ i = .int .i64 k ∧ n = .int .i64 t) (fun _ i => len2 - (intOf i).toNat)
          case atStart => exact ⟨0, t1 + len2, Nat.zero_le _, by omega, by omega, rfl, by go_num⟩
          case round =>
            obtain ⟨k2, t2, hk2, ht02, ht12, rfl, rfl⟩ := hrel
            by_cases hlt : k2 < len2
            · obtain ⟨b, off, rfl, hc⟩ := q2 (by omega)
              have hcell := hc k2 hlt
              obtain ⟨s, hs⟩ : ∃ s, s = ss2.getD k2 ByteArray.empty := ⟨_, rfl⟩
              rw [← hs] at hcell
              clear hc hs q0 q1 q2
              by_cases hl1 : 1048576 < s.size
              · go_wp2
                go_ret; exact ⟨RetBool.mk _, rfl⟩
              · by_cases hl2 : 1048576 < t2 + s.size
                · go_wp2
                  go_ret; exact ⟨RetBool.mk _, rfl⟩
                · go_wp2
                  go_round
                  case rel => exact ⟨k2 + 1, t2 + s.size, by omega, by omega, by omega, by go_num, by go_num⟩
                  case measure => simp [intOf]; omega
            · have hlt2 := hlt
              clear hlt
              go_wp2
              go_ret; exact ⟨RetBool.mk _, rfl⟩

set_option maxHeartbeats 1000000 in
set_option maxRecDepth 100000 in
theorem bytes19 (a0 : Option Addr) (len0 cap0 : Nat) (ss0 : List ByteArray) (a1 : Option Addr) (len1 cap1 : Nat) (ss1 : List ByteArray) (w : World) (h0 : StrArg w a0 len0 ss0) (h1 : StrArg w a1 len1 ss1) :
    Calls Try.prog 19 #[.slice a0 len0 cap0, .slice a1 len1 cap1] w fun e w' => RetBool e ∧ w' = w := by
  obtain ⟨_, m0, _, q0⟩ := h0
  unfold maxLen at m0
  obtain ⟨_, m1, _, q1⟩ := h1
  unfold maxLen at m1
  go_enter Try.func19, Try.ntmps19
  by_cases hb0 : 1048576 < len0
  · go_wp2
    go_ret; exact ⟨RetBool.mk _, rfl⟩
  by_cases hbig0 : 1048576 < (len0 : Int)
  · go_wp2
    go_ret; exact ⟨RetBool.mk _, rfl⟩
  go_wp2
  go_loop [5, 6] (fun n i => ∃ k : Nat, ∃ t : Int, k ≤ len0 ∧ 0 ≤ t ∧ t ≤ 1048576 ∧ i = .int .i64 k ∧ n = .int .i64 t) (fun _ i => len0 - (intOf i).toNat)
  case atStart => exact ⟨0, (len0 : Int), Nat.zero_le _, by omega, by omega, rfl, by go_num⟩
  case round =>
    obtain ⟨k0, t0, hk0, ht00, ht10, rfl, rfl⟩ := hrel
    by_cases hlt : k0 < len0
    · obtain ⟨b, off, rfl, hc⟩ := q0 (by omega)
      have hcell := hc k0 hlt
      obtain ⟨s, hs⟩ : ∃ s, s = ss0.getD k0 ByteArray.empty := ⟨_, rfl⟩
      rw [← hs] at hcell
      clear hc hs q0 q1
      by_cases hl1 : 1048576 < s.size
      · go_wp2
        go_ret; exact ⟨RetBool.mk _, rfl⟩
      · by_cases hl2 : 1048576 < t0 + s.size
        · go_wp2
          go_ret; exact ⟨RetBool.mk _, rfl⟩
        · go_wp2
          go_round
          case rel => exact ⟨k0 + 1, t0 + s.size, by omega, by omega, by omega, by go_num, by go_num⟩
          case measure => simp [intOf]; omega
    · have hlt0 := hlt
      clear hlt
      by_cases hb1 : 1048576 < len1
      · go_wp2
        go_ret; exact ⟨RetBool.mk _, rfl⟩
      by_cases hbig1 : 1048576 < t0 + (len1 : Int)
      · go_wp2
        go_ret; exact ⟨RetBool.mk _, rfl⟩
      go_wp2
      go_loop [5, 7] (fun n i => ∃ k : Nat, ∃ t : Int, k ≤ len1 ∧ 0 ≤ t ∧ t ≤ 1048576 ∧ i = .int .i64 k ∧ n = .int .i64 t) (fun _ i => len1 - (intOf i).toNat)
      case atStart => exact ⟨0, t0 + len1, Nat.zero_le _, by omega, by omega, rfl, by go_num⟩
      case round =>
        obtain ⟨k1, t1, hk1, ht01, ht11, rfl, rfl⟩ := hrel
        by_cases hlt : k1 < len1
        · obtain ⟨b, off, rfl, hc⟩ := q1 (by omega)
          have hcell := hc k1 hlt
          obtain ⟨s, hs⟩ : ∃ s, s = ss1.getD k1 ByteArray.empty := ⟨_, rfl⟩
          rw [← hs] at hcell
          clear hc hs q0 q1
          by_cases hl1 : 1048576 < s.size
          · go_wp2
            go_ret; exact ⟨RetBool.mk _, rfl⟩
          · by_cases hl2 : 1048576 < t1 + s.size
            · go_wp2
              go_ret; exact ⟨RetBool.mk _, rfl⟩
            · go_wp2
              go_round
              case rel => exact ⟨k1 + 1, t1 + s.size, by omega, by omega, by omega, by go_num, by go_num⟩
              case measure => simp [intOf]; omega
        · have hlt1 := hlt
          clear hlt
          go_wp2
          go_ret; exact ⟨RetBool.mk _, rfl⟩

set_option maxHeartbeats 1000000 in
set_option maxRecDepth 100000 in
theorem bytes32 (a0 : Option Addr) (len0 cap0 : Nat) (ss0 : List ByteArray) (a1 : Option Addr) (len1 cap1 : Nat) (ss1 : List ByteArray) (w : World) (h0 : StrArg w a0 len0 ss0) (h1 : StrArg w a1 len1 ss1) :
    Calls Try.prog 32 #[.slice a0 len0 cap0, .slice a1 len1 cap1] w fun e w' => RetBool e ∧ w' = w := by
  obtain ⟨_, m0, _, q0⟩ := h0
  unfold maxLen at m0
  obtain ⟨_, m1, _, q1⟩ := h1
  unfold maxLen at m1
  go_enter Try.func32, Try.ntmps32
  by_cases hb0 : 1048576 < len0
  · go_wp2
    go_ret; exact ⟨RetBool.mk _, rfl⟩
  by_cases hbig0 : 1048576 < (len0 : Int)
  · go_wp2
    go_ret; exact ⟨RetBool.mk _, rfl⟩
  go_wp2
  go_loop [5, 6] (fun n i => ∃ k : Nat, ∃ t : Int, k ≤ len0 ∧ 0 ≤ t ∧ t ≤ 1048576 ∧ i = .int .i64 k ∧ n = .int .i64 t) (fun _ i => len0 - (intOf i).toNat)
  case atStart => exact ⟨0, (len0 : Int), Nat.zero_le _, by omega, by omega, rfl, by go_num⟩
  case round =>
    obtain ⟨k0, t0, hk0, ht00, ht10, rfl, rfl⟩ := hrel
    by_cases hlt : k0 < len0
    · obtain ⟨b, off, rfl, hc⟩ := q0 (by omega)
      have hcell := hc k0 hlt
      obtain ⟨s, hs⟩ : ∃ s, s = ss0.getD k0 ByteArray.empty := ⟨_, rfl⟩
      rw [← hs] at hcell
      clear hc hs q0 q1
      by_cases hl1 : 1048576 < s.size
      · go_wp2
        go_ret; exact ⟨RetBool.mk _, rfl⟩
      · by_cases hl2 : 1048576 < t0 + s.size
        · go_wp2
          go_ret; exact ⟨RetBool.mk _, rfl⟩
        · go_wp2
          go_round
          case rel => exact ⟨k0 + 1, t0 + s.size, by omega, by omega, by omega, by go_num, by go_num⟩
          case measure => simp [intOf]; omega
    · have hlt0 := hlt
      clear hlt
      by_cases hb1 : 1048576 < len1
      · go_wp2
        go_ret; exact ⟨RetBool.mk _, rfl⟩
      by_cases hbig1 : 1048576 < t0 + (len1 : Int)
      · go_wp2
        go_ret; exact ⟨RetBool.mk _, rfl⟩
      go_wp2
      go_loop [5, 7] (fun n i => ∃ k : Nat, ∃ t : Int, k ≤ len1 ∧ 0 ≤ t ∧ t ≤ 1048576 ∧ i = .int .i64 k ∧ n = .int .i64 t) (fun _ i => len1 - (intOf i).toNat)
      case atStart => exact ⟨0, t0 + len1, Nat.zero_le _, by omega, by omega, rfl, by go_num⟩
      case round =>
        obtain ⟨k1, t1, hk1, ht01, ht11, rfl, rfl⟩ := hrel
        by_cases hlt : k1 < len1
        · obtain ⟨b, off, rfl, hc⟩ := q1 (by omega)
          have hcell := hc k1 hlt
          obtain ⟨s, hs⟩ : ∃ s, s = ss1.getD k1 ByteArray.empty := ⟨_, rfl⟩
          rw [← hs] at hcell
          clear hc hs q0 q1
          by_cases hl1 : 1048576 < s.size
          · go_wp2
            go_ret; exact ⟨RetBool.mk _, rfl⟩
          · by_cases hl2 : 1048576 < t1 + s.size
            · go_wp2
              go_ret; exact ⟨RetBool.mk _, rfl⟩
            · go_wp2
              go_round
              case rel => exact ⟨k1 + 1, t1 + s.size, by omega, by omega, by omega, by go_num, by go_num⟩
              case measure => simp [intOf]; omega
        · have hlt1 := hlt
          clear hlt
          go_wp2
          go_ret; exact ⟨RetBool.mk _, rfl⟩

end Go.Proofs.Qxb6603349a
