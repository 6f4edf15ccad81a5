/-
  The two functions that count a list of strings: 17 (zzBytes of the find script) and 8 (zzb1Bytes): each returns, and only reads.
-/
import Derived.Test.Qxb6603349aBase
namespace Go.Proofs.Qxb6603349a
open Go.RowKit

set_option maxHeartbeats 400000 in
theorem bytes17 (a : Option Addr) (len cap : Nat) (ss : List ByteArray) (w : World) (h : StrArg w a len ss) :
    Calls Try.prog 17 #[.slice a len cap] w fun e w' => RetBool e ∧ w' = w := by
  obtain ⟨h1, h2, h3, h4⟩ := h
  unfold maxLen at h2
  by_cases hbig : 1048576 < len
  · clear h4 h3
    go_enter Try.func17, Try.ntmps17
    go_wp2
    go_ret; exact ⟨RetBool.mk _, rfl⟩
  go_enter Try.func17, Try.ntmps17
  go_wp2
  go_loop [3, 4] (fun n i => ∃ k : Nat, ∃ t : Int, k ≤ len ∧ 0 ≤ t ∧ t ≤ 1048576 ∧ i = .int .i64 k ∧ n = .int .i64 t) (fun _ i => len - (intOf i).toNat)
  case atStart => exact ⟨0, len, Nat.zero_le _, by omega, by omega, rfl, rfl⟩
  case round =>
    obtain ⟨k, t, hk, ht0, ht1, rfl, rfl⟩ := hrel
    by_cases hlt : k < len
    · obtain ⟨b, off, rfl, hc⟩ := h4 (by omega)
      have hcell := hc k hlt
      obtain ⟨s, hs⟩ : ∃ s, s = ss.getD k ByteArray.empty := ⟨_, rfl⟩
      rw [← hs] at hcell
      clear hc h4 hs h3
      by_cases hl1 : 1048576 < s.size
      · go_wp2
        go_ret; exact ⟨RetBool.mk _, rfl⟩
      · by_cases hl2 : 1048576 < t + s.size
        · go_wp2
          go_ret; exact ⟨RetBool.mk _, rfl⟩
        · go_wp2
          go_round
          case rel => exact ⟨k + 1, t + s.size, by omega, by omega, by omega, by go_num, by go_num⟩
          case measure => simp [intOf]; omega
    · clear h4 h3
      go_wp2
      go_ret; exact ⟨RetBool.mk _, rfl⟩

set_option maxHeartbeats 400000 in
theorem bytes8 (a : Option Addr) (len cap : Nat) (ss : List ByteArray) (w : World) (h : StrArg w a len ss) :
    Calls Try.prog 8 #[.slice a len cap] w fun e w' => RetInt 0 1048577 e ∧ w' = w := by
  obtain ⟨h1, h2, h3, h4⟩ := h
  unfold maxLen at h2
  go_enter Try.func8, Try.ntmps8
  go_wp2
  go_loop [3, 4] (fun n i => ∃ k : Nat, ∃ t : Int, k ≤ len ∧ 0 ≤ t ∧ t ≤ 1048576 ∧ i = .int .i64 k ∧ n = .int .i64 t) (fun _ i => len - (intOf i).toNat)
  case atStart => exact ⟨0, 0, Nat.zero_le _, by omega, by omega, rfl, rfl⟩
  case round =>
    obtain ⟨k, t, hk, ht0, ht1, rfl, rfl⟩ := hrel
    by_cases hlt : k < len
    · obtain ⟨b, off, rfl, hc⟩ := h4 (by omega)
      have hcell := hc k hlt
      obtain ⟨s, hs⟩ : ∃ s, s = ss.getD k ByteArray.empty := ⟨_, rfl⟩
      rw [← hs] at hcell
      clear hc h4 hs h3
      by_cases hl1 : 1048576 < s.size
      · go_wp2
        go_ret; exact ⟨RetInt.mk (by omega) (by omega), rfl⟩
      · by_cases hl2 : 1048576 < t + (16 + s.size)
        · go_wp2
          go_ret; exact ⟨RetInt.mk (by omega) (by omega), rfl⟩
        · go_wp2
          go_round
          case rel => exact ⟨k + 1, t + (16 + s.size), by omega, by omega, by omega, by go_num, by go_num⟩
          case measure => simp [intOf]; omega
    · clear h4 h3
      go_wp2
      go_ret; exact ⟨RetInt.mk (by omega) (by omega), rfl⟩
end Go.Proofs.Qxb6603349a
