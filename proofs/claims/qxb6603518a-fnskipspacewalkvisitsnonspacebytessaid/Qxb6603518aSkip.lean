/-
  10, 7: skipSpace: the least place at or after i that holds no white byte. The plain function and her walk.
-/
import Derived.Test.Qxb6603518aParts
namespace Go.Proofs.Qxb6603518a
open Go.RowKit
set_option linter.unusedVariables false

/-- The least place at or after i that holds no white byte, n places looked at. -/
def skipN (zs : List Int) : Nat → Nat → Nat
  | 0, i => i
  | n + 1, i => if spB (zs.getD i 0) = true then skipN zs n (i + 1) else i

/-- The least place at or after i that holds no white byte (the length, or i, where there is none). -/
def skip (zs : List Int) (i : Nat) : Nat := skipN zs (zs.length - i) i

/-- The places at or after i that hold no white byte, n places looked at. -/
def nspN (zs : List Int) : Nat → Nat → List Nat
  | 0, _ => []
  | n + 1, i => if spB (zs.getD i 0) = true then nspN zs n (i + 1) else i :: nspN zs n (i + 1)

/-- The places at or after i that hold no white byte. -/
def nsp (zs : List Int) (i : Nat) : List Nat := nspN zs (zs.length - i) i

theorem skip_end {zs : List Int} {i : Nat} (h : ¬ i < zs.length) : skip zs i = i := by
  unfold skip
  rw [show zs.length - i = 0 from by omega]
  rfl
theorem skip_sp {zs : List Int} {i : Nat} (h : i < zs.length) (hs : spB (zs.getD i 0) = true) : skip zs i = skip zs (i + 1) := by
  unfold skip
  rw [show zs.length - i = (zs.length - (i + 1)) + 1 from by omega, skipN, if_pos hs]
theorem skip_at {zs : List Int} {i : Nat} (hs : spB (zs.getD i 0) = false) : skip zs i = i := by
  by_cases h : i < zs.length
  · unfold skip
    rw [show zs.length - i = (zs.length - (i + 1)) + 1 from by omega, skipN, if_neg (by rw [hs]; decide)]
  · exact skip_end h
theorem nsp_end {zs : List Int} {i : Nat} (h : ¬ i < zs.length) : nsp zs i = [] := by
  unfold nsp
  rw [show zs.length - i = 0 from by omega]
  rfl
theorem nsp_sp {zs : List Int} {i : Nat} (h : i < zs.length) (hs : spB (zs.getD i 0) = true) : nsp zs i = nsp zs (i + 1) := by
  unfold nsp
  rw [show zs.length - i = (zs.length - (i + 1)) + 1 from by omega, nspN, if_pos hs]
theorem nsp_at {zs : List Int} {i : Nat} (h : i < zs.length) (hs : spB (zs.getD i 0) = false) : nsp zs i = i :: nsp zs (i + 1) := by
  unfold nsp
  rw [show zs.length - i = (zs.length - (i + 1)) + 1 from by omega, nspN, if_neg (by rw [hs]; decide)]

theorem skip_facts (zs : List Int) : ∀ d i, zs.length - i = d → i ≤ zs.length → nsp zs (skip zs i) = nsp zs i ∧ i ≤ skip zs i ∧ skip zs i ≤ zs.length ∧ (skip zs i < zs.length → spB (zs.getD (skip zs i) 0) = false) := by
  intro d
  induction d with
  | zero =>
    intro i hd hi
    have h : ¬ i < zs.length := by omega
    rw [skip_end h]
    exact ⟨rfl, Nat.le_refl _, hi, fun h' => absurd h' h⟩
  | succ d ih =>
    intro i hd hi
    have h : i < zs.length := by omega
    cases hs : spB (zs.getD i 0) with
    | false => rw [skip_at hs]; exact ⟨rfl, Nat.le_refl _, hi, fun _ => hs⟩
    | true =>
      rw [skip_sp h hs, nsp_sp h hs]
      obtain ⟨h1, h2, h3, h4⟩ := ih (i + 1) (by omega) (by omega)
      exact ⟨h1, by omega, h3, h4⟩

theorem nsp_lt (zs : List Int) : ∀ d i, zs.length - i = d → ∀ k ∈ nsp zs i, k < zs.length := by
  intro d
  induction d with
  | zero => intro i hd k hk; rw [nsp_end (by omega)] at hk; cases hk
  | succ d ih =>
    intro i hd k hk
    have h : i < zs.length := by omega
    cases hs : spB (zs.getD i 0) with
    | true => rw [nsp_sp h hs] at hk; exact ih (i + 1) (by omega) k hk
    | false =>
      rw [nsp_at h hs] at hk
      rcases List.mem_cons.1 hk with rfl | hk
      · exact h
      · exact ih (i + 1) (by omega) k hk

theorem nsp_len (zs : List Int) : ∀ d i, zs.length - i = d → (nsp zs i).length ≤ d := by
  intro d
  induction d with
  | zero => intro i hd; rw [nsp_end (by omega)]; exact Nat.le_refl _
  | succ d ih =>
    intro i hd
    have h : i < zs.length := by omega
    have := ih (i + 1) (by omega)
    cases hs : spB (zs.getD i 0) with
    | true => rw [nsp_sp h hs]; omega
    | false => rw [nsp_at h hs]; simp; omega

theorem spB_cases {c : Int} (h : spB c = true) : c = 32 ∨ c = 9 ∨ c = 10 ∨ c = 13 := by
  simp [spB] at h
  omega
theorem spB_not {c : Int} (h : spB c = false) : (c == 32) = false ∧ (c == 9) = false ∧ (c == 10) = false ∧ (c == 13) = false := by
  simp only [spB, Bool.or_eq_false_iff] at h
  exact ⟨h.1.1.1, h.1.1.2, h.1.2, h.2⟩

set_option maxHeartbeats 1000000 in
theorem skip10 (a : Option Addr) (len cap : Nat) (zs : List Int) (n : Nat) (w : World) (h : BArg w a len zs) (hb : len ≤ 1048576) (hn : n ≤ 9223372036854775807) :
    Calls Try.prog 10 #[.slice a len cap, .int .i64 n] w fun e w' => e = .returned (.int .i64 (skip zs n)) ∧ w' = w := by
  obtain ⟨h1, h2, h3, h4⟩ := h
  have HL : Hid (zs.length = len) := h1
  have H4 : Hid (0 < len → ∃ b off, a = some ⟨b, off, none⟩ ∧ ∀ k, k < len → w.cell? ⟨b, off + k, none⟩ = some (.int .u8 (zs.getD k 0))) := h4
  clear h1 h4 h3
  go_enter Try.func10, Try.ntmps10
  go_wp2_with fail
  go_loopw [1] (fun i wr => ∃ k : Nat, k ≤ 9223372036854775807 ∧ i = .int .i64 k ∧ Hid (skip zs n = skip zs k) ∧ wr = w) (fun i _ => len - (intOf i).toNat)
  case atStart => exact ⟨n, hn, rfl, (show _ = _ from rfl), rfl⟩
  case round =>
    obtain ⟨k, hk, rfl, hsk, hw⟩ := hrel
    obtain rfl := hw.symm
    by_cases hkl : k < len
    · obtain ⟨b, off, rfl, hc⟩ := H4.out (by omega)
      have hcell := hc k hkl
      have hkz : k < zs.length := by rw [HL.out]; exact hkl
      have hsk1 : spB (zs.getD k 0) = true → Hid (skip zs n = skip zs (k + 1)) := fun hs => hsk.out.trans (skip_sp hkz hs)
      have hsk2 : spB (zs.getD k 0) = false → Hid (skip zs n = k) := fun hs => hsk.out.trans (skip_at hs)
      clear hc hkz
      obtain ⟨c, hcc⟩ : ∃ c, c = zs.getD k 0 := ⟨_, rfl⟩
      rw [← hcc] at hcell hsk1 hsk2
      clear hcc H4
      cases hs : spB c with
      | true =>
        have hnx := hsk1 hs
        clear hsk1 hsk2 hsk
        rcases spB_cases hs with rfl | rfl | rfl | rfl
        all_goals
          clear hs
          go_wp2
          go_roundw
          case rel => exact ⟨k + 1, by omega, by go_num, hnx, trivial⟩
          case measure => simp [intOf]; omega
      | false =>
        have hnx := hsk2 hs
        obtain ⟨b1, b2, b3, b4⟩ := spB_not hs
        clear hsk1 hsk2 hsk hs
        go_wp2
        go_ret
        exact ⟨by rw [hnx.out]; rfl, rfl⟩
    · have hnx : Hid (skip zs n = k) := hsk.out.trans (skip_end (by rw [HL.out]; exact hkl))
      clear hsk H4
      go_wp2
      go_ret
      exact ⟨by rw [hnx.out]; rfl, rfl⟩

theorem skip7 (a : Option Addr) (len cap : Nat) (zs : List Int) (n : Nat) (w : World) (h : BArg w a len zs) (hb : len ≤ 1048576) (hn : n ≤ 9223372036854775807) :
    Calls Try.prog 7 #[.slice a len cap, .int .i64 n] w fun e w' => e = .returned (.int .i64 (skip zs n)) ∧ w' = w := by
  have hc := skip10 a len cap zs n w h hb hn
  go_enter Try.func7, Try.ntmps7
  go_wp2_with fail
  refine hc.mono ?_
  rintro e w' ⟨rfl, rfl⟩
  go_wp2
  go_ret
  exact ⟨rfl, rfl⟩
end Go.Proofs.Qxb6603518a
