/-
  3: FnSkipSpaceLeastNonSpaceAtOrAfter: the walk of the whole law.
-/
import Derived.Test.Qxb6603518aSkip
namespace Go.Proofs.Qxb6603518a
open Go.RowKit
set_option linter.unusedVariables false

/-- What the law answers: true, and nothing that was there is written. -/
def TrueB (w : World) (e : Ending) (w' : World) : Prop := e = .returned (.bool true) ∧ Below w.heap.size w w'

set_option maxHeartbeats 4000000 in
theorem least3 (a : Option Addr) (len cap : Nat) (zs : List Int) (i : Int) (w : World) (h : BArg w a len zs) (hi0 : -9223372036854775808 ≤ i) (hi1 : i ≤ 9223372036854775807) :
    Calls Try.prog 3 #[.slice a len cap, .int .i64 i] w (TrueB w) := by
  have hm : len ≤ 9223372036854775807 := by have := h.2.1; unfold maxLen at this; omega
  have c5 := bytes5 a len cap i w h.2.1
  by_cases hl : 1048576 < len
  · clear h
    go_enter Try.func3, Try.ntmps3
    go_wp2_with fail
    refine c5.mono ?_
    rintro e w' ⟨⟨b, rfl⟩, rfl⟩
    clear c5
    cases b
    all_goals
      go_wp2
      go_ret
      exact ⟨rfl, Below.refl _ _⟩
  by_cases hneg : i < 0
  · clear h
    go_enter Try.func3, Try.ntmps3
    go_wp2_with fail
    refine c5.mono ?_
    rintro e w' ⟨⟨b, rfl⟩, rfl⟩
    clear c5
    cases b
    all_goals
      go_wp2
      go_ret
      exact ⟨rfl, Below.refl _ _⟩
  obtain ⟨n, rfl⟩ : ∃ n : Nat, i = n := ⟨i.toNat, by omega⟩
  have hL : Hid (zs.length = len) := h.1
  have hz := h.2.2.1
  have c6 := clone6 a len cap zs w h (by omega)
  clear h
  go_enter Try.func3, Try.ntmps3
  go_wp2_with fail
  refine c5.mono ?_
  rintro e w' ⟨⟨b, rfl⟩, hw⟩
  obtain rfl := hw.symm
  clear c5 hw
  cases b
  · go_wp2
    go_ret
    exact ⟨rfl, Below.refl _ _⟩
  go_wp2_with fail
  refine c6.mono ?_
  rintro e w1 ⟨a', cap', rfl, hcl⟩
  clear c6
  have hba : Hid (BArg w1 a' len zs) := hcl.arg
  have hbe : Hid (Below w.heap.size w w1) := hcl.below
  have hZ : Hid (∀ z ∈ zs, 0 ≤ z ∧ z ≤ 255) := hz
  clear hcl hz
  go_wp2_with fail
  refine (skip7 a' len cap' zs n w1 hba.out (by omega) (by omega)).mono ?_
  rintro e w' ⟨rfl, hw⟩
  obtain rfl := hw.symm
  clear hw
  obtain ⟨G, hG⟩ : ∃ G, G = skip zs n := ⟨_, rfl⟩
  rw [← hG]
  have HG : Hid (G = skip zs n) := hG
  clear hG
  have hstart : Hid (max len n = skip zs (max len n)) := (skip_end (by rw [hL.out]; omega)).symm
  by_cases hgt : len < n
  all_goals
    go_wp2_with fail
    go_loopw [6, 7] (fun want kk wr => ∃ m : Nat, m ≤ len ∧ kk = .int .i64 ((m : Int) - 1) ∧ ∃ W : Nat, want = .int .i64 W ∧ Hid (W = skip zs (max m n)) ∧ wr = w1) (fun _ kk _ => (intOf kk + 1).toNat)
    case atStart =>
      refine ⟨len, Nat.le_refl _, by go_num, max len n, ?_, hstart, rfl⟩
      first
        | rw [Nat.max_eq_right (by omega)]; done
        | rw [Nat.max_eq_left (by omega)]
    case round =>
      obtain ⟨m, hm1, rfl, W, rfl, hW, hw⟩ := hrel
      obtain rfl := hw.symm
      clear hw hstart
      by_cases hmn : n < m
      · try (exfalso; omega)
        all_goals
          obtain ⟨k, rfl⟩ : ∃ k, m = k + 1 := ⟨m - 1, by omega⟩
          obtain ⟨b, off, rfl, hc⟩ := hba.out.2.2.2 (by omega)
          have hcell := hc k (by omega)
          have hkz : k < zs.length := by rw [hL.out]; omega
          have hmem : zs.getD k 0 ∈ zs := by rw [List.getD_eq_getElem?_getD, List.getElem?_eq_getElem hkz]; simp
          have hcr := hZ.out _ hmem
          have e1 : max (k + 1) n = k + 1 := by omega
          have e2 : max k n = k := by omega
          have hn1 : spB (zs.getD k 0) = true → Hid (W = skip zs (max k n)) := fun hs => (by have := hW.out; rw [e1] at this; rw [e2, skip_sp hkz hs]; exact this)
          have hn2 : spB (zs.getD k 0) = false → Hid (k = skip zs (max k n)) := fun hs => (by rw [e2]; exact (skip_at hs).symm)
          obtain ⟨c, hcc⟩ : ∃ c, c = zs.getD k 0 := ⟨_, rfl⟩
          rw [← hcc] at hcell hn1 hn2 hcr
          have ec : ((k + 1 : Nat) : Int) - 1 = (k : Int) := by omega
          rw [ec]
          clear hc hkz hmem hcc e1 e2 ec hW
          have c8 := isSpace8 c w1 hcr.1 hcr.2
          have N1 : Hid (spB c = true → Hid (W = skip zs (max k n))) := hn1
          have N2 : Hid (spB c = false → Hid (k = skip zs (max k n))) := hn2
          clear hn1 hn2
          go_wp2_with fail
          refine c8.mono ?_
          rintro e w' ⟨rfl, hw⟩
          obtain rfl := hw.symm
          clear hw c8
          cases hs : spB c with
          | true =>
            have hnx := N1.out hs
            clear N1 N2
            go_wp2
            go_roundw
            case rel => exact ⟨k, by omega, by go_num, W, rfl, hnx, trivial⟩
            case measure => simp [intOf] <;> omega
          | false =>
            have hnx := N2.out hs
            clear N1 N2
            go_wp2
            go_roundw
            case rel => exact ⟨k, by omega, by go_num, k, rfl, hnx, trivial⟩
            case measure => simp [intOf] <;> omega
      · have e1 : max m n = n := by omega
        have hWG : W = G := by have := hW.out; rw [e1] at this; rw [this, HG.out]
        subst hWG
        clear hW e1
        go_wp2
        go_ret
        exact ⟨rfl, hbe.out⟩
end Go.Proofs.Qxb6603518a
