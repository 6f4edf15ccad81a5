/-
  57, 44, 46, 39: strings.Compare and the two comparisons over it. 45: slices.BinarySearchFunc at accounts. 41: (Register).find.
-/
import Derived.Test.Qxb6603349aWalkG
import Derived.Lib.Bytealg
import Derived.Laws.Externs
namespace Go.Proofs.Qxb6603349a
open Go.RowKit Go.Maps
set_option linter.unusedVariables false

/-- strings.Compare. -/
def cmpS (a b : ByteArray) : Int := Lib.compareBytes a.data.toList b.data.toList

theorem cmp_neg : ∀ x y : List UInt8, (Lib.compareBytes x y < 0) = (Op.bytesLess x y = true)
  | [], [] => by simp [Lib.compareBytes, Op.bytesLess]
  | [], _ :: _ => by simp [Lib.compareBytes, Op.bytesLess]
  | _ :: _, [] => by simp [Lib.compareBytes, Op.bytesLess]
  | a :: x, b :: y => by
    simp only [Lib.compareBytes, Op.bytesLess, Bool.or_eq_true, decide_eq_true_eq, Bool.and_eq_true, beq_iff_eq]
    by_cases h1 : a < b
    · simp [h1]
    · by_cases h2 : b < a
      · have : a ≠ b := fun e => by subst e; exact h1 h2
        simp [h1, h2, this]
      · have : a = b := UInt8.toNat_inj.1 (by rw [UInt8.lt_iff_toNat_lt] at h1 h2; omega)
        subst this
        simp [h1, cmp_neg x y]

theorem cmp_range : ∀ x y : List UInt8, -1 ≤ Lib.compareBytes x y ∧ Lib.compareBytes x y ≤ 1
  | [], [] => by simp [Lib.compareBytes]
  | [], _ :: _ => by simp [Lib.compareBytes]
  | _ :: _, [] => by simp [Lib.compareBytes]
  | a :: x, b :: y => by
    unfold Lib.compareBytes
    have := cmp_range x y
    split
    · omega
    · split <;> omega

theorem cmp_zero : ∀ x y : List UInt8, (Lib.compareBytes x y = 0) = (x = y)
  | [], [] => by simp [Lib.compareBytes]
  | [], _ :: _ => by simp [Lib.compareBytes]
  | _ :: _, [] => by simp [Lib.compareBytes]
  | a :: x, b :: y => by
    unfold Lib.compareBytes
    by_cases h1 : a < b
    · have : a ≠ b := fun e => by subst e; rw [UInt8.lt_iff_toNat_lt] at h1; omega
      simp [h1, this]
    · by_cases h2 : b < a
      · have : a ≠ b := fun e => by subst e; exact h1 h2
        simp [h1, h2, this]
      · have : a = b := UInt8.toNat_inj.1 (by rw [UInt8.lt_iff_toNat_lt] at h1 h2; omega)
        subst this
        simp [h1, cmp_zero x y]

theorem cmpS_neg (a b : ByteArray) : cmpS a b < 0 ↔ blt a b = true := by
  unfold cmpS blt
  rw [cmp_neg, ByteArray.toList_eq, ByteArray.toList_eq]

theorem cmpS_zero (a b : ByteArray) : cmpS a b = 0 ↔ a = b := by
  unfold cmpS
  rw [cmp_zero]
  constructor
  · intro h
    exact toList_inj (by rw [ByteArray.toList_eq, ByteArray.toList_eq, h])
  · intro h
    rw [h]

theorem cmpS_range (a b : ByteArray) : -1 ≤ cmpS a b ∧ cmpS a b ≤ 1 := cmp_range _ _

set_option maxHeartbeats 400000 in
theorem compareString57 (a b : ByteArray) (w : World) :
    Calls Try.prog 57 #[.string a, .string b] w fun e w' => e = .returned (.int .i64 (cmpS a b)) ∧ w' = w := by
  go_enter Try.func57, Try.ntmps57
  go_wp2
  rw [run_callFunc_extern Try.func63 (by kernel_rfl) (by kernel_rfl) (by kernel_rfl) (e := Extern.BytealgCompare.compare) (by kernel_rfl), Lib.run_compareString]
  simp only [Result.andThen]
  rw [Oper.upon_value]
  go_wp2
  go_ret
  exact ⟨rfl, rfl⟩

set_option maxHeartbeats 400000 in
theorem compare44 (a b : ByteArray) (w : World) :
    Calls Try.prog 44 #[.string a, .string b] w fun e w' => e = .returned (.int .i64 (cmpS a b)) ∧ w' = w := by
  go_enter Try.func44, Try.ntmps44
  go_wp2_with (go_at_call 57; refine (compareString57 _ _ _).mono ?_; rintro e w' ⟨rfl, rfl⟩)
  go_ret
  exact ⟨rfl, rfl⟩

set_option maxHeartbeats 400000 in
theorem closure46 (a b : ByteArray) (w : World) :
    Calls Try.prog 46 #[.agg #[.string a, .int .i64 0, .int .i64 0, .int .i64 0, .int .i64 0], .string b] w fun e w' => e = .returned (.int .i64 (cmpS a b)) ∧ w' = w.alloc (accObj a) := by
  go_enter Try.func46, Try.ntmps46
  go_wp2_with (go_at_call 44; refine (compare44 _ _ _).mono ?_; rintro e w' ⟨rfl, rfl⟩)
  go_ret
  exact ⟨rfl, rfl⟩

set_option maxHeartbeats 400000 in
theorem byName39 (a b : ByteArray) (w : World) :
    Calls Try.prog 39 #[.agg #[.string a, .int .i64 0, .int .i64 0, .int .i64 0, .int .i64 0], .agg #[.string b, .int .i64 0, .int .i64 0, .int .i64 0, .int .i64 0]] w fun e w' => e = .returned (.int .i64 (cmpS a b)) ∧ w' = (w.alloc (accObj a)).alloc (accObj b) := by
  go_enter Try.func39, Try.ntmps39
  go_wp2_with (go_at_call 44; refine (compare44 _ _ _).mono ?_; rintro e w' ⟨rfl, rfl⟩)
  go_ret
  exact ⟨rfl, rfl⟩

/-- What a binary search knows: everything below i lies below s, nothing from j on does. -/
def Cut (hs : List ByteArray) (s : ByteArray) (i j : Nat) : Prop :=
  (∀ k, k < i → blt (hs.getD k ByteArray.empty) s = true) ∧ ∀ k, j ≤ k → k < hs.length → blt (hs.getD k ByteArray.empty) s = false

theorem getD_eq {hs : List ByteArray} {k : Nat} (hk : k < hs.length) : hs.getD k ByteArray.empty = hs[k] := by
  rw [List.getD_eq_getElem?_getD, List.getElem?_eq_getElem hk]; rfl

theorem Cut.up {hs : List ByteArray} {s : ByteArray} {i j h : Nat} (hc : Cut hs s i j) (hinc : Inc hs) (hj : h < hs.length) (hlt : blt (hs.getD h ByteArray.empty) s = true) : Cut hs s (h + 1) j := by
  refine ⟨fun k hk => ?_, hc.2⟩
  by_cases he : k = h
  · subst he; exact hlt
  · have := List.pairwise_iff_getElem.1 hinc k h (by omega) hj (by omega)
    rw [← getD_eq (by omega), ← getD_eq hj] at this
    exact blt_trans this hlt

theorem Cut.down {hs : List ByteArray} {s : ByteArray} {i j h : Nat} (hc : Cut hs s i j) (hinc : Inc hs) (hj : h < hs.length) (hlt : blt (hs.getD h ByteArray.empty) s = false) : Cut hs s i h := by
  refine ⟨hc.1, fun k hk hkl => ?_⟩
  by_cases he : k = h
  · subst he; exact hlt
  · have := List.pairwise_iff_getElem.1 hinc h k hj hkl (by omega)
    rw [← getD_eq hj, ← getD_eq hkl] at this
    cases hb : blt (hs.getD k ByteArray.empty) s with
    | false => rfl
    | true => rw [blt_trans this hb] at hlt; cases hlt

/-- What the search answers. -/
theorem Cut.hit {hs : List ByteArray} {s : ByteArray} {i : Nat} (hinc : Inc hs) (hi : i < hs.length) (he : hs.getD i ByteArray.empty = s) : idx hs s = some (i : Int) := by
  unfold idx
  rw [posOf_of hinc.nodup (i := i)]
  · rfl
  · rw [← he, getD_eq hi, List.getElem?_eq_getElem hi]

theorem Cut.miss {hs : List ByteArray} {s : ByteArray} {i : Nat} (hc : Cut hs s i i) (hinc : Inc hs) (he : ¬ (i < hs.length ∧ hs.getD i ByteArray.empty = s)) : idx hs s = none := by
  refine idx_none fun hm => ?_
  obtain ⟨k, hk, rfl⟩ := List.getElem_of_mem hm
  rcases Nat.lt_trichotomy k i with h | h | h
  · have := hc.1 k h
    rw [getD_eq hk, blt_irrefl] at this
    cases this
  · subst h
    exact he ⟨hk, getD_eq hk⟩
  · have h1 := List.pairwise_iff_getElem.1 hinc i k (by omega) hk h
    have h2 := hc.2 i (Nat.le_refl _) (by omega)
    rw [getD_eq (by omega), h1] at h2
    cases h2

set_option maxHeartbeats 400000 in
set_option maxRecDepth 100000 in
theorem search45 (a : Option Addr) (n cap : Nat) (hs : List ByteArray) (s : ByteArray) (w : World) (ha : AccArg w a n hs) (hinc : Inc hs) (hn : n ≤ 1048576) :
    Calls Try.prog 45 #[.slice a n cap, .string s, .func (.func 46) #[] #[]] w fun e w' => (∃ i, e = .returned (.tuple #[.int .i64 i, .bool (idx hs s).isSome]) ∧ (∀ k, idx hs s = some k → i = k)) ∧ Below w.heap.size w w' := by
  have hl := ha.1
  go_enter Try.func45, Try.ntmps45
  go_wp2
  go_loopw [9, 10] (fun vi vj wr => ∃ i j : Nat, i ≤ j ∧ j ≤ n ∧ vi = .int .i64 i ∧ vj = .int .i64 j ∧ Cut hs s i j ∧ Below w.heap.size w wr) (fun vi vj _ => (intOf vj).toNat - (intOf vi).toNat)
  case atStart => exact ⟨0, n, Nat.zero_le _, Nat.le_refl _, rfl, rfl, ⟨fun k hk => absurd hk (Nat.not_lt_zero _), fun k hk hk' => absurd hk' (by omega)⟩, Below.refl _ _⟩
  case round =>
    obtain ⟨i, j, hij, hjn, rfl, rfl, hcut, hbel⟩ := hrel
    have ha' := ha.below hbel ha.lt
    clear ha
    by_cases hlt : i < j
    · obtain ⟨h, hh⟩ : ∃ h, h = (i + j) / 2 := ⟨_, rfl⟩
      have hh1 : i ≤ h := by omega
      have hh2 : h < j := by omega
      obtain ⟨_, _, h3⟩ := ha'
      obtain ⟨g, off, rfl, hc⟩ := h3 (by omega)
      obtain ⟨c0, c1, c2, c3, c4⟩ := hc h (by omega)
      have he : ((i : Int) + (j : Int)) / 2 = (h : Int) := by omega
      have hup := fun hb => hcut.up (h := h) hinc (by omega) hb
      have hdown := fun hb => hcut.down (h := h) hinc (by omega) hb
      generalize hs.getD h ByteArray.empty = u at c0 c1 c2 c3 c4 hup hdown
      clear h3 hc hh hcut
      have hcr := cmpS_range u s
      cases hb : blt u s with
      | true =>
        have hneg := (cmpS_neg u s).2 hb
        have hcut' := hup hb
        clear hup hdown hb
        go_wp2_with (go_at_call 46; refine (closure46 _ _ _).mono ?_; rintro e w' ⟨rfl, rfl⟩)
        go_roundw
        case rel => exact ⟨h + 1, j, by omega, hjn, by go_num, rfl, hcut', hbel.alloc hbel.size _⟩
        case measure => simp [intOf]; omega
      | false =>
        have hneg : ¬ cmpS u s < 0 := fun h => by rw [(cmpS_neg u s).1 h] at hb; cases hb
        have hcut' := hdown hb
        clear hup hdown hb
        go_wp2_with (go_at_call 46; refine (closure46 _ _ _).mono ?_; rintro e w' ⟨rfl, rfl⟩)
        go_roundw
        case rel => exact ⟨i, h, by omega, by omega, rfl, by go_num, hcut', hbel.alloc hbel.size _⟩
        case measure => simp [intOf]; omega
    · obtain rfl : i = j := by omega
      by_cases hin : i < n
      · obtain ⟨_, _, h3⟩ := ha'
        obtain ⟨g, off, rfl, hc⟩ := h3 (by omega)
        obtain ⟨c0, c1, c2, c3, c4⟩ := hc i (by omega)
        have hhit := fun he => Cut.hit (s := s) (i := i) hinc (by omega) he
        have hmiss := fun he => hcut.miss hinc he
        generalize hs.getD i ByteArray.empty = u at c0 c1 c2 c3 c4 hhit hmiss
        clear h3 hc hcut
        by_cases hu : u = s
        · have hz : (cmpS u s == 0) = true := by rw [beq_iff_eq, cmpS_zero]; exact hu
          have hI : Hid (idx hs s = some (i : Int)) := hhit hu
          clear hhit hmiss hu
          go_wp2_with (go_at_call 46; refine (closure46 _ _ _).mono ?_; rintro e w' ⟨rfl, rfl⟩)
          go_ret2
          exact ⟨⟨i, by rw [hI.out]; rfl, fun k hk => by rw [hI.out] at hk; cases hk; rfl⟩, hbel.alloc hbel.size _⟩
        · have hz : (cmpS u s == 0) = false := by rw [beq_eq_false_iff_ne]; exact fun e => hu ((cmpS_zero _ _).1 e)
          have hI : Hid (idx hs s = none) := hmiss (fun h => hu h.2)
          clear hhit hmiss hu
          go_wp2_with (go_at_call 46; refine (closure46 _ _ _).mono ?_; rintro e w' ⟨rfl, rfl⟩)
          go_ret2
          exact ⟨⟨i, by rw [hI.out]; rfl, fun k hk => by rw [hI.out] at hk; cases hk⟩, hbel.alloc hbel.size _⟩
      · have hI : Hid (idx hs s = none) := hcut.miss hinc (fun h => hin (by omega))
        clear ha' hcut
        go_wp2
        go_ret2
        exact ⟨⟨i, by rw [hI.out]; rfl, fun k hk => by rw [hI.out] at hk; cases hk⟩, hbel⟩
end Go.Proofs.Qxb6603349a
