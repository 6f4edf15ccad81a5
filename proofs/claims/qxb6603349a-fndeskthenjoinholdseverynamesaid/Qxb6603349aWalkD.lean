/-
  The desk: 41, 20, 23, 25, 27, 28, 30, 31, 37, 26.
-/
import Derived.Test.Qxb6603349aWalkH
namespace Go.Proofs.Qxb6603349a
open Go.RowKit Go.Maps
set_option linter.unusedVariables false

set_option maxHeartbeats 400000 in
theorem find41 (nm : ByteArray) (a : Option Addr) (n cap : Nat) (hs : List ByteArray) (s : ByteArray) (w : World) (ha : AccArg w a n hs) (hinc : Inc hs) (hn : n ≤ 1048576) :
    Calls Try.prog 41 #[.agg #[.string nm, .slice a n cap], .string s] w fun e w' => (∃ i, e = .returned (.tuple #[.int .i64 i, .bool (idx hs s).isSome]) ∧ (∀ k, idx hs s = some k → i = k)) ∧ Below w.heap.size w w' := by
  have ha1 : ∀ o, AccArg (w.alloc o) a n hs := fun o => ha.below ((Below.refl w.heap.size w).alloc (Nat.le_refl _) o) ha.lt
  have c45 := fun o => search45 a n cap hs s (w.alloc o) (ha1 o) hinc hn
  clear ha ha1
  go_enter Try.func41, Try.ntmps41
  go_wp2_with (go_at_call 45; refine (c45 _).mono ?_; rintro e w' ⟨⟨i, rfl, hi⟩, hb⟩)
  go_ret2
  exact ⟨⟨i, rfl, hi⟩, ((Below.refl w.heap.size w).alloc (Nat.le_refl _) _).trans (hb.mono (by simp))⟩

set_option maxHeartbeats 400000 in
theorem newRegister20 (a : Option Addr) (n cap : Nat) (w : World) :
    Calls Try.prog 20 #[.slice a n cap] w fun e w' => e = .returned (.pointer (some ⟨w.heap.size, 0, none⟩)) ∧ w' = w.alloc (.cells #[.string ByteArray.empty, .slice a n cap] 66) := by
  go_enter Try.func20, Try.ntmps20
  go_wp2
  go_ret
  exact ⟨rfl, rfl⟩

set_option maxHeartbeats 400000 in
theorem newDesk25 (br : Nat) (a : Option Addr) (n cap : Nat) (bi : Nat) (w : World) :
    Calls Try.prog 25 #[.pointer (some ⟨br, 0, none⟩), .slice a n cap, .map (some bi)] w fun e w' => e = .returned (.pointer (some ⟨w.heap.size, 0, none⟩)) ∧ w' = w.alloc (.cells #[.pointer (some ⟨br, 0, none⟩), .slice a n cap, .map (some bi)] 69) := by
  go_enter Try.func25, Try.ntmps25
  go_wp2
  go_ret
  exact ⟨rfl, rfl⟩

/-- A register lies in block br. -/
def RegAt (w : World) (br : Nat) (a : Option Addr) (n cap : Nat) : Prop := w.heap[br]? = some (.cells #[.string ByteArray.empty, .slice a n cap] 66 (0, 0))
/-- A desk lies in block bd. -/
def DeskAt (w : World) (bd br : Nat) (a : Option Addr) (n cap : Nat) (bi : Nat) : Prop := w.heap[bd]? = some (.cells #[.pointer (some ⟨br, 0, none⟩), .slice a n cap, .map (some bi)] 69 (0, 0))

theorem RegAt.cells {w : World} {br : Nat} {a : Option Addr} {n cap : Nat} (h : RegAt w br a n cap) : w.cell? ⟨br, 0, none⟩ = some (.string ByteArray.empty) ∧ w.cell? ⟨br, 1, none⟩ = some (.slice a n cap) :=
  ⟨(cell_of_row w br 0 _ 66 (0, 0) h).trans rfl, (cell_of_row w br 1 _ 66 (0, 0) h).trans rfl⟩

theorem DeskAt.cells {w : World} {bd br : Nat} {a : Option Addr} {n cap : Nat} {bi : Nat} (h : DeskAt w bd br a n cap bi) : w.cell? ⟨bd, 0, none⟩ = some (.pointer (some ⟨br, 0, none⟩)) ∧ w.cell? ⟨bd, 1, none⟩ = some (.slice a n cap) ∧ w.cell? ⟨bd, 2, none⟩ = some (.map (some bi)) ∧ ∀ o, w.frozen? ⟨bd, o, none⟩ = false :=
  ⟨(cell_of_row w bd 0 _ 69 (0, 0) h).trans rfl, (cell_of_row w bd 1 _ 69 (0, 0) h).trans rfl, (cell_of_row w bd 2 _ 69 (0, 0) h).trans rfl, fun o => frozen_of_row w bd o _ 69 h⟩

set_option maxHeartbeats 400000 in
theorem registerAccounts23 (br : Nat) (a : Option Addr) (n cap : Nat) (w : World) (h : RegAt w br a n cap) :
    Calls Try.prog 23 #[.pointer (some ⟨br, 0, none⟩)] w fun e w' => e = .returned (.slice a n cap) ∧ w' = w := by
  obtain ⟨c0, c1⟩ := h.cells
  clear h
  go_enter Try.func23, Try.ntmps23
  go_wp2
  go_ret
  exact ⟨rfl, rfl⟩

set_option maxHeartbeats 400000 in
theorem deskOpened30 (bd br : Nat) (a : Option Addr) (n cap bi : Nat) (w : World) (h : DeskAt w bd br a n cap bi) :
    Calls Try.prog 30 #[.pointer (some ⟨bd, 0, none⟩)] w fun e w' => e = .returned (.slice a n cap) ∧ w' = w := by
  obtain ⟨c0, c1, c2, _⟩ := h.cells
  clear h
  go_enter Try.func30, Try.ntmps30
  go_wp2
  go_ret
  exact ⟨rfl, rfl⟩

set_option maxHeartbeats 400000 in
theorem deskIndex31 (bd br : Nat) (a : Option Addr) (n cap bi : Nat) (w : World) (h : DeskAt w bd br a n cap bi) :
    Calls Try.prog 31 #[.pointer (some ⟨bd, 0, none⟩)] w fun e w' => e = .returned (.map (some bi)) ∧ w' = w := by
  obtain ⟨c0, c1, c2, _⟩ := h.cells
  clear h
  go_enter Try.func31, Try.ntmps31
  go_wp2
  go_ret
  exact ⟨rfl, rfl⟩

set_option maxHeartbeats 400000 in
theorem registerSharesAt27 (br g off n cap k : Nat) (w : World) (h : RegAt w br (some ⟨g, off, none⟩) n cap) (hk : k < n) (hn : n ≤ 1048576) :
    Calls Try.prog 27 #[.pointer (some ⟨br, 0, none⟩), .int .i64 k] w fun e w' => e = .returned (.pointer (some ⟨g, off + k * 5 + 1, none⟩)) ∧ w' = w := by
  obtain ⟨c0, c1⟩ := h.cells
  clear h
  go_enter Try.func27, Try.ntmps27
  go_wp2
  go_ret
  exact ⟨rfl, rfl⟩

set_option maxHeartbeats 400000 in
theorem openedSharesAt28 (bd br g off n cap bi k : Nat) (w : World) (h : DeskAt w bd br (some ⟨g, off, none⟩) n cap bi) (hk : k < n) (hn : n ≤ 1048576) :
    Calls Try.prog 28 #[.pointer (some ⟨bd, 0, none⟩), .int .i64 k] w fun e w' => e = .returned (.pointer (some ⟨g, off + k * 5 + 1, none⟩)) ∧ w' = w := by
  obtain ⟨c0, c1, c2, _⟩ := h.cells
  clear h
  go_enter Try.func28, Try.ntmps28
  go_wp2
  go_ret
  exact ⟨rfl, rfl⟩
end Go.Proofs.Qxb6603349a
