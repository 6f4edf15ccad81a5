/-
  What all walks of this seat share: a slice of strings as the walks see it; small laws.
-/
import Derived.Test.Qxb6603349aRows
import Derived.WalkKit
import Derived.WalkSpells
import Derived.WalkLawsBesides
namespace Go.Proofs.Qxb6603349a
open Go.RowKit

/-- Some bool is returned (a plain def: the walk's simp does not take it apart). -/
def RetBool (e : Ending) : Prop := ∃ b, e = .returned (.bool b)
theorem RetBool.mk (b : Bool) : RetBool (.returned (.bool b)) := ⟨b, rfl⟩
/-- Some number between lo and hi is returned. -/
def RetInt (lo hi : Int) (e : Ending) : Prop := ∃ n, e = .returned (.int .i64 n) ∧ lo ≤ n ∧ n ≤ hi
theorem RetInt.mk {lo hi n : Int} (h1 : lo ≤ n) (h2 : n ≤ hi) : RetInt lo hi (.returned (.int .i64 n)) := ⟨n, rfl, h1, h2⟩

/-- A slice of strings that can be read: its elements are ss. -/
def StrArg (w : World) (a : Option Addr) (len : Nat) (ss : List ByteArray) : Prop :=
  ss.length = len ∧ len ≤ maxLen ∧ (∀ s ∈ ss, s.size ≤ maxLen) ∧
  (0 < len → ∃ b off, a = some ⟨b, off, none⟩ ∧ ∀ k, k < len → w.cell? ⟨b, off + k, none⟩ = some (.string (ss.getD k ByteArray.empty)))

theorem StrArg.below {w w' : World} {a : Option Addr} {len : Nat} {ss : List ByteArray} {B : Nat} (h : StrArg w a len ss) (hb : Below B w w') (hlt : ∀ x, a = some x → 0 < len → x.block < B) : StrArg w' a len ss := by
  obtain ⟨h1, h2, h3, h4⟩ := h
  refine ⟨h1, h2, h3, fun hl => ?_⟩
  obtain ⟨b, off, rfl, hc⟩ := h4 hl
  have := hlt _ rfl hl
  exact ⟨b, off, rfl, fun k hk => (hb.cell (p := ⟨b, off + k, none⟩) this).trans (hc k hk)⟩

theorem StrArg.lt {w : World} {a : Option Addr} {len : Nat} {ss : List ByteArray} (h : StrArg w a len ss) : ∀ x, a = some x → 0 < len → x.block < w.heap.size := by
  intro x hx hl
  obtain ⟨b, off, rfl, hc⟩ := h.2.2.2 hl
  cases hx
  exact World.block_lt_of_cell? w ⟨b, off + 0, none⟩ (hc 0 hl)

theorem StrArg.mem {w : World} {a : Option Addr} {len : Nat} {ss : List ByteArray} (h : StrArg w a len ss) (k : Nat) : (ss.getD k ByteArray.empty).size ≤ maxLen := by
  rw [List.getD_eq_getElem?_getD]
  cases hk : ss[k]? with
  | none => simp [maxLen]
  | some s => exact h.2.2.1 s (List.mem_of_getElem? hk)

end Go.Proofs.Qxb6603349a
