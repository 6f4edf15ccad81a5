/-
  The small functions over an account (34, 35, 29, 18, 13, 15), and what a slice of accounts is to a walk.
-/
import Derived.Test.Qxb6603349aMaps
namespace Go.Proofs.Qxb6603349a
open Go.RowKit Go.Maps

/-- The cells of an account that holds no shares. -/
def accCells (s : ByteArray) : List Value := [.string s, .int .i64 0, .int .i64 0, .int .i64 0, .int .i64 0]
def accVal (s : ByteArray) : Value := .agg #[.string s, .int .i64 0, .int .i64 0, .int .i64 0, .int .i64 0]
def shVal : Value := .agg #[.int .i64 0, .int .i64 0, .int .i64 0, .int .i64 0]

/-- The worlds behind the small functions. -/
def accObj (s : ByteArray) : Obj := .cells #[.string s, .int .i64 0, .int .i64 0, .int .i64 0, .int .i64 0] 42
def shObj : Obj := .cells #[.int .i64 0, .int .i64 0, .int .i64 0, .int .i64 0] 40

set_option maxHeartbeats 400000 in
theorem name34 (s : ByteArray) (w : World) :
    Calls Try.prog 34 #[accVal s] w fun e w' => e = .returned (.string s) ∧ w' = w.alloc (accObj s) := by
  unfold accVal
  go_enter Try.func34, Try.ntmps34
  go_wp2
  go_ret
  exact ⟨rfl, rfl⟩

set_option maxHeartbeats 400000 in
theorem shares35 (s : ByteArray) (w : World) :
    Calls Try.prog 35 #[accVal s] w fun e w' => e = .returned shVal ∧ w' = (w.alloc (accObj s)).alloc shObj := by
  unfold accVal
  go_enter Try.func35, Try.ntmps35
  go_wp2
  exact bodyPost_ret (v := shVal) (by simp [results, Try.results35, go_sem, shVal]) rfl ⟨rfl, rfl⟩

set_option maxHeartbeats 400000 in
theorem noShares29 (w : World) :
    Calls Try.prog 29 #[shVal] w fun e w' => e = .returned (.bool true) ∧ w' = w.alloc shObj := by
  unfold shVal
  go_enter Try.func29, Try.ntmps29
  go_wp2
  go_ret
  exact ⟨rfl, rfl⟩

set_option maxHeartbeats 400000 in
theorem newAcc18 (s : ByteArray) (w : World) :
    Calls Try.prog 18 #[.string s] w fun e w' => e = .returned (accVal s) ∧ w' = w.alloc (accObj s) := by
  go_enter Try.func18, Try.ntmps18
  go_wp2
  exact bodyPost_ret (v := accVal s) (by simp [results, Try.results18, go_sem, accVal]) rfl ⟨rfl, rfl⟩

set_option maxHeartbeats 400000 in
theorem newIndex13 (m : Option Nat) (w : World) :
    Calls Try.prog 13 #[.map m] w fun e w' => e = .returned (.pointer (some ⟨w.heap.size, 0, none⟩)) ∧ w' = w.alloc (.cells #[.map m] 61) := by
  go_enter Try.func13, Try.ntmps13
  go_wp2
  go_ret
  exact ⟨rfl, rfl⟩

set_option maxHeartbeats 400000 in
theorem places15 (bx : Nat) (m : Option Nat) (w : World) (hx : w.cell? ⟨bx, 0, none⟩ = some (.map m)) :
    Calls Try.prog 15 #[.pointer (some ⟨bx, 0, none⟩)] w fun e w' => e = .returned (.map m) ∧ w' = w := by
  go_enter Try.func15, Try.ntmps15
  go_wp2
  go_ret
  exact ⟨rfl, rfl⟩

/-- An account without shares, named s, lies at offset o of block g. -/
def AccAt (w : World) (g o : Nat) (s : ByteArray) : Prop :=
  w.cell? ⟨g, o, none⟩ = some (.string s) ∧ w.cell? ⟨g, o + 1, none⟩ = some (.int .i64 0) ∧ w.cell? ⟨g, o + 2, none⟩ = some (.int .i64 0) ∧ w.cell? ⟨g, o + 3, none⟩ = some (.int .i64 0) ∧ w.cell? ⟨g, o + 4, none⟩ = some (.int .i64 0)

/-- A slice of accounts without shares that can be read: their names are ns. -/
def AccArg (w : World) (a : Option Addr) (n : Nat) (ns : List ByteArray) : Prop :=
  ns.length = n ∧ (∀ s ∈ ns, s.size ≤ maxLen) ∧
  (0 < n → ∃ g off, a = some ⟨g, off, none⟩ ∧ ∀ k, k < n → AccAt w g (off + k * 5) (ns.getD k ByteArray.empty))

theorem AccAt.of_block {w w' : World} {g o : Nat} {s : ByteArray} (h : AccAt w g o s) (hb : w'.heap[g]? = w.heap[g]?) : AccAt w' g o s := by
  have hc : ∀ o, w'.cell? ⟨g, o, none⟩ = w.cell? ⟨g, o, none⟩ := fun o => World.cell?_of_block (a := ⟨g, o, none⟩) hb
  simp only [AccAt, hc]
  exact h

theorem AccAt.lt {w : World} {g o : Nat} {s : ByteArray} (h : AccAt w g o s) : g < w.heap.size := World.block_lt_of_cell? w ⟨g, o, none⟩ h.1

theorem AccAt.ne_index {w : World} {g o bx : Nat} {s : ByteArray} {m : Option Nat} (h : AccAt w g o s) (hx : w.heap[bx]? = some (.cells #[.map m] 61 (0, 0))) : g ≠ bx := by
  intro e
  subst e
  have := h.1
  simp only [World.cell?, hx] at this
  cases o with
  | zero => simp at this
  | succ o => simp at this

theorem AccArg.mem {w : World} {a : Option Addr} {n : Nat} {ns : List ByteArray} (h : AccArg w a n ns) (k : Nat) : (ns.getD k ByteArray.empty).size ≤ maxLen := by
  rw [List.getD_eq_getElem?_getD]
  cases hk : ns[k]? with
  | none => simp [maxLen]
  | some s => exact h.2.1 s (List.mem_of_getElem? hk)

end Go.Proofs.Qxb6603349a
