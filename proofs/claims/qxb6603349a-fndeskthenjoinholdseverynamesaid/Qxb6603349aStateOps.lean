/-
  The find script's operations as laws for the walk, over its state.
-/
import Derived.Test.Qxb6603349aState
import Derived.Test.Qxb6603349aWalkB
namespace Go.Proofs.Qxb6603349a
open Go.RowKit Go.Maps
set_option linter.unusedVariables false

theorem cell_new1 (w : World) (r : ByteArray) : (w.alloc (.cells #[.string r] 9)).cell? ⟨w.heap.size, 0, none⟩ = some (.string r) := by
  rw [cell_of_row _ _ 0 _ 9 (0, 0) (heap_alloc_new w _)]
  rfl

theorem acc_new (w : World) (r : ByteArray) (n : Nat) (hn : n = w.heap.size) : AccAt (w.alloc (.cells #[.string r, .int .i64 0, .int .i64 0, .int .i64 0, .int .i64 0] 42)) n 0 r := by
  subst hn
  have hc := fun j => cell_of_row _ w.heap.size j _ 42 (0, 0) (heap_alloc_new w (.cells #[.string r, .int .i64 0, .int .i64 0, .int .i64 0, .int .i64 0] 42))
  exact ⟨hc 0, hc 1, hc 2, hc 3, hc 4⟩

theorem newAcc18' (s : ByteArray) (w : World) :
    Calls Try.prog 18 #[.string s] w fun e w' => e = .returned (.agg #[.string s, .int .i64 0, .int .i64 0, .int .i64 0, .int .i64 0]) ∧ w' = w.alloc (.cells #[.string s, .int .i64 0, .int .i64 0, .int .i64 0, .int .i64 0] 42) := newAcc18 s w

section
variable {w0 wr : World} {a0 : Option Addr} {L : Nat} {rs : List ByteArray} {bx base : Nat} {m : Option Nat} {dI : List ByteArray} {bf : Nat} {dF : List ByteArray} {aO : Option Addr} {capO : Nat} {dO : List ByteArray} {aA : Option Addr} {capA : Nat} {dA : List ByteArray}
variable {ops : Array Oper} {rest : List Oper} {o : Oper} {a : Act} {Q : Exit → Act → World → Prop}

theorem wpList_look' (w : World) (hg : o.guard = none) (m x : Operand) (hop : o.op = Op.lookup 23 m x true) (b n : Nat) (f : ByteArray → Option Int) (s : ByteArray) (v : Int) (ok : Bool)
    (hm : a.eval m = .map (some b)) (hx : a.eval x = .string s) (h : MapIs w b n f) (hs : s.size ≤ maxLen) (hv : (f s).getD 0 = v) (hok : (f s).isSome = ok)
    (hK : wpList Try.prog ops Q rest (a.put o.dst (.tuple #[.int .i64 v, .bool ok])) w) :
    wpList Try.prog ops Q (o :: rest) a w := by
  subst hv
  subst hok
  exact wpList_look w hg m x hop b n f s hm hx h hs hK

/-- 'first[r] = n' at the operation. -/
theorem wpList_putFirst (hg : o.guard = none) (mo x v : Operand) (hop : o.op = Op.mapUpdate 23 mo x v) (r : ByteArray) (c : Int)
    (hm : a.eval mo = .map (some bf)) (hx : a.eval x = .string r) (hv : a.eval v = .int .i64 c) (hc : c = dF.length) (h : St w0 wr a0 L rs bx base m dI bf dF aO capO dO aA capA dA) (hr : r ∉ dF) (hs : r.size ≤ maxLen) (hn : dF.length ≤ 65536)
    (hK : ∀ w', St w0 w' a0 L rs bx base m dI bf (dF ++ [r]) aO capO dO aA capA dA → wpList Try.prog ops Q rest (a.put o.dst undef) w') :
    wpList Try.prog ops Q (o :: rest) a wr := by
  subst hc
  exact wpList_put wr hg mo x v hop bf dF.length (idx dF) r dF.length hm hx hv h.first hs (WalkArith.wf_i64 (by omega)) (by unfold maxLen; omega) (fun w' h1 h2 => hK w' (h.putFirst hr h1 h2))

/-- 'p[r] = n' at the operation. -/
theorem wpList_putIndex {b : Nat} (hg : o.guard = none) (mo x v : Operand) (hop : o.op = Op.mapUpdate 23 mo x v) (r : ByteArray) (c : Int)
    (hm : a.eval mo = .map (some b)) (hx : a.eval x = .string r) (hv : a.eval v = .int .i64 c) (hc : c = dI.length) (h : St w0 wr a0 L rs bx base (some b) dI bf dF aO capO dO aA capA dA) (hr : r ∉ dI) (hs : r.size ≤ maxLen) (hn : dI.length ≤ 65536)
    (hK : ∀ w', St w0 w' a0 L rs bx base (some b) (dI ++ [r]) bf dF aO capO dO aA capA dA → wpList Try.prog ops Q rest (a.put o.dst undef) w') :
    wpList Try.prog ops Q (o :: rest) a wr := by
  subst hc
  exact wpList_put wr hg mo x v hop b dI.length (idx dI) r dI.length hm hx hv h.index hs (WalkArith.wf_i64 (by omega)) (by unfold maxLen; omega) (fun w' h1 h2 => hK w' (h.putIndex hr h1 h2))

/-- 'order = append(order, r)' at the operation. -/
theorem wpList_appOrder (hg : o.guard = none) (s x : Operand) (hop : o.op = .call { callee := .builtin .append, args := #[s, x], argTypes := #[22, 22] }) (r : ByteArray) (ad : Addr) (n : Nat)
    (hs : a.eval s = .slice aO n capO) (hn0 : n = dO.length) (hx : a.eval x = .slice (some ad) 1 1) (hc : wr.cell? ad = some (.string r)) (h : St w0 wr a0 L rs bx base m dI bf dF aO capO dO aA capA dA) (hn : dO.length ≤ 65536)
    (hK : ∀ aO' capO' w', St w0 w' a0 L rs bx base m dI bf dF aO' capO' (dO ++ [r]) aA capA dA → wpList Try.prog ops Q rest (a.put o.dst (.slice aO' (n + 1) capO')) w') :
    wpList Try.prog ops Q (o :: rest) a wr := by
  subst hn0
  obtain ⟨i0, hi, hz0, hz1, hz2⟩ := info_parts Try.info9
  refine wpList_append_own wr hg s x 22 hop base 9 i0 _ 1 16 Try.underlying22 hi hz0 hz1 hz2 rfl (by decide) _ _ _ hs h.order ad 1 1 [.string r] hx rfl ?_ ?_ (by unfold maxLen; omega) (by omega) h.baseLe ?_
  · intro j u hj
    match j, hj with
    | 0, hj => simp at hj; subst hj; simpa [Addr.add] using hc
  · intro u hu
    simp at hu
    subst hu
    rfl
  · intro v' w' hown hgr _
    obtain ⟨a', cap', rfl⟩ := owns_slice hown
    exact hK a' cap' w' (h.grewOrder hown hgr)

/-- 'accs = append(accs, ..)' at the operation. -/
theorem wpList_appAccs (hg : o.guard = none) (s x : Operand) (hop : o.op = .call { callee := .builtin .append, args := #[s, x], argTypes := #[28, 28] }) (r : ByteArray) (g of : Nat) (n : Nat)
    (hs : a.eval s = .slice aA n capA) (hn0 : n = dA.length) (hx : a.eval x = .slice (some ⟨g, of, none⟩) 1 1) (hc : AccAt wr g of r) (h : St w0 wr a0 L rs bx base m dI bf dF aO capO dO aA capA dA) (hn : dA.length ≤ 65536)
    (hK : ∀ aA' capA' w', St w0 w' a0 L rs bx base m dI bf dF aO capO dO aA' capA' (dA ++ [r]) → wpList Try.prog ops Q rest (a.put o.dst (.slice aA' (n + 1) capA')) w') :
    wpList Try.prog ops Q (o :: rest) a wr := by
  subst hn0
  obtain ⟨i0, hi, hz0, hz1, hz2⟩ := info_parts Try.info42
  obtain ⟨c0, c1, c2, c3, c4⟩ := hc
  refine wpList_append_own wr hg s x 28 hop base 42 i0 _ 5 48 Try.underlying28 hi hz0 hz1 hz2 rfl (by decide) _ _ _ hs h.accs ⟨g, of, none⟩ 1 1 (accCells r) hx rfl ?_ ?_ (by unfold maxLen; omega) (by omega) h.baseLe ?_
  · intro j u hj
    rw [Go.WideShapes.add_plain]
    match j, hj with
    | 0, hj => simp [accCells] at hj; subst hj; simpa using c0
    | 1, hj => simp [accCells] at hj; subst hj; exact c1
    | 2, hj => simp [accCells] at hj; subst hj; exact c2
    | 3, hj => simp [accCells] at hj; subst hj; exact c3
    | 4, hj => simp [accCells] at hj; subst hj; exact c4
  · intro u hu
    simp [accCells] at hu
    rcases hu with rfl | rfl <;> rfl
  · intro v' w' hown hgr _
    obtain ⟨a', cap', rfl⟩ := owns_slice hown
    exact hK a' cap' w' (h.grewAccs hown hgr)
end
end Go.Proofs.Qxb6603349a
