/-
  The state of the find script between two operations, and what each operation does to it.
-/
import Derived.Test.Qxb6603349aWalkF
import Derived.Test.Qxb6603349aWalkN
namespace Go.Proofs.Qxb6603349a
open Go.RowKit Go.Maps
set_option linter.unusedVariables false

theorem Try.info42 : (Try.prog.info? 42).map (fun i => (i.zero, i.size, i.bytes)) = some (some (.agg #[.string ByteArray.empty, .int .i64 0, .int .i64 0, .int .i64 0, .int .i64 0]), 5, 48) := by kernel_rfl

def accRow (ns : List ByteArray) : List Value := ns.flatMap accCells
def strRow (ns : List ByteArray) : List Value := ns.map Value.string

theorem accRow_length (ns : List ByteArray) : (accRow ns).length = ns.length * 5 := by
  unfold accRow
  induction ns with
  | nil => rfl
  | cons x xs ih => simp [accCells, ih]; omega

theorem accRow_snoc (ns : List ByteArray) (r : ByteArray) : accRow (ns ++ [r]) = accRow ns ++ accCells r := by simp [accRow]
theorem strRow_snoc (ns : List ByteArray) (r : ByteArray) : strRow (ns ++ [r]) = strRow ns ++ [Value.string r] := by simp [strRow]

theorem accRow_get (ns : List ByteArray) (k j : Nat) (hk : k < ns.length) (hj : j < 5) : (accRow ns)[k * 5 + j]? = (accCells (ns.getD k ByteArray.empty))[j]? := by
  unfold accRow
  induction ns generalizing k with
  | nil => simp at hk
  | cons x xs ih =>
    have hl : (accCells x).length = 5 := rfl
    rw [List.flatMap_cons]
    cases k with
    | zero => rw [List.getElem?_append_left (by omega)]; simp
    | succ k =>
      rw [List.getElem?_append_right (by omega), hl]
      have : (k + 1) * 5 + j - 5 = k * 5 + j := by omega
      rw [this, ih k (by simp at hk; omega)]
      simp

theorem StrArg.grown {w w' : World} {a : Option Addr} {len : Nat} {ss : List ByteArray} {row : Option Nat} (h : StrArg w a len ss) (hg : w.grownBy w' row) (hne : ∀ x, a = some x → 0 < len → some x.block ≠ row) : StrArg w' a len ss := by
  have hlt := h.lt
  obtain ⟨h1, h2, h3, h4⟩ := h
  refine ⟨h1, h2, h3, fun hl => ?_⟩
  obtain ⟨b, off, rfl, hc⟩ := h4 hl
  exact ⟨b, off, rfl, fun k hk => (World.cell?_of_block (a := ⟨b, off + k, none⟩) (hg.block b (hlt _ rfl hl) (hne _ rfl hl))).trans (hc k hk)⟩

theorem strArg_of_owns {w : World} {base : Nat} {a : Option Addr} {cap : Nat} {ns : List ByteArray} (h : w.ownsRow base 9 1 (.slice a ns.length cap) ns.length (strRow ns)) (hm : ns.length ≤ maxLen) (hs : ∀ s ∈ ns, s.size ≤ maxLen) : StrArg w a ns.length ns := by
  refine ⟨rfl, hm, hs, fun hl => ?_⟩
  rcases h.2 with ⟨hv, h0⟩ | ⟨g, cap', cur, hv, _⟩
  · omega
  · simp only [Value.slice.injEq] at hv
    obtain ⟨rfl, _, rfl⟩ := hv
    refine ⟨g, 0, rfl, fun k hk => ?_⟩
    rw [h.cellAt (0 + k) (by omega), Nat.zero_add]
    simp [strRow, List.getD_eq_getElem?_getD, List.getElem?_eq_getElem hk]

theorem accArg_of_owns {w : World} {base : Nat} {a : Option Addr} {cap : Nat} {ns : List ByteArray} (h : w.ownsRow base 42 5 (.slice a ns.length cap) ns.length (accRow ns)) (hs : ∀ s ∈ ns, s.size ≤ maxLen) : AccArg w a ns.length ns := by
  refine ⟨rfl, hs, fun hl => ?_⟩
  rcases h.2 with ⟨hv, h0⟩ | ⟨g, cap', cur, hv, _⟩
  · omega
  · simp only [Value.slice.injEq] at hv
    obtain ⟨rfl, _, rfl⟩ := hv
    refine ⟨g, 0, rfl, fun k hk => ?_⟩
    have hc : ∀ j, j < 5 → w.cell? ⟨g, 0 + k * 5 + j, none⟩ = (accCells (ns.getD k ByteArray.empty))[j]? := fun j hj => by
      rw [h.cellAt (0 + k * 5 + j) (by omega), Nat.zero_add, accRow_get ns k j hk hj]
    exact ⟨hc 0 (by omega), hc 1 (by omega), hc 2 (by omega), hc 3 (by omega), hc 4 (by omega)⟩

/-- An owned row is a nil slice, or a block of its element's type. -/
theorem owns_block {w : World} {base e size : Nat} {a : Option Addr} {n cap : Nat} {xs : List Value} (h : w.ownsRow base e size (.slice a n cap) n xs) {b : Nat} (hb : (Value.slice a n cap).ownBlock = some b) : base ≤ b ∧ ∃ cur, w.heap[b]? = some (.cells cur e (0, 0)) := by
  rcases h.2 with ⟨hv, h0⟩ | ⟨g, cap', cur, hv, hg, hh, _⟩
  · rw [hv] at hb; simp [Value.ownBlock] at hb
  · rw [hv] at hb
    simp [Value.ownBlock] at hb
    subst hb
    exact ⟨hg, cur, hh⟩

theorem owns_slice {w : World} {base e size : Nat} {v : Value} {n : Nat} {xs : List Value} (h : w.ownsRow base e size v n xs) : ∃ a cap, v = .slice a n cap := by
  rcases h.2 with ⟨rfl, rfl⟩ | ⟨g, cap', cur, rfl, _⟩
  · exact ⟨none, 0, rfl⟩
  · exact ⟨_, _, rfl⟩

theorem IndexOk.kept {w w' : World} {m : Option Nat} {ns : List ByteArray} {row : Option Nat} (h : IndexOk w m ns) (hg : w.grownBy w' row) (hne : ∀ b, m = some b → some b ≠ row) : IndexOk w' m ns := by
  cases m with
  | none => exact h
  | some b => exact MapIs.kept h hg (hne b rfl)

/-- The state. w0: the world in which the call began. -/
structure St (w0 wr : World) (a0 : Option Addr) (L : Nat) (rs : List ByteArray) (bx base : Nat) (m : Option Nat) (dI : List ByteArray) (bf : Nat) (dF : List ByteArray) (aO : Option Addr) (capO : Nat) (dO : List ByteArray) (aA : Option Addr) (capA : Nat) (dA : List ByteArray) : Prop where
  rows : StrArg wr a0 L rs
  rowsLt : ∀ x, a0 = some x → 0 < L → x.block < bx
  bxGe : w0.heap.size ≤ bx
  bxLt : bx < base
  baseLe : base ≤ wr.heap.size
  xcell : wr.heap[bx]? = some (.cells #[.map m] 61 (0, 0))
  index : IndexOk wr m dI
  mGe : ∀ b, m = some b → base ≤ b
  mne : m ≠ some bf
  bfGe : base ≤ bf
  first : MapIs wr bf dF.length (idx dF)
  order : wr.ownsRow base 9 1 (.slice aO dO.length capO) dO.length (strRow dO)
  accs : wr.ownsRow base 42 5 (.slice aA dA.length capA) dA.length (accRow dA)
  below : Below w0.heap.size w0 wr

section
variable {w0 wr w' : World} {a0 : Option Addr} {L : Nat} {rs : List ByteArray} {bx base : Nat} {m : Option Nat} {dI : List ByteArray} {bf : Nat} {dF : List ByteArray} {aO : Option Addr} {capO : Nat} {dO : List ByteArray} {aA : Option Addr} {capA : Nat} {dA : List ByteArray}

theorem St.orderNe (h : St w0 wr a0 L rs bx base m dI bf dF aO capO dO aA capA dA) {b : Nat} (hb : (Value.slice aO dO.length capO).ownBlock = some b) : base ≤ b ∧ b ≠ bf ∧ m ≠ some b ∧ (Value.slice aA dA.length capA).ownBlock ≠ some b := by
  obtain ⟨h1, cur, hc⟩ := owns_block h.order hb
  refine ⟨h1, fun e => h.first.ne_cells hc e.symm, fun e => ?_, fun e => ?_⟩
  · have := h.index
    rw [e] at this
    exact MapIs.ne_cells this hc rfl
  · obtain ⟨_, cur', hc'⟩ := owns_block h.accs e
    rw [hc] at hc'
    simp at hc'

theorem St.accsNe (h : St w0 wr a0 L rs bx base m dI bf dF aO capO dO aA capA dA) {b : Nat} (hb : (Value.slice aA dA.length capA).ownBlock = some b) : base ≤ b ∧ b ≠ bf ∧ m ≠ some b ∧ (Value.slice aO dO.length capO).ownBlock ≠ some b := by
  obtain ⟨h1, cur, hc⟩ := owns_block h.accs hb
  refine ⟨h1, fun e => h.first.ne_cells hc e.symm, fun e => ?_, fun e => ?_⟩
  · have := h.index
    rw [e] at this
    exact MapIs.ne_cells this hc rfl
  · obtain ⟨_, cur', hc'⟩ := owns_block h.order e
    rw [hc] at hc'
    simp at hc'

theorem St.rowsNe (h : St w0 wr a0 L rs bx base m dI bf dF aO capO dO aA capA dA) {b : Nat} (hb : bx ≤ b) : ∀ x, a0 = some x → 0 < L → some x.block ≠ some b := fun x hx hl e => by
  have := h.rowsLt x hx hl
  simp at e
  omega

/-- A new block. -/
theorem St.alloc (h : St w0 wr a0 L rs bx base m dI bf dF aO capO dO aA capA dA) (o : Obj) : St w0 (wr.alloc o) a0 L rs bx base m dI bf dF aO capO dO aA capA dA := by
  have hg := World.grownBy_alloc wr o none
  have hbx : bx < wr.heap.size := Nat.lt_of_lt_of_le h.bxLt h.baseLe
  exact ⟨h.rows.grown hg (fun _ _ _ => by simp), h.rowsLt, h.bxGe, h.bxLt, by simp; have := h.baseLe; omega, (hg.block bx hbx (by simp)).trans h.xcell, h.index.kept hg (fun _ _ => by simp), h.mGe, h.mne, h.bfGe, h.first.kept hg (by simp), h.order.alloc o, h.accs.alloc o,
    h.below.alloc (Nat.le_trans h.bxGe (Nat.le_of_lt hbx)) o⟩

/-- Behind 'find'. -/
theorem St.found (h : St w0 wr a0 L rs bx base m dI bf dF aO capO dO aA capA dA) {s : ByteArray} (hF : Found wr w' bx m dI s) : ∃ m', St w0 w' a0 L rs bx base m' dI bf dF aO capO dO aA capA dA ∧ (m' = none ↔ m = none ∧ inOrd dI s) := by
  obtain ⟨m', hx, hi, hg, hiff, hm⟩ := hF
  have hbx : bx < wr.heap.size := Nat.lt_of_lt_of_le h.bxLt h.baseLe
  have hb1 := h.bxLt
  refine ⟨m', ⟨h.rows.grown hg (h.rowsNe (Nat.le_refl _)), h.rowsLt, h.bxGe, h.bxLt, Nat.le_trans h.baseLe hg.size, hx, hi, ?_, ?_, h.bfGe, h.first.kept hg (fun e => ?_), h.order.kept hg ?_, h.accs.kept hg ?_, h.below.grown hg (Nat.le_trans h.bxGe (Nat.le_of_lt hbx)) (fun k hk => by cases hk; exact h.bxGe)⟩, hiff⟩
  · intro b hb
    rcases hm with rfl | rfl
    · exact h.mGe b hb
    · cases hb; exact h.baseLe
  · rcases hm with rfl | rfl
    · exact h.mne
    · intro e
      simp at e
      have := h.first.lt
      omega
  · have := h.bfGe
    simp at e
    omega
  · refine Or.inr fun e => ?_
    have := (h.orderNe e).1
    omega
  · refine Or.inr fun e => ?_
    have := (h.accsNe e).1
    omega

/-- 'first[r] = n'. -/
theorem St.putFirst (h : St w0 wr a0 L rs bx base m dI bf dF aO capO dO aA capA dA) {r : ByteArray} (hr : r ∉ dF) (hm : MapIs w' bf (if (idx dF r).isSome then dF.length else dF.length + 1) (put (idx dF) r dF.length)) (hg : wr.grownBy w' (some bf)) :
    St w0 w' a0 L rs bx base m dI bf (dF ++ [r]) aO capO dO aA capA dA := by
  have hbx : bx < wr.heap.size := Nat.lt_of_lt_of_le h.bxLt h.baseLe
  have hb1 := h.bxLt
  have hb2 := h.bfGe
  refine ⟨h.rows.grown hg (h.rowsNe (by omega)), h.rowsLt, h.bxGe, h.bxLt, Nat.le_trans h.baseLe hg.size, (hg.block bx hbx (by simp; omega)).trans h.xcell, h.index.kept hg (fun b hb e => h.mne (by rw [hb, e])), h.mGe, h.mne, h.bfGe, ?_, h.order.kept hg (Or.inr fun e => (h.orderNe e).2.1 rfl), h.accs.kept hg (Or.inr fun e => (h.accsNe e).2.1 rfl),
    h.below.grown hg (Nat.le_trans h.bxGe (Nat.le_of_lt hbx)) (fun k hk => by cases hk; have := h.bxGe; omega)⟩
  rw [idx_none hr] at hm
  rw [List.length_append]
  exact MapIs.congr (show MapIs w' bf (dF.length + 1) _ from hm) fun s => idx_snoc dF r hr s

/-- 'p[r] = n'. -/
theorem St.putIndex {b : Nat} (h : St w0 wr a0 L rs bx base (some b) dI bf dF aO capO dO aA capA dA) {r : ByteArray} (hr : r ∉ dI) (hm : MapIs w' b (if (idx dI r).isSome then dI.length else dI.length + 1) (put (idx dI) r dI.length)) (hg : wr.grownBy w' (some b)) :
    St w0 w' a0 L rs bx base (some b) (dI ++ [r]) bf dF aO capO dO aA capA dA := by
  have hbx : bx < wr.heap.size := Nat.lt_of_lt_of_le h.bxLt h.baseLe
  have hb1 := h.bxLt
  have hb2 := h.mGe b rfl
  refine ⟨h.rows.grown hg (h.rowsNe (by omega)), h.rowsLt, h.bxGe, h.bxLt, Nat.le_trans h.baseLe hg.size, (hg.block bx hbx (by simp; omega)).trans h.xcell, ?_, h.mGe, h.mne, h.bfGe, h.first.kept hg (fun e => h.mne e.symm), h.order.kept hg (Or.inr fun e => (h.orderNe e).2.2.1 rfl), h.accs.kept hg (Or.inr fun e => (h.accsNe e).2.2.1 rfl),
    h.below.grown hg (Nat.le_trans h.bxGe (Nat.le_of_lt hbx)) (fun k hk => by cases hk; have := h.bxGe; omega)⟩
  rw [idx_none hr] at hm
  show MapIs w' b (dI ++ [r]).length (idx (dI ++ [r]))
  rw [List.length_append]
  exact MapIs.congr (show MapIs w' b (dI.length + 1) _ from hm) fun s => idx_snoc dI r hr s

/-- While the index is nil nothing is recorded: a name above the last. -/
theorem St.skipIndex (h : St w0 wr a0 L rs bx base none dI bf dF aO capO dO aA capA dA) {r : ByteArray} (hr : r ∉ dI) (ho : inOrd dI r) : St w0 wr a0 L rs bx base none (dI ++ [r]) bf dF aO capO dO aA capA dA := by
  refine { h with index := ?_ }
  have hi : Inc dI := h.index
  show Inc (dI ++ [r])
  unfold Inc at hi ⊢
  rw [List.pairwise_append]
  refine ⟨hi, by simp, fun x hx y hy => ?_⟩
  simp at hy
  subst hy
  rcases ho with h0 | h0
  · rw [List.length_eq_zero_iff] at h0
    subst h0
    simp at hx
  · obtain ⟨i, hil, rfl⟩ := List.getElem_of_mem hx
    have hlast : dI.getD (dI.length - 1) ByteArray.empty = dI[dI.length - 1]'(by omega) := by rw [List.getD_eq_getElem?_getD, List.getElem?_eq_getElem (by omega)]; rfl
    rw [hlast] at h0
    have hb : blt (dI[dI.length - 1]'(by omega)) y = true := by
      cases hc : blt (dI[dI.length - 1]'(by omega)) y
      · exact absurd (blt_tri h0 hc) (fun e => hr (e ▸ List.getElem_mem _))
      · rfl
    by_cases he : i = dI.length - 1
    · subst he; exact hb
    · exact blt_trans (List.pairwise_iff_getElem.1 hi i (dI.length - 1) hil (by omega) (by omega)) hb

/-- 'order = append(order, r)'. -/
theorem St.grewOrder (h : St w0 wr a0 L rs bx base m dI bf dF aO capO dO aA capA dA) {r : ByteArray} {aO' : Option Addr} {capO' : Nat} (hown : w'.ownsRow base 9 1 (.slice aO' (dO.length + 1) capO') (dO.length + 1) (strRow dO ++ [.string r])) (hg : wr.grownBy w' (Value.slice aO dO.length capO).ownBlock) :
    St w0 w' a0 L rs bx base m dI bf dF aO' capO' (dO ++ [r]) aA capA dA := by
  have hbx : bx < wr.heap.size := Nat.lt_of_lt_of_le h.bxLt h.baseLe
  have hb1 := h.bxLt
  have hge : ∀ k, (Value.slice aO dO.length capO).ownBlock = some k → base ≤ k := fun k hk => (h.orderNe hk).1
  refine ⟨h.rows.grown hg (fun x hx hl e => ?_), h.rowsLt, h.bxGe, h.bxLt, Nat.le_trans h.baseLe hg.size, (hg.block bx hbx (fun e => ?_)).trans h.xcell, h.index.kept hg (fun b hb e => (h.orderNe e.symm).2.2.1 hb), h.mGe, h.mne, h.bfGe, h.first.kept hg (fun e => (h.orderNe e.symm).2.1 rfl), ?_, h.accs.kept hg ?_,
    h.below.grown hg (Nat.le_trans h.bxGe (Nat.le_of_lt hbx)) (fun k hk => by have := hge k hk; have := h.bxGe; omega)⟩
  · have := hge _ e.symm
    have := h.rowsLt x hx hl
    omega
  · have := hge _ e.symm
    omega
  · rw [List.length_append, strRow_snoc]
    exact hown
  · cases hk : (Value.slice aA dA.length capA).ownBlock with
    | none => exact Or.inl rfl
    | some b => exact Or.inr fun e => (h.accsNe hk).2.2.2 e.symm

/-- 'accs = append(accs, ZZNewAccount(r))'. -/
theorem St.grewAccs (h : St w0 wr a0 L rs bx base m dI bf dF aO capO dO aA capA dA) {r : ByteArray} {aA' : Option Addr} {capA' : Nat} (hown : w'.ownsRow base 42 5 (.slice aA' (dA.length + 1) capA') (dA.length + 1) (accRow dA ++ accCells r)) (hg : wr.grownBy w' (Value.slice aA dA.length capA).ownBlock) :
    St w0 w' a0 L rs bx base m dI bf dF aO capO dO aA' capA' (dA ++ [r]) := by
  have hbx : bx < wr.heap.size := Nat.lt_of_lt_of_le h.bxLt h.baseLe
  have hb1 := h.bxLt
  have hge : ∀ k, (Value.slice aA dA.length capA).ownBlock = some k → base ≤ k := fun k hk => (h.accsNe hk).1
  refine ⟨h.rows.grown hg (fun x hx hl e => ?_), h.rowsLt, h.bxGe, h.bxLt, Nat.le_trans h.baseLe hg.size, (hg.block bx hbx (fun e => ?_)).trans h.xcell, h.index.kept hg (fun b hb e => (h.accsNe e.symm).2.2.1 hb), h.mGe, h.mne, h.bfGe, h.first.kept hg (fun e => (h.accsNe e.symm).2.1 rfl), h.order.kept hg ?_, ?_,
    h.below.grown hg (Nat.le_trans h.bxGe (Nat.le_of_lt hbx)) (fun k hk => by have := hge k hk; have := h.bxGe; omega)⟩
  · have := hge _ e.symm
    have := h.rowsLt x hx hl
    omega
  · have := hge _ e.symm
    omega
  · cases hk : (Value.slice aO dO.length capO).ownBlock with
    | none => exact Or.inl rfl
    | some b => exact Or.inr fun e => (h.orderNe hk).2.2.2 e.symm
  · rw [List.length_append, accRow_snoc]
    exact hown
end

end Go.Proofs.Qxb6603349a
