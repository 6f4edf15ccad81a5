/-
  37, 26: (*desk).account.
-/
import Derived.Test.Qxb6603349aWalkD
namespace Go.Proofs.Qxb6603349a
open Go.RowKit Go.Maps
set_option linter.unusedVariables false

/-- w' is w with new blocks, and with writes to the blocks of S alone. -/
structure Ext (w w' : World) (S : Nat → Prop) : Prop where
  os : w'.os = w.os
  tape : w'.tape = w.tape
  output : w'.output = w.output
  size : w.heap.size ≤ w'.heap.size
  block : ∀ k, k < w.heap.size → ¬ S k → w'.heap[k]? = w.heap[k]?

theorem Ext.of_grown {w w' : World} {row : Option Nat} (h : w.grownBy w' row) : Ext w w' (fun k => some k = row) := ⟨h.os, h.tape, h.output, h.size, fun k hk hn => h.block k hk hn⟩
theorem Ext.of_below {w w' : World} (h : Below w.heap.size w w') (S : Nat → Prop) : Ext w w' S := ⟨h.os, h.tape, h.output, h.size, fun k hk _ => h.block k hk⟩
theorem Ext.mono {w w' : World} {S T : Nat → Prop} (h : Ext w w' S) (hST : ∀ k, S k → T k) : Ext w w' T := ⟨h.os, h.tape, h.output, h.size, fun k hk hn => h.block k hk (fun e => hn (hST k e))⟩
theorem Ext.trans {a b c : World} {S : Nat → Prop} (h : Ext a b S) (k : Ext b c S) : Ext a c S :=
  ⟨k.os.trans h.os, k.tape.trans h.tape, k.output.trans h.output, Nat.le_trans h.size k.size, fun i hi hn => (k.block i (Nat.lt_of_lt_of_le hi h.size) hn).trans (h.block i hi hn)⟩
theorem Ext.below {a w w' : World} {B : Nat} {S : Nat → Prop} (h : Below B a w) (hB : B ≤ w.heap.size) (k : Ext w w' S) (hS : ∀ i, S i → B ≤ i) : Below B a w' :=
  h.trans ⟨k.os, k.tape, k.output, k.size, fun i hi => k.block i (by omega) (fun e => by have := hS i e; omega)⟩

theorem MapIs.ext {w w' : World} {b n : Nat} {f : ByteArray → Option Int} {S : Nat → Prop} (h : MapIs w b n f) (he : Ext w w' S) (hn : ¬ S b) : MapIs w' b n f := h.of_block (he.block b h.lt hn)

theorem StrArg.ext {w w' : World} {a : Option Addr} {len : Nat} {ss : List ByteArray} {S : Nat → Prop} (h : StrArg w a len ss) (he : Ext w w' S) (hn : ∀ x, a = some x → 0 < len → ¬ S x.block) : StrArg w' a len ss := by
  have hlt := h.lt
  obtain ⟨h1, h2, h3, h4⟩ := h
  refine ⟨h1, h2, h3, fun hl => ?_⟩
  obtain ⟨b, off, rfl, hc⟩ := h4 hl
  exact ⟨b, off, rfl, fun k hk => (World.cell?_of_block (a := ⟨b, off + k, none⟩) (he.block b (hlt _ rfl hl) (hn _ rfl hl))).trans (hc k hk)⟩

theorem AccArg.ext {w w' : World} {a : Option Addr} {len : Nat} {ss : List ByteArray} {S : Nat → Prop} (h : AccArg w a len ss) (he : Ext w w' S) (hn : ∀ x, a = some x → 0 < len → ¬ S x.block) : AccArg w' a len ss := by
  have hlt := h.lt
  obtain ⟨h1, h2, h3⟩ := h
  refine ⟨h1, h2, fun hl => ?_⟩
  obtain ⟨b, off, rfl, hc⟩ := h3 hl
  exact ⟨b, off, rfl, fun k hk => (hc k hk).of_block (he.block b (hlt _ rfl hl) (hn _ rfl hl))⟩

theorem owns_ext {w w' : World} {base e size : Nat} {a : Option Addr} {n cap : Nat} {xs : List Value} {S : Nat → Prop} (h : w.ownsRow base e size (.slice a n cap) n xs) (he : Ext w w' S) (hn : ∀ b, (Value.slice a n cap).ownBlock = some b → ¬ S b) : w'.ownsRow base e size (.slice a n cap) n xs := by
  have hlt := h.lt
  obtain ⟨h1, h2⟩ := h
  refine ⟨h1, ?_⟩
  rcases h2 with h2 | ⟨g, cap', cur, hv, hg, hh, r⟩
  · exact Or.inl h2
  · have hob : (Value.slice a n cap).ownBlock = some g := by rw [hv]; rfl
    exact Or.inr ⟨g, cap', cur, hv, hg, (he.block g (hlt g hob).2 (hn g hob)).trans hh, r⟩

/-- A desk over a register. -/
structure DeskSt (w : World) (bd br bi base : Nat) (aR : Option Addr) (capR : Nat) (hs : List ByteArray) (aD : Option Addr) (capD : Nat) (ds : List ByteArray) : Prop where
  desk : DeskAt w bd br aD ds.length capD bi
  reg : RegAt w br aR hs.length capR
  racc : AccArg w aR hs.length hs
  rlt : ∀ x, aR = some x → 0 < hs.length → x.block < base
  inc : Inc hs
  opened : w.ownsRow base 42 5 (.slice aD ds.length capD) ds.length (accRow ds)
  index : MapIs w bi ds.length (idx ds)
  baseLe : base ≤ w.heap.size
  sizes : ∀ s ∈ ds, s.size ≤ maxLen

section
variable {w w' : World} {bd br bi base : Nat} {aR : Option Addr} {capR : Nat} {hs : List ByteArray} {aD : Option Addr} {capD : Nat} {ds : List ByteArray}

theorem DeskSt.ext {S : Nat → Prop} (h : DeskSt w bd br bi base aR capR hs aD capD ds) (he : Ext w w' S) (h1 : ¬ S bd) (h2 : ¬ S br) (h3 : ¬ S bi) (h4 : ∀ x, aR = some x → 0 < hs.length → ¬ S x.block) (h5 : ∀ b, (Value.slice aD ds.length capD).ownBlock = some b → ¬ S b) :
    DeskSt w' bd br bi base aR capR hs aD capD ds :=
  ⟨(he.block bd (lt_of_block h.desk) h1).trans h.desk, (he.block br (lt_of_block h.reg) h2).trans h.reg, h.racc.ext he h4, h.rlt, h.inc, owns_ext h.opened he h5, h.index.ext he h3, Nat.le_trans h.baseLe he.size, h.sizes⟩

theorem DeskSt.below (h : DeskSt w bd br bi base aR capR hs aD capD ds) (hb : Below w.heap.size w w') : DeskSt w' bd br bi base aR capR hs aD capD ds :=
  h.ext (Ext.of_below hb fun _ => False) (fun e => e) (fun e => e) (fun e => e) (fun _ _ _ e => e) (fun _ _ e => e)

theorem DeskSt.dacc (h : DeskSt w bd br bi base aR capR hs aD capD ds) : AccArg w aD ds.length ds := accArg_of_owns h.opened h.sizes

/-- The blocks that 'account' may write. -/
def deskBlocks (bd bi : Nat) (aD : Option Addr) (n capD : Nat) : Nat → Prop := fun k => k = bd ∨ k = bi ∨ (Value.slice aD n capD).ownBlock = some k

/-- The address of the shares of account i of a slice. -/
def sharesAt (a : Option Addr) (i : Nat) : Option Addr := a.map fun x => ⟨x.block, x.off + i * 5 + 1, none⟩

/-- What 'account' answers and leaves. -/
def Answered (w w' : World) (bd br bi base : Nat) (aR : Option Addr) (capR : Nat) (hs : List ByteArray) (aD : Option Addr) (capD : Nat) (ds : List ByteArray) (s : ByteArray) (p : Option Addr) : Prop :=
  match idx hs s with
  | some i => p = sharesAt aR i.toNat ∧ Below w.heap.size w w'
  | none => match idx ds s with
    | some j => p = sharesAt aD j.toNat ∧ Below w.heap.size w w'
    | none => ∃ aD' capD', DeskSt w' bd br bi base aR capR hs aD' capD' (ds ++ [s]) ∧ p = sharesAt aD' ds.length ∧ Ext w w' (deskBlocks bd bi aD ds.length capD)

end

theorem accArg_addr {w : World} {a : Option Addr} {n : Nat} {ns : List ByteArray} (h : AccArg w a n ns) (hn : 0 < n) : ∃ g off, a = some ⟨g, off, none⟩ := by
  obtain ⟨g, off, ha, _⟩ := h.2.2 hn
  exact ⟨g, off, ha⟩

set_option maxHeartbeats 1000000 in
set_option maxRecDepth 100000 in
/-- The register holds the name. -/
theorem account37a (bd br bi base : Nat) (aR : Option Addr) (capR : Nat) (hs : List ByteArray) (aD : Option Addr) (capD : Nat) (ds : List ByteArray) (s : ByteArray) (w : World) (h : DeskSt w bd br bi base aR capR hs aD capD ds) (hn : hs.length ≤ 1048576) (i : Int) (hi : idx hs s = some i) :
    Calls Try.prog 37 #[.pointer (some ⟨bd, 0, none⟩), .string s] w fun e w' => ∃ p, e = .returned (.pointer p) ∧ Answered w w' bd br bi base aR capR hs aD capD ds s p := by
  obtain ⟨j, rfl, hj, _⟩ := idx_lt hi
  obtain ⟨g, off, rfl⟩ := accArg_addr h.racc (by omega)
  have c41 := find41 ByteArray.empty (some ⟨g, off, none⟩) hs.length capR hs s w h.racc h.inc hn
  obtain ⟨d0, d1, d2, _⟩ := h.desk.cells
  obtain ⟨r0, r1⟩ := h.reg.cells
  go_enter Try.func37, Try.ntmps37
  go_wp2_with fail
  refine c41.mono ?_
  rintro e w1 ⟨⟨i, rfl, hik⟩, hb⟩
  clear c41 d0 d1 d2 r0 r1
  obtain rfl := hik _ hi
  have hA : Answered w w1 bd br bi base (some ⟨g, off, none⟩) capR hs aD capD ds s (some ⟨g, off + j * 5 + 1, none⟩) := by
    unfold Answered
    rw [hi]
    exact ⟨by simp [sharesAt], hb⟩
  have h' := h.below hb
  obtain ⟨d0, d1, d2, _⟩ := h'.desk.cells
  obtain ⟨r0, r1⟩ := h'.reg.cells
  have hI : (idx hs s).isSome = true := by rw [hi]; rfl
  clear h h' hi hik
  go_wp2
  go_ret
  exact ⟨_, rfl, hA⟩

set_option maxHeartbeats 1000000 in
set_option maxRecDepth 100000 in
/-- The desk has opened the name before. -/
theorem account37b (bd br bi base : Nat) (aR : Option Addr) (capR : Nat) (hs : List ByteArray) (aD : Option Addr) (capD : Nat) (ds : List ByteArray) (s : ByteArray) (w : World) (h : DeskSt w bd br bi base aR capR hs aD capD ds) (hn : hs.length ≤ 1048576) (hn2 : ds.length ≤ 1048576) (hsz : s.size ≤ maxLen) (hi : idx hs s = none) (i : Int) (hj : idx ds s = some i) :
    Calls Try.prog 37 #[.pointer (some ⟨bd, 0, none⟩), .string s] w fun e w' => ∃ p, e = .returned (.pointer p) ∧ Answered w w' bd br bi base aR capR hs aD capD ds s p := by
  obtain ⟨j, rfl, hjl, _⟩ := idx_lt hj
  obtain ⟨g, off, rfl⟩ := accArg_addr h.dacc (by omega)
  have c41 := find41 ByteArray.empty aR hs.length capR hs s w h.racc h.inc hn
  obtain ⟨d0, d1, d2, _⟩ := h.desk.cells
  obtain ⟨r0, r1⟩ := h.reg.cells
  go_enter Try.func37, Try.ntmps37
  go_wp2_with fail
  refine c41.mono ?_
  rintro e w1 ⟨⟨i, rfl, hik⟩, hb⟩
  clear c41 d0 d1 d2 r0 r1 hik
  have hA : Answered w w1 bd br bi base aR capR hs (some ⟨g, off, none⟩) capD ds s (some ⟨g, off + j * 5 + 1, none⟩) := by
    unfold Answered
    rw [hi]
    simp only
    rw [hj]
    exact ⟨by simp [sharesAt], hb⟩
  have h' := h.below hb
  obtain ⟨d0, d1, d2, _⟩ := h'.desk.cells
  have hmap := h'.index
  have hI : (idx hs s).isSome = false := by rw [hi]; rfl
  have hj1 : (idx ds s).getD 0 = (j : Int) := by rw [hj]; rfl
  have hj2 : (idx ds s).isSome = true := by rw [hj]; rfl
  clear h h' hi hj
  go_wp2_with (at_lookup; refine wpList_look' _ rfl _ _ rfl bi ds.length (idx ds) s j true rfl rfl hmap hsz hj1 hj2 ?_)
  go_ret
  exact ⟨_, rfl, hA⟩

theorem wpList_appAcc {ops : Array Oper} {rest : List Oper} {o : Oper} {act : Act} {Q : Exit → Act → World → Prop} {wr : World} {base : Nat} {a' : Option Addr} {cap' n : Nat} {ns : List ByteArray}
    (hg : o.guard = none) (s x : Operand) (hop : o.op = .call { callee := .builtin .append, args := #[s, x], argTypes := #[28, 28] }) (g of : Nat) (r : ByteArray)
    (hs : act.eval s = .slice a' n cap') (hx : act.eval x = .slice (some ⟨g, of, none⟩) 1 1) (hc : AccAt wr g of r) (hn0 : n = ns.length) (h : wr.ownsRow base 42 5 (.slice a' ns.length cap') ns.length (accRow ns)) (hb : base ≤ wr.heap.size) (hn : ns.length ≤ 1048576)
    (hK : ∀ g1 cap1 w1, w1.ownsRow base 42 5 (.slice (some ⟨g1, 0, none⟩) (ns ++ [r]).length cap1) (ns ++ [r]).length (accRow (ns ++ [r])) → wr.grownBy w1 (Value.slice a' ns.length cap').ownBlock → wpList Try.prog ops Q rest (act.put o.dst (.slice (some ⟨g1, 0, none⟩) (n + 1) cap1)) w1) :
    wpList Try.prog ops Q (o :: rest) act wr := by
  subst hn0
  obtain ⟨i0, hi, hz0, hz1, hz2⟩ := info_parts Try.info42
  obtain ⟨c0, c1, c2, c3, c4⟩ := hc
  refine wpList_append_own wr hg s x 28 hop base 42 i0 _ 5 48 Try.underlying28 hi hz0 hz1 hz2 rfl (by decide) _ _ _ hs h ⟨g, of, none⟩ 1 1 (accCells r) hx rfl ?_ ?_ (by unfold maxLen; omega) (by omega) hb ?_
  · intro j u hj
    rw [Go.WideShapes.add_plain]
    match j, hj with
    | 0, hj => simp only [accCells, List.getElem?_cons_zero, Option.some.injEq] at hj; subst hj; exact c0
    | 1, hj => simp [accCells] at hj; subst hj; exact c1
    | 2, hj => simp [accCells] at hj; subst hj; exact c2
    | 3, hj => simp [accCells] at hj; subst hj; exact c3
    | 4, hj => simp [accCells] at hj; subst hj; exact c4
  · intro u hu
    simp [accCells] at hu
    rcases hu with rfl | rfl <;> rfl
  · intro v' w' hown hgr _
    obtain ⟨g1, cap1, rfl⟩ : ∃ g1 cap1, v' = .slice (some ⟨g1, 0, none⟩) (ns.length + 1) cap1 := by
      rcases hown.2 with ⟨_, h0⟩ | ⟨g1, cap1, _, hv, _⟩
      · omega
      · exact ⟨g1, cap1, hv⟩
    refine hK g1 cap1 w' ?_ hgr
    rw [List.length_append, accRow_snoc]
    exact hown

section
variable {w w' : World} {bd br bi base : Nat} {aR : Option Addr} {capR : Nat} {hs : List ByteArray} {aD : Option Addr} {capD : Nat} {ds : List ByteArray}

/-- The blocks of a desk are apart. -/
theorem DeskSt.apart (h : DeskSt w bd br bi base aR capR hs aD capD ds) : bd ≠ br ∧ bd ≠ bi ∧ br ≠ bi ∧ ∀ b, (Value.slice aD ds.length capD).ownBlock = some b → base ≤ b ∧ b ≠ bd ∧ b ≠ br ∧ b ≠ bi := by
  refine ⟨fun e => ?_, fun e => h.index.ne_cells h.desk e.symm, fun e => h.index.ne_cells h.reg e.symm, fun b hb => ?_⟩
  · have h1 := h.desk
    have h2 := h.reg
    unfold DeskAt at h1
    unfold RegAt at h2
    rw [e, h2] at h1
    simp at h1
  · obtain ⟨h1, cur, hc⟩ := owns_block h.opened hb
    refine ⟨h1, fun e => ?_, fun e => ?_, fun e => h.index.ne_cells hc e.symm⟩
    · have h2 := h.desk
      unfold DeskAt at h2
      rw [← e, hc] at h2
      simp at h2
    · have h2 := h.reg
      unfold RegAt at h2
      rw [← e, hc] at h2
      simp at h2

theorem DeskSt.rapart (h : DeskSt w bd br bi base aR capR hs aD capD ds) : ∀ x, aR = some x → 0 < hs.length → x.block ≠ bd ∧ x.block ≠ br ∧ x.block ≠ bi ∧ x.block < base := by
  intro x hx hl
  have hlt := h.rlt x hx hl
  obtain ⟨g, off, ha, hc⟩ := h.racc.2.2 hl
  rw [hx] at ha
  cases ha
  have hcell := (hc 0 hl).1
  refine ⟨fun e => ?_, fun e => ?_, fun e => ?_, hlt⟩
  · have h2 := h.desk
    unfold DeskAt at h2
    simp only at e
    subst e
    rw [cell_of_row w g _ _ 69 (0, 0) h2] at hcell
    have : ∀ o : Nat, (#[Value.pointer (some ⟨br, 0, none⟩), .slice aD ds.length capD, .map (some bi)] : Array Value)[o]? ≠ some (Value.string (hs.getD 0 ByteArray.empty)) := by
      intro o
      match o with
      | 0 => simp
      | 1 => simp
      | 2 => simp
      | o + 3 => simp
    exact this _ hcell
  · have h2 := h.reg
    unfold RegAt at h2
    simp only at e
    subst e
    rw [cell_of_row w g _ _ 66 (0, 0) h2] at hcell
    have hint := (hc 0 hl).2.1
    rw [cell_of_row w g _ _ 66 (0, 0) h2] at hint
    have : ∀ o : Nat, (#[Value.string ByteArray.empty, .slice aR hs.length capR] : Array Value)[o]? ≠ some (Value.int .i64 0) := by
      intro o
      match o with
      | 0 => simp
      | 1 => simp
      | o + 2 => simp
    exact this _ hint
  · obtain ⟨H, D, ⟨es, clock, hh, _⟩, _⟩ := h.index
    simp only at e
    subst e
    simp [World.cell?, hh] at hcell

/-- What the opening of an account does to the desk. -/
theorem DeskSt.opens {w1 w2 w3 : World} {s : ByteArray} {o : Obj} {aD' : Option Addr} {capD' : Nat} (h : DeskSt w1 bd br bi base aR capR hs aD capD ds) (hs' : s.size ≤ maxLen) (hnew : s ∉ ds)
    (hm : MapIs w2 bi (if (idx ds s).isSome then ds.length else ds.length + 1) (put (idx ds) s ds.length)) (hg2 : w1.grownBy w2 (some bi))
    (hown : w3.ownsRow base 42 5 (.slice aD' (ds ++ [s]).length capD') (ds ++ [s]).length (accRow (ds ++ [s]))) (hg3 : (w2.alloc o).grownBy w3 (Value.slice aD ds.length capD).ownBlock) :
    DeskSt (w3.setCell ⟨bd, 1, none⟩ (.slice aD' (ds ++ [s]).length capD')) bd br bi base aR capR hs aD' capD' (ds ++ [s]) ∧ Ext w1 (w3.setCell ⟨bd, 1, none⟩ (.slice aD' (ds ++ [s]).length capD')) (deskBlocks bd bi aD ds.length capD) := by
  obtain ⟨n1, n2, n3, n4⟩ := h.apart
  have hR := h.rapart
  have e2 : Ext w1 w2 (deskBlocks bd bi aD ds.length capD) := (Ext.of_grown hg2).mono fun k hk => Or.inr (Or.inl (by simpa using hk))
  have e2a : Ext w2 (w2.alloc o) (deskBlocks bd bi aD ds.length capD) := (Ext.of_grown (World.grownBy_alloc w2 o none)).mono fun k hk => by cases hk
  have e3 : Ext (w2.alloc o) w3 (deskBlocks bd bi aD ds.length capD) := (Ext.of_grown hg3).mono fun k hk => Or.inr (Or.inr hk.symm)
  have e13 := (e2.trans e2a).trans e3
  have e4 : Ext w3 (w3.setCell ⟨bd, 1, none⟩ (.slice aD' (ds ++ [s]).length capD')) (fun k => k = bd) := ⟨rfl, rfl, rfl, by simp [World.setCell], fun k _ hk => Below.heap_setCell _ _ _ _ (fun e => hk e)⟩
  have hbd1 := lt_of_block h.desk
  have hbr1 := lt_of_block h.reg
  have hdesk3 : DeskAt w3 bd br aD ds.length capD bi := by
    have d2 := hg2.block bd hbd1 (by simpa using n2)
    have d2a := (World.grownBy_alloc w2 o none).block bd (Nat.lt_of_lt_of_le hbd1 hg2.size) (by simp)
    have d3 := hg3.block bd (Nat.lt_of_lt_of_le hbd1 (Nat.le_trans hg2.size (by simp))) (fun e => (n4 bd e.symm).2.1 rfl)
    unfold DeskAt
    rw [d3, d2a, d2]
    exact h.desk
  have hreg3 : RegAt w3 br aR hs.length capR := by
    have d2 := hg2.block br hbr1 (by simpa using n3)
    have d2a := (World.grownBy_alloc w2 o none).block br (Nat.lt_of_lt_of_le hbr1 hg2.size) (by simp)
    have d3 := hg3.block br (Nat.lt_of_lt_of_le hbr1 (Nat.le_trans hg2.size (by simp))) (fun e => (n4 br e.symm).2.2.1 rfl)
    unfold RegAt
    rw [d3, d2a, d2]
    exact h.reg
  have hmap3 : MapIs w3 bi (ds ++ [s]).length (idx (ds ++ [s])) := by
    rw [idx_none hnew] at hm
    have hm' : MapIs w2 bi (ds ++ [s]).length (idx (ds ++ [s])) := by
      rw [List.length_append]
      exact MapIs.congr (show MapIs w2 bi (ds.length + 1) _ from hm) fun t => idx_snoc ds s hnew t
    exact (hm'.kept (World.grownBy_alloc w2 o none) (by simp)).kept hg3 (fun e => (n4 bi e.symm).2.2.2 rfl)
  have hracc3 : AccArg w3 aR hs.length hs := h.racc.ext e13 (fun x hx hl e => by
    obtain ⟨q1, q2, q3, q4⟩ := hR x hx hl
    rcases e with e | e | e
    · exact q1 e
    · exact q3 e
    · have := (n4 _ e).1
      omega)
  refine ⟨⟨?_, (e4.block br (lt_of_block hreg3) (fun e => n1 e.symm)).trans hreg3, hracc3.ext e4 (fun x hx hl e => (hR x hx hl).1 e), h.rlt, h.inc, owns_ext hown e4 (fun b hb e => ?_), hmap3.ext e4 (fun e => n2 e.symm), ?_, ?_⟩, e13.trans (e4.mono fun k hk => Or.inl hk)⟩
  · unfold DeskAt at hdesk3 ⊢
    rw [heap_setCell_same w3 bd 1 _ 69 _ hdesk3]
    rfl
  · obtain ⟨_, cur, hc⟩ := owns_block hown hb
    unfold DeskAt at hdesk3
    rw [e] at hc
    rw [hc] at hdesk3
    simp at hdesk3
  · exact Nat.le_trans h.baseLe (Nat.le_trans e13.size e4.size)
  · intro t ht
    rw [List.mem_append] at ht
    rcases ht with ht | ht
    · exact h.sizes t ht
    · simp at ht
      subst ht
      exact hs'
end

set_option maxHeartbeats 1000000 in
set_option maxRecDepth 100000 in
/-- A new account is opened. -/
theorem account37c (bd br bi base : Nat) (aR : Option Addr) (capR : Nat) (hs : List ByteArray) (aD : Option Addr) (capD : Nat) (ds : List ByteArray) (s : ByteArray) (w : World) (h : DeskSt w bd br bi base aR capR hs aD capD ds) (hn : hs.length ≤ 1048576) (hn2 : ds.length ≤ 1048575) (hsz : s.size ≤ maxLen) (hi : idx hs s = none) (hj : idx ds s = none) :
    Calls Try.prog 37 #[.pointer (some ⟨bd, 0, none⟩), .string s] w fun e w' => ∃ p, e = .returned (.pointer p) ∧ Answered w w' bd br bi base aR capR hs aD capD ds s p := by
  have c41 := find41 ByteArray.empty aR hs.length capR hs s w h.racc h.inc hn
  obtain ⟨d0, d1, d2, _⟩ := h.desk.cells
  obtain ⟨r0, r1⟩ := h.reg.cells
  go_enter Try.func37, Try.ntmps37
  go_wp2_with fail
  refine c41.mono ?_
  rintro e w1 ⟨⟨i, rfl, hik⟩, hb⟩
  clear c41 d0 d1 d2 r0 r1 hik
  have hA : ∀ w' aD' capD', DeskSt w' bd br bi base aR capR hs aD' capD' (ds ++ [s]) → Ext w1 w' (deskBlocks bd bi aD ds.length capD) → Answered w w' bd br bi base aR capR hs aD capD ds s (sharesAt aD' ds.length) := by
    intro w' aD' capD' hd he
    unfold Answered
    rw [hi]
    simp only
    rw [hj]
    exact ⟨aD', capD', hd, rfl, (Ext.of_below hb _).trans he⟩
  have h' := h.below hb
  obtain ⟨d0, d1, d2, df⟩ := h'.desk.cells
  have hmap := h'.index
  have hI : (idx hs s).isSome = false := by rw [hi]; rfl
  have hj1 : (idx ds s).getD 0 = 0 := by rw [hj]; rfl
  have hj2 : (idx ds s).isSome = false := by rw [hj]; rfl
  have hnew : s ∉ ds := idx_none_mem hj
  have hopens := fun (w2 w3 : World) (o : Obj) (aD' : Option Addr) (capD' : Nat) => h'.opens (w2 := w2) (w3 := w3) (s := s) (o := o) (aD' := aD') (capD' := capD') hsz hnew
  obtain ⟨n1, n2, n3, n4⟩ := h'.apart
  have hbd := lt_of_block h'.desk
  have hown := h'.opened
  have hbase := h'.baseLe
  clear h h' hi hj
  have ob : Hid (∀ b, (Value.slice aD ds.length capD).ownBlock = some b → base ≤ b ∧ b ≠ bd ∧ b ≠ br ∧ b ≠ bi) := n4
  have hobi : Hid ((Value.slice aD ds.length capD).ownBlock = none ∨ (Value.slice aD ds.length capD).ownBlock ≠ some bi) := Or.inr fun e => (n4 bi e).2.2.2 rfl
  have hnb : Hid (∀ (w2 : World), w1.grownBy w2 (some bi) → w2.cell? ⟨bd, 1, none⟩ = some (.slice aD ds.length capD) ∧ base ≤ w2.heap.size ∧ bd < w2.heap.size ∧ w2.frozen? ⟨bd, 1, none⟩ = false) := fun w2 hg =>
    ⟨(World.cell?_of_block (a := ⟨bd, 1, none⟩) (hg.block bd hbd (by simpa using n2))).trans d1, Nat.le_trans hbase hg.size, Nat.lt_of_lt_of_le hbd hg.size, (World.frozen?_of_block (a := ⟨bd, 1, none⟩) (hg.block bd hbd (by simpa using n2))).trans (df 1)⟩
  clear n4 df
  go_wp2_with (first
    | (at_lookup; refine wpList_look' _ rfl _ _ rfl bi ds.length (idx ds) s 0 false rfl rfl hmap hsz hj1 hj2 ?_)
    | (at_mapUpdate; refine wpList_put _ rfl _ _ _ rfl bi ds.length (idx ds) s ds.length rfl rfl rfl hmap hsz (WalkArith.wf_i64 (by omega)) (by unfold maxLen; omega) ?_; intro w2 hm2 hg2; obtain ⟨e1, e2, e3, e4⟩ := hnb.out w2 hg2)
    | (at_builtin; refine wpList_appAcc (base := base) (ns := ds) rfl _ _ rfl w2.heap.size 0 s rfl rfl (acc_new _ s _ rfl) rfl ((hown.kept hg2 hobi.out).alloc _) (by simp; omega) (by omega) ?_; intro gD capD' w3 hown3 hg3; have f1 := (World.cell?_of_block (a := ⟨bd, 1, none⟩) (hg3.block bd (by simp; omega) (fun e => (ob.out bd e.symm).2.1 rfl))); have f2 := (World.frozen?_of_block (a := ⟨bd, 1, none⟩) (hg3.block bd (by simp; omega) (fun e => (ob.out bd e.symm).2.1 rfl))))
    )
  go_ret
  have hfin := hopens w2 w3 _ _ _ hm2 hg2 hown3 hg3
  have hlen : (ds ++ [s]).length = ds.length + 1 := by simp
  rw [hlen] at hfin
  refine ⟨_, rfl, ?_⟩
  have := hA _ _ _ hfin.1 hfin.2
  simpa [sharesAt] using this

/-- '(*desk).account', whole. -/
theorem account37 (bd br bi base : Nat) (aR : Option Addr) (capR : Nat) (hs : List ByteArray) (aD : Option Addr) (capD : Nat) (ds : List ByteArray) (s : ByteArray) (w : World) (h : DeskSt w bd br bi base aR capR hs aD capD ds) (hn : hs.length ≤ 1048576) (hn2 : ds.length ≤ 1048575) (hsz : s.size ≤ maxLen) :
    Calls Try.prog 37 #[.pointer (some ⟨bd, 0, none⟩), .string s] w fun e w' => ∃ p, e = .returned (.pointer p) ∧ Answered w w' bd br bi base aR capR hs aD capD ds s p := by
  cases hi : idx hs s with
  | some i => exact account37a bd br bi base aR capR hs aD capD ds s w h hn i hi
  | none =>
    cases hj : idx ds s with
    | some j => exact account37b bd br bi base aR capR hs aD capD ds s w h hn (by omega) hsz hi j hj
    | none => exact account37c bd br bi base aR capR hs aD capD ds s w h hn hn2 hsz hi hj

set_option maxHeartbeats 400000 in
theorem account26 (bd br bi base : Nat) (aR : Option Addr) (capR : Nat) (hs : List ByteArray) (aD : Option Addr) (capD : Nat) (ds : List ByteArray) (s : ByteArray) (w : World) (h : DeskSt w bd br bi base aR capR hs aD capD ds) (hn : hs.length ≤ 1048576) (hn2 : ds.length ≤ 1048575) (hsz : s.size ≤ maxLen) :
    Calls Try.prog 26 #[.pointer (some ⟨bd, 0, none⟩), .string s] w fun e w' => ∃ p, e = .returned (.pointer p) ∧ Answered w w' bd br bi base aR capR hs aD capD ds s p := by
  have c := account37 bd br bi base aR capR hs aD capD ds s w h hn hn2 hsz
  clear h
  go_enter Try.func26, Try.ntmps26
  go_wp2_with (go_at_call 37; refine c.mono ?_; rintro e w' ⟨p, rfl, hA⟩)
  go_ret
  exact ⟨p, rfl, hA⟩
end Go.Proofs.Qxb6603349a
