/-
  The state of the desk script's main loop, and what each operation does to it.
-/
import Derived.Test.Qxb6603349aDesk
namespace Go.Proofs.Qxb6603349a
open Go.RowKit Go.Maps
set_option linter.unusedVariables false

/-- w0: the world in which the call began; b1: heldAt; b2: openAt; c0: no clone lies from here on. -/
structure L5 (w0 w : World) (b1 b2 bd br bi base base2 c0 : Nat) (aR : Option Addr) (capR : Nat) (hs : List ByteArray) (aD : Option Addr) (capD : Nat) (dD : List ByteArray) (dO : List ByteArray) (aW : Option Addr) (capW : Nat) (dW : List ByteArray) (aH aC : Option Addr) (nC : Nat) (cs : List ByteArray) : Prop where
  desk : DeskSt w bd br bi base aR capR hs aD capD dD
  heldAt : MapIs w b1 hs.length (idx hs)
  openAt : MapIs w b2 dO.length (idx dO)
  want : w.ownsRow base2 9 1 (.slice aW dW.length capW) dW.length (strRow dW)
  calls : StrArg w aC nC cs
  callsLt : ∀ x, aC = some x → 0 < nC → x.block < c0
  held : StrArg w aH hs.length hs
  heldLt : ∀ x, aH = some x → 0 < hs.length → x.block < c0
  n12 : b1 ≠ b2
  n1i : b1 ≠ bi
  n2i : b2 ≠ bi
  ci : c0 ≤ bi
  cd : c0 ≤ bd
  cb : c0 ≤ base
  c2 : c0 ≤ base2
  base2Le : base2 ≤ w.heap.size
  g2 : w0.heap.size ≤ b2
  gc : w0.heap.size ≤ c0
  below : Below w0.heap.size w0 w
  b2lt : b2 < c0
  bb : base ≤ base2

section
variable {w0 w w' : World} {b1 b2 bd br bi base base2 c0 : Nat} {aR : Option Addr} {capR : Nat} {hs : List ByteArray} {aD : Option Addr} {capD : Nat} {dD dO : List ByteArray} {aW : Option Addr} {capW : Nat} {dW : List ByteArray} {aH aC : Option Addr} {nC : Nat} {cs : List ByteArray}

theorem L5.sizes (h : L5 w0 w b1 b2 bd br bi base base2 c0 aR capR hs aD capD dD dO aW capW dW aH aC nC cs) : w0.heap.size ≤ w.heap.size := h.below.size

/-- Nothing old was written. -/
theorem L5.kept (h : L5 w0 w b1 b2 bd br bi base base2 c0 aR capR hs aD capD dD dO aW capW dW aH aC nC cs) (hb : Below w.heap.size w w') : L5 w0 w' b1 b2 bd br bi base base2 c0 aR capR hs aD capD dD dO aW capW dW aH aC nC cs :=
  { h with
    desk := h.desk.below hb
    heldAt := h.heldAt.below hb h.heldAt.lt
    openAt := h.openAt.below hb h.openAt.lt
    want := owns_ext h.want (Ext.of_below hb fun _ => False) (fun _ _ e => e)
    calls := h.calls.below hb h.calls.lt
    held := h.held.below hb h.held.lt
    base2Le := Nat.le_trans h.base2Le hb.size
    below := h.below.trans (hb.mono h.below.size) }

/-- A row of strings is no row of another type, no map. -/
theorem L5.wantNe (h : L5 w0 w b1 b2 bd br bi base base2 c0 aR capR hs aD capD dD dO aW capW dW aH aC nC cs) {b : Nat} (hb : (Value.slice aW dW.length capW).ownBlock = some b) :
    base2 ≤ b ∧ b ≠ b1 ∧ b ≠ b2 ∧ b ≠ bd ∧ b ≠ br ∧ b ≠ bi ∧ (Value.slice aD dD.length capD).ownBlock ≠ some b ∧ ∀ x, aR = some x → 0 < hs.length → x.block ≠ b := by
  obtain ⟨h1, cur, hc⟩ := owns_block h.want hb
  refine ⟨h1, fun e => h.heldAt.ne_cells hc e.symm, fun e => h.openAt.ne_cells hc e.symm, fun e => ?_, fun e => ?_, fun e => h.desk.index.ne_cells hc e.symm, fun e => ?_, fun x hx hl e => ?_⟩
  · have h2 := h.desk.desk
    unfold DeskAt at h2
    rw [← e, hc] at h2
    simp at h2
  · have h2 := h.desk.reg
    unfold RegAt at h2
    rw [← e, hc] at h2
    simp at h2
  · obtain ⟨_, cur', hc'⟩ := owns_block h.desk.opened e
    rw [hc] at hc'
    simp at hc'
  · have hlt := h.desk.rlt x hx hl
    have := h.bb
    omega

/-- A new account was opened. -/
theorem L5.opened {s : ByteArray} {aD' : Option Addr} {capD' : Nat} (h : L5 w0 w b1 b2 bd br bi base base2 c0 aR capR hs aD capD dD dO aW capW dW aH aC nC cs) (hd : DeskSt w' bd br bi base aR capR hs aD' capD' (dD ++ [s])) (he : Ext w w' (deskBlocks bd bi aD dD.length capD)) :
    L5 w0 w' b1 b2 bd br bi base base2 c0 aR capR hs aD' capD' (dD ++ [s]) dO aW capW dW aH aC nC cs := by
  have hge : ∀ k, deskBlocks bd bi aD dD.length capD k → c0 ≤ k := by
    rintro k (e | e | e)
    · rw [e]; exact h.cd
    · rw [e]; exact h.ci
    · exact Nat.le_trans h.cb (h.desk.apart.2.2.2 k e).1
  have hmap : ∀ b n f, MapIs w b n f → b ≠ bi → ¬ deskBlocks bd bi aD dD.length capD b := by
    rintro b n f hm hne (e | e | e)
    · exact hm.ne_cells h.desk.desk e
    · exact hne e
    · obtain ⟨_, cur, hc⟩ := owns_block h.desk.opened e
      exact hm.ne_cells hc rfl
  exact
  { h with
    desk := hd
    heldAt := h.heldAt.ext he (hmap _ _ _ h.heldAt h.n1i)
    openAt := h.openAt.ext he (hmap _ _ _ h.openAt h.n2i)
    want := owns_ext h.want he (fun b hb e => by
      obtain ⟨_, _, _, q1, _, q2, q3, _⟩ := h.wantNe hb
      rcases e with e | e | e
      · exact q1 e
      · exact q2 e
      · exact q3 e)
    calls := h.calls.ext he (fun x hx hl e => by have := hge _ e; have := h.callsLt x hx hl; omega)
    held := h.held.ext he (fun x hx hl e => by have := hge _ e; have := h.heldLt x hx hl; omega)
    base2Le := Nat.le_trans h.base2Le he.size
    below := Ext.below h.below h.below.size he (fun i hi => Nat.le_trans h.gc (hge i hi)) }

/-- 'openAt[name] = j'. -/
theorem L5.putOpen {s : ByteArray} (h : L5 w0 w b1 b2 bd br bi base base2 c0 aR capR hs aD capD dD dO aW capW dW aH aC nC cs) (hr : s ∉ dO) (hm : MapIs w' b2 (if (idx dO s).isSome then dO.length else dO.length + 1) (put (idx dO) s dO.length)) (hg : w.grownBy w' (some b2)) :
    L5 w0 w' b1 b2 bd br bi base base2 c0 aR capR hs aD capD dD (dO ++ [s]) aW capW dW aH aC nC cs := by
  have he := Ext.of_grown hg
  have hb2 := h.b2lt
  rw [idx_none hr] at hm
  have hno : ∀ k, some k = some b2 → k = b2 := fun k e => by simpa using e
  exact
  { h with
    desk := h.desk.ext he (fun e => by have := h.cd; have := hno _ e; omega) (fun e => h.openAt.ne_cells h.desk.reg (hno _ e).symm) (fun e => h.n2i (hno _ e).symm)
      (fun x hx hl e => by
        obtain ⟨g, off, ha, hcc⟩ := h.desk.racc.2.2 hl
        rw [hx] at ha
        cases ha
        have hc := (hcc 0 hl).1
        obtain ⟨H, D, ⟨es, clock, hh, _⟩, _⟩ := h.openAt
        have := hno _ e
        simp only at this
        subst this
        simp [World.cell?, hh] at hc)
      (fun b hb e => by
        obtain ⟨_, cur, hc⟩ := owns_block h.desk.opened hb
        exact h.openAt.ne_cells hc (hno _ e).symm)
    heldAt := h.heldAt.ext he (fun e => h.n12 (hno _ e))
    openAt := by
      rw [List.length_append]
      exact MapIs.congr (show MapIs w' b2 (dO.length + 1) _ from hm) fun t => idx_snoc dO s hr t
    want := owns_ext h.want he (fun b hb e => (h.wantNe hb).2.2.1 (hno _ e))
    calls := h.calls.ext he (fun x hx hl e => by
      obtain ⟨b, off, ha, hcc⟩ := h.calls.2.2.2 hl
      rw [hx] at ha
      cases ha
      have hc := hcc 0 hl
      obtain ⟨H, D, ⟨es, clock, hh, _⟩, _⟩ := h.openAt
      have := hno _ e
      simp only at this
      subst this
      simp [World.cell?, hh] at hc)
    held := h.held.ext he (fun x hx hl e => by
      obtain ⟨b, off, ha, hcc⟩ := h.held.2.2.2 hl
      rw [hx] at ha
      cases ha
      have hc := hcc 0 hl
      obtain ⟨H, D, ⟨es, clock, hh, _⟩, _⟩ := h.openAt
      have := hno _ e
      simp only at this
      subst this
      simp [World.cell?, hh] at hc)
    base2Le := Nat.le_trans h.base2Le he.size
    below := h.below.grown hg h.below.size (fun k hk => by cases hk; exact h.g2) }

/-- 'want = append(want, name)'. -/
theorem L5.grewWant {s : ByteArray} {aW' : Option Addr} {capW' : Nat} (h : L5 w0 w b1 b2 bd br bi base base2 c0 aR capR hs aD capD dD dO aW capW dW aH aC nC cs)
    (hown : w'.ownsRow base2 9 1 (.slice aW' (dW.length + 1) capW') (dW.length + 1) (strRow dW ++ [.string s])) (hg : w.grownBy w' (Value.slice aW dW.length capW).ownBlock) :
    L5 w0 w' b1 b2 bd br bi base base2 c0 aR capR hs aD capD dD dO aW' capW' (dW ++ [s]) aH aC nC cs := by
  have he := Ext.of_grown hg
  have hne : ∀ k, some k = (Value.slice aW dW.length capW).ownBlock → _ := fun k e => h.wantNe e.symm
  exact
  { h with
    desk := h.desk.ext he (fun e => (hne _ e).2.2.2.1 rfl) (fun e => (hne _ e).2.2.2.2.1 rfl) (fun e => (hne _ e).2.2.2.2.2.1 rfl)
      (fun x hx hl e => (hne _ e).2.2.2.2.2.2.2 x hx hl rfl) (fun b hb e => (hne _ e).2.2.2.2.2.2.1 hb)
    heldAt := h.heldAt.ext he (fun e => (hne _ e).2.1 rfl)
    openAt := h.openAt.ext he (fun e => (hne _ e).2.2.1 rfl)
    want := by rw [List.length_append, strRow_snoc]; exact hown
    calls := h.calls.ext he (fun x hx hl e => by have := (hne _ e).1; have := h.callsLt x hx hl; have := h.c2; omega)
    held := h.held.ext he (fun x hx hl e => by have := (hne _ e).1; have := h.heldLt x hx hl; have := h.c2; omega)
    base2Le := Nat.le_trans h.base2Le he.size
    below := h.below.grown hg h.below.size (fun k hk => by have := (h.wantNe hk).1; have := h.c2; have := h.gc; omega) }

theorem L5.alloc (h : L5 w0 w b1 b2 bd br bi base base2 c0 aR capR hs aD capD dD dO aW capW dW aH aC nC cs) (o : Obj) : L5 w0 (w.alloc o) b1 b2 bd br bi base base2 c0 aR capR hs aD capD dD dO aW capW dW aH aC nC cs :=
  h.kept ((Below.refl _ _).alloc (Nat.le_refl _) o)
end

section
variable {w0 wr : World} {b1 b2 bd br bi base base2 c0 : Nat} {aR : Option Addr} {capR : Nat} {hs : List ByteArray} {aD : Option Addr} {capD : Nat} {dD dO : List ByteArray} {aW : Option Addr} {capW : Nat} {dW : List ByteArray} {aH aC : Option Addr} {nC : Nat} {cs : List ByteArray}
variable {ops : Array Oper} {rest : List Oper} {o : Oper} {a : Act} {Q : Exit → Act → World → Prop}

theorem wpList_putOpen (hg : o.guard = none) (mo x v : Operand) (hop : o.op = Op.mapUpdate 23 mo x v) (r : ByteArray) (c : Int)
    (hm : a.eval mo = .map (some b2)) (hx : a.eval x = .string r) (hv : a.eval v = .int .i64 c) (hc : c = dO.length) (h : L5 w0 wr b1 b2 bd br bi base base2 c0 aR capR hs aD capD dD dO aW capW dW aH aC nC cs) (hr : r ∉ dO) (hs' : r.size ≤ maxLen) (hn : dO.length ≤ 1048576)
    (hK : ∀ w', L5 w0 w' b1 b2 bd br bi base base2 c0 aR capR hs aD capD dD (dO ++ [r]) aW capW dW aH aC nC cs → wpList Try.prog ops Q rest (a.put o.dst undef) w') :
    wpList Try.prog ops Q (o :: rest) a wr := by
  subst hc
  exact wpList_put wr hg mo x v hop b2 dO.length (idx dO) r dO.length hm hx hv h.openAt hs' (WalkArith.wf_i64 (by omega)) (by unfold maxLen; omega) (fun w' h1 h2 => hK w' (h.putOpen hr h1 h2))

theorem wpList_appWant (hg : o.guard = none) (s x : Operand) (hop : o.op = .call { callee := .builtin .append, args := #[s, x], argTypes := #[22, 22] }) (r : ByteArray) (ad : Addr) (n : Nat)
    (hs' : a.eval s = .slice aW n capW) (hn0 : n = dW.length) (hx : a.eval x = .slice (some ad) 1 1) (hc : wr.cell? ad = some (.string r)) (h : L5 w0 wr b1 b2 bd br bi base base2 c0 aR capR hs aD capD dD dO aW capW dW aH aC nC cs) (hn : dW.length ≤ 1048576)
    (hK : ∀ aW' capW' w', L5 w0 w' b1 b2 bd br bi base base2 c0 aR capR hs aD capD dD dO aW' capW' (dW ++ [r]) aH aC nC cs → wpList Try.prog ops Q rest (a.put o.dst (.slice aW' (n + 1) capW')) w') :
    wpList Try.prog ops Q (o :: rest) a wr := by
  subst hn0
  obtain ⟨i0, hi, hz0, hz1, hz2⟩ := info_parts Try.info9
  refine wpList_append_own wr hg s x 22 hop base2 9 i0 _ 1 16 Try.underlying22 hi hz0 hz1 hz2 rfl (by decide) _ _ _ hs' h.want ad 1 1 [.string r] hx rfl ?_ ?_ (by unfold maxLen; omega) (by omega) h.base2Le ?_
  · intro j u hj
    match j, hj with
    | 0, hj => simp at hj; subst hj; simpa [Addr.add] using hc
  · intro u hu
    simp at hu
    subst hu
    rfl
  · intro v' w' hown hgr _
    obtain ⟨a', cap', rfl⟩ := owns_slice hown
    exact hK a' cap' w' (h.grewWant hown hgr)
end
end Go.Proofs.Qxb6603349a
