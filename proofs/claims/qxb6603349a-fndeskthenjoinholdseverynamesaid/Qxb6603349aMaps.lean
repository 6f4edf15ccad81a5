/-
  A map from strings to ints (type 23) as a plain function, and its laws at the operation.
-/
import Derived.Test.Qxb6603349aBase
import Derived.Test.Qxb6603349aPlain
import Derived.Maps.OwnSet
namespace Go.Proofs.Qxb6603349a
open Go.RowKit Go.Maps

def key (s : ByteArray) : Lit := .string s.data.toList

theorem key_ne {s t : ByteArray} (h : s ≠ t) : key s ≠ key t := by
  intro e
  apply h
  unfold key at e
  cases s; cases t
  simp at e
  simp [e]

theorem keyLit (s : ByteArray) : WideAt.IsKeyLit (key s) := by simp [WideAt.IsKeyLit, key]

theorem law9 : Keyed Try.prog 9 := string_keyed Try.underlying9
theorem zero3 (w : World) : (zeroValue 3).run Try.prog w = .ok (.int .i64 0) w := by kernel_rfl

/-- Block b is a map of just n entries; f says what it holds. -/
def MapIs (w : World) (b n : Nat) (f : ByteArray → Option Int) : Prop :=
  ∃ (H : Type) (D : DataW H), w.ownsMap Try.prog 9 (plainElem Try.prog 3) b n D ∧ Maps.size D = n ∧
    ∀ s, s.size ≤ maxLen → Maps.has D (key s) = (f s).isSome ∧ ∀ c, f s = some c → D.atKey (key s) (.lit (.int .i64 0)) = .lit (.int .i64 c)

theorem MapIs.lt {w : World} {b n : Nat} {f : ByteArray → Option Int} (h : MapIs w b n f) : b < w.heap.size := by
  obtain ⟨H, D, h, _⟩ := h
  exact h.lt

theorem MapIs.kept {w w' : World} {b n : Nat} {f : ByteArray → Option Int} {row : Option Nat} (h : MapIs w b n f) (hg : w.grownBy w' row) (hne : some b ≠ row) : MapIs w' b n f := by
  obtain ⟨H, D, h, r⟩ := h
  exact ⟨H, D, h.kept hg hne, r⟩

theorem MapIs.below {w w' : World} {b n B : Nat} {f : ByteArray → Option Int} (h : MapIs w b n f) (hb : Below B w w') (hlt : b < B) : MapIs w' b n f := by
  obtain ⟨H, D, ⟨es, clock, hh, r1⟩, r⟩ := h
  exact ⟨H, D, ⟨es, clock, (hb.block b hlt).trans hh, r1⟩, r⟩

theorem MapIs.of_block {w w' : World} {b n : Nat} {f : ByteArray → Option Int} (h : MapIs w b n f) (hb : w'.heap[b]? = w.heap[b]?) : MapIs w' b n f := by
  obtain ⟨H, D, ⟨es, clock, hh, r1⟩, r⟩ := h
  exact ⟨H, D, ⟨es, clock, hb.trans hh, r1⟩, r⟩

theorem MapIs.congr {w : World} {b n : Nat} {f g : ByteArray → Option Int} (h : MapIs w b n f) (hfg : ∀ s, g s = f s) : MapIs w b n g := by
  obtain ⟨H, D, h1, h2, h3⟩ := h
  exact ⟨H, D, h1, h2, fun s hs => by rw [hfg s]; exact h3 s hs⟩

/-- No block is both a row of cells and a map. -/
theorem MapIs.ne_cells {w : World} {b n g : Nat} {f : ByteArray → Option Int} {cur : Array Value} {e : TypeId} {fz : Nat × Nat} (h : MapIs w b n f) (hg : w.heap[g]? = some (.cells cur e fz)) : b ≠ g := by
  obtain ⟨H, D, ⟨es, clock, hh, _⟩, _⟩ := h
  intro e
  subst e
  rw [hh] at hg
  cases hg

theorem MapIs.made (w : World) : MapIs (w.alloc (.map #[] 0)) w.heap.size 0 fun _ => none :=
  ⟨Unit, .map [], World.ownsMap_made _ _ _ _, rfl, fun s _ => ⟨rfl, fun c hc => by cases hc⟩⟩

/-- The number in a datum. -/
def numIn {H : Type} : DataW H → Int
  | .lit (.int _ c) => c
  | _ => 0

/-- A map that came in. -/
theorem MapIs.of_owns {H : Type} {w : World} {b n : Nat} {D : DataW H} (h : w.ownsMap Try.prog 9 (plainElem Try.prog 3) b n D) (hn : Maps.size D = n) : ∃ f, MapIs w b n f := by
  refine ⟨fun s => if Maps.has D (key s) = true then some (numIn (D.atKey (key s) (.lit (.int .i64 0)))) else none, H, D, h, hn, fun s hs => ?_⟩
  obtain ⟨v, ps, hrun, hv⟩ := h.look_ok law9 Try.underlying23 (zero3 w) (plainElem_int (q := .i64) Try.underlying3 (by decide)) (WideMaps.keyOf_string_mk Try.underlying9 hs)
  obtain ⟨c, rfl, hc, hwc⟩ := plainElem_int_inv Try.underlying3 hv
  have hat : D.atKey (key s) (.lit (.int .i64 0)) = .lit (.int .i64 c) := congrArg Prod.fst hc
  cases hh : Maps.has D (key s) with
  | true => simp [hh, hat, numIn]
  | false => simp [hh]

/-- What 'v, ok := m[s]' gives. -/
theorem MapIs.look {w : World} {b n : Nat} {f : ByteArray → Option Int} (h : MapIs w b n f) (s : ByteArray) (hs : s.size ≤ maxLen) :
    (Instr.lookup 23 (.map (some b)) (.string s) true).run Try.prog w = .ok (.tuple #[.int .i64 ((f s).getD 0), .bool (f s).isSome]) w := by
  obtain ⟨H, D, hown, hsz, hf⟩ := h
  obtain ⟨v, ps, hrun, hv⟩ := hown.look_ok law9 Try.underlying23 (zero3 w) (plainElem_int (q := .i64) Try.underlying3 (by decide)) (WideMaps.keyOf_string_mk Try.underlying9 hs)
  obtain ⟨c, rfl, hc, hwc⟩ := plainElem_int_inv Try.underlying3 hv
  have hat : D.atKey (key s) (.lit (.int .i64 0)) = .lit (.int .i64 c) := congrArg Prod.fst hc
  obtain ⟨h1, h2⟩ := hf s hs
  rw [hrun]
  show Result.ok (Value.tuple #[.int .i64 c, .bool (Maps.has D (key s))]) w = _
  rw [h1]
  cases hfs : f s with
  | none =>
    rw [hfs] at h1
    rw [atKey_of_not_has h1] at hat
    simp at hat
    subst hat
    simp
  | some d =>
    have := h2 d hfs
    rw [this] at hat
    simp at hat
    subst hat
    simp

/-- The function behind 'm[s] = c'. -/
def put (f : ByteArray → Option Int) (s : ByteArray) (c : Int) : ByteArray → Option Int := fun t => if t = s then some c else f t

/-- What 'm[s] = c' does. -/
theorem MapIs.store {w : World} {b n : Nat} {f : ByteArray → Option Int} (h : MapIs w b n f) (s : ByteArray) (hs : s.size ≤ maxLen) (c : Int) (hc : (Lit.int .i64 c).wf = true) (hn : n < maxLen) :
    ∃ w', (Instr.mapUpdate 23 (.map (some b)) (.string s) (.int .i64 c)).run Try.prog w = .ok () w' ∧ MapIs w' b (if (f s).isSome then n else n + 1) (put f s c) ∧ w.grownBy w' (some b) := by
  obtain ⟨H, D, hown, hsz, hf⟩ := h
  obtain ⟨w', hrun, hown', hg⟩ := hown.update law9 Try.underlying23 hn (WideMaps.keyOf_string_mk Try.underlying9 hs) (plainElem_int (q := .i64) Try.underlying3 hc)
  have hsz' : Maps.size (D.put (key s) (.lit (.int .i64 c))) = if (f s).isSome then n else n + 1 := by
    rw [size_put (hown.tidy law9), hsz, (hf s hs).1]
  refine ⟨w', hrun, ⟨H, D.put (key s) (.lit (.int .i64 c)), ?_, hsz', fun t ht' => ?_⟩, hg⟩
  · obtain ⟨es, clock, h1, h2, h3, h4⟩ := hown'
    refine ⟨es, clock, h1, h2, ?_, h4⟩
    have e : Maps.size (D.put (key s) (.lit (.int .i64 c))) = es.size := by
      have h4' : D.put (key s) (.lit (.int .i64 c)) = _ := h4
      rw [h4']
      simp [Maps.size, length_sorted]
    rw [← hsz', e]
    exact Nat.le_refl _
  · unfold put
    by_cases ht : t = s
    · subst ht
      simp only [if_true]
      refine ⟨by rw [has_put_same hown.isMap (keyLit t)]; rfl, fun d hd => ?_⟩
      cases hd
      rw [atKey_put_same hown.isMap (keyLit t)]
    · rw [if_neg ht, has_put_other (key_ne ht)]
      refine ⟨(hf t ht').1, fun d hd => ?_⟩
      rw [atKey_put_other (key_ne ht)]
      exact (hf t ht').2 d hd

theorem MapIs.len {w : World} {b n : Nat} {f : ByteArray → Option Int} (h : MapIs w b n f) (ty : TypeId) : (Builtin.len_ #[23] ty #[.map (some b)]).run Try.prog w = .ok (.int .i64 n) w := by
  obtain ⟨H, D, hown, hsz, hf⟩ := h
  rw [hown.len Try.underlying23 ty, hsz]

section
variable (w : World) {ops : Array Oper} {rest : List Oper} {o : Oper} {a : Act} {Q : Exit → Act → World → Prop}

theorem wpList_look (hg : o.guard = none) (m x : Operand) (hop : o.op = Op.lookup 23 m x true) (b n : Nat) (f : ByteArray → Option Int) (s : ByteArray)
    (hm : a.eval m = .map (some b)) (hx : a.eval x = .string s) (h : MapIs w b n f) (hs : s.size ≤ maxLen)
    (hK : wpList Try.prog ops Q rest (a.put o.dst (.tuple #[.int .i64 ((f s).getD 0), .bool (f s).isSome])) w) :
    wpList Try.prog ops Q (o :: rest) a w := by
  refine wpList_plain hg fun K' hK' => ?_
  unfold Oper.wp
  simp [execOp, hop, hm, hx, h.look s hs, Result.andThen]
  exact hK' _ _ hK

theorem wpList_put (hg : o.guard = none) (m x v : Operand) (hop : o.op = Op.mapUpdate 23 m x v) (b n : Nat) (f : ByteArray → Option Int) (s : ByteArray) (c : Int)
    (hm : a.eval m = .map (some b)) (hx : a.eval x = .string s) (hv : a.eval v = .int .i64 c) (h : MapIs w b n f) (hs : s.size ≤ maxLen) (hc : (Lit.int .i64 c).wf = true) (hn : n < maxLen)
    (hK : ∀ w', MapIs w' b (if (f s).isSome then n else n + 1) (put f s c) → w.grownBy w' (some b) → wpList Try.prog ops Q rest (a.put o.dst undef) w') :
    wpList Try.prog ops Q (o :: rest) a w := by
  refine wpList_plain hg fun K' hK' => ?_
  obtain ⟨w', hrun, h1, h2⟩ := h.store s hs c hc hn
  unfold Oper.wp
  simp [execOp, hop, hm, hx, hv, hrun, Result.andThen]
  exact hK' _ _ (hK w' h1 h2)

theorem wpList_mlen (hg : o.guard = none) (m : Operand) (hop : o.op = Op.call { callee := Callee.builtin Builtin.len, args := #[m], argTypes := #[23] }) (b n : Nat) (f : ByteArray → Option Int)
    (hm : a.eval m = .map (some b)) (h : MapIs w b n f)
    (hK : wpList Try.prog ops Q rest (a.put o.dst (.int .i64 n)) w) :
    wpList Try.prog ops Q (o :: rest) a w := by
  refine wpList_plain hg fun K' hK' => ?_
  unfold Oper.wp
  simp [execOp, hop, resolve, invoke, builtin, hm, h.len o.type, Result.andThen]
  exact hK' _ _ hK
end

end Go.Proofs.Qxb6603349a
