/-
  What the desk script knows between its loops.
-/
import Derived.Test.Qxb6603349aDeskState
import Derived.Test.Qxb6603349aWalkA
import Derived.Test.Qxb6603349aWalkJ
import Derived.Lib.Builder
namespace Go.Proofs.Qxb6603349a
open Go.RowKit Go.Maps
set_option linter.unusedVariables false

/-- 'm[names[k]] = k' in a loop, at the operation. -/
theorem wpList_putC {w1 wr : World} {k : Nat} {ss : List ByteArray} {ops : Array Oper} {rest : List Oper} {o : Oper} {a : Act} {Q : Exit → Act → World → Prop} (hg : o.guard = none) (mo x v : Operand) (hop : o.op = Op.mapUpdate 23 mo x v) (b : Nat) (r : ByteArray)
    (hb : b = w1.heap.size) (hr : r = ss.getD k ByteArray.empty) (hm : a.eval mo = .map (some b)) (hx : a.eval x = .string r) (hv : a.eval v = .int .i64 k) (h : CTo w1 wr k ss) (hk : k < ss.length) (hnm : ss.getD k ByteArray.empty ∉ ss.take k) (hs' : r.size ≤ maxLen) (hn : k ≤ 1048576)
    (hK : ∀ w', CTo w1 w' (k + 1) ss → wpList Try.prog ops Q rest (a.put o.dst undef) w') :
    wpList Try.prog ops Q (o :: rest) a wr := by
  subst hb
  subst hr
  exact wpList_put wr hg mo x v hop _ k (idx (ss.take k)) _ k hm hx hv h.1 hs' (WalkArith.wf_i64 (by omega)) (by unfold maxLen; omega) (fun w' h1 h2 => hK w' (h.next' hk hnm h1 h2))

/-- The map of the opened names, j of them laid in, none of them held. -/
def OTo (w1 wr : World) (j : Nat) (os hs : List ByteArray) : Prop := CTo w1 wr j os ∧ (os.take j).Nodup ∧ ∀ s ∈ os.take j, s ∉ hs

theorem OTo.next {w1 wr w' : World} {j : Nat} {os hs : List ByteArray} (h : OTo w1 wr j os hs) (hj : j < os.length) (h1 : os.getD j ByteArray.empty ∉ hs) (h2 : os.getD j ByteArray.empty ∉ os.take j) (hc : CTo w1 w' (j + 1) os) : OTo w1 w' (j + 1) os hs := by
  refine ⟨hc, ?_, ?_⟩
  · rw [take_snoc_getD hj, List.nodup_append]
    refine ⟨h.2.1, by simp, fun x hx y hy e => ?_⟩
    simp only [List.mem_singleton] at hy
    subst hy
    subst e
    exact h2 hx
  · intro s hs'
    rw [take_snoc_getD hj, List.mem_append] at hs'
    rcases hs' with hs' | hs'
    · exact h.2.2 s hs'
    · simp only [List.mem_singleton] at hs'
      subst hs'
      exact h1

/-- The names wanted, j of the opened ones laid in. -/
def WTo (wK wr : World) (aW : Option Addr) (capW j : Nat) (os : List ByteArray) : Prop :=
  wr.ownsRow wK.heap.size 9 1 (.slice aW j capW) j (strRow (os.take j)) ∧ Below wK.heap.size wK wr

theorem WTo.alloc {wK wr : World} {aW : Option Addr} {capW j : Nat} {os : List ByteArray} (h : WTo wK wr aW capW j os) (o : Obj) : WTo wK (wr.alloc o) aW capW j os := ⟨h.1.alloc o, h.2.alloc h.2.size o⟩

theorem wpList_appW {ops : Array Oper} {rest : List Oper} {o : Oper} {a : Act} {Q : Exit → Act → World → Prop} {wK wr : World} {aW : Option Addr} {capW j : Nat} {os : List ByteArray} (hg : o.guard = none) (s x : Operand) (hop : o.op = .call { callee := .builtin .append, args := #[s, x], argTypes := #[22, 22] }) (r : ByteArray) (ad : Addr)
    (hs' : a.eval s = .slice aW j capW) (hr : r = os.getD j ByteArray.empty) (hx : a.eval x = .slice (some ad) 1 1) (hc : wr.cell? ad = some (.string r)) (h : WTo wK wr aW capW j os) (hj : j < os.length) (hn : j ≤ 1048576)
    (hK : ∀ aW' capW' w', WTo wK w' aW' capW' (j + 1) os → wpList Try.prog ops Q rest (a.put o.dst (.slice aW' (j + 1) capW')) w') :
    wpList Try.prog ops Q (o :: rest) a wr := by
  subst hr
  obtain ⟨i0, hi, hz0, hz1, hz2⟩ := info_parts Try.info9
  refine wpList_append_own wr hg s x 22 hop wK.heap.size 9 i0 _ 1 16 Try.underlying22 hi hz0 hz1 hz2 rfl (by decide) _ _ _ hs' h.1 ad 1 1 [.string (os.getD j ByteArray.empty)] hx rfl ?_ ?_ (by unfold maxLen; omega) (by omega) h.2.size ?_
  · intro i u hi
    match i, hi with
    | 0, hi => simp only [List.getElem?_cons_zero, Option.some.injEq] at hi; subst hi; simpa [Addr.add] using hc
  · intro u hu
    simp only [List.mem_singleton] at hu
    subst hu
    rfl
  · intro v' w' hown hgr _
    obtain ⟨a', cap', rfl⟩ := owns_slice hown
    refine hK a' cap' w' ⟨?_, h.2.grown hgr h.2.size (fun b hb => (owns_block h.1 hb).1)⟩
    rw [take_snoc_getD hj, strRow_snoc]
    exact hown

theorem L5.start {w wA wB wC wD wE wF wG wI wJ wM : World} {nH nO nC : Nat} {hs os cs : List ByteArray} {aH' aO' aC' aR aD aW : Option Addr} {capR capD capW : Nat} (hlH : hs.length = nH) (hlO : os.length = nO)
    (hbA : Below w.heap.size w wA) (hAB : Below wA.heap.size wA wB) (hABs : wA.heap.size < wB.heap.size) (hb1 : MapIs wB wA.heap.size nH (idx hs)) (hBC : Below wB.heap.size wB wC) (hBCs : wB.heap.size < wC.heap.size) (hb2 : MapIs wC wB.heap.size nO (idx os))
    (cl1 : Cloned wC wD aH' nH hs) (cl2 : Cloned wD wE aO' nO os) (cl3 : Cloned wE wF aC' nC cs) (acc1 : Accounted wF wG aR capR hs) (c3 : CTo (wG.alloc (.cells #[.string ByteArray.empty, .slice aR nH capR] 66)) wI nO os) (acc2 : Accounted wI wJ aD capD os)
    (wt : WTo (wJ.alloc (.cells #[.pointer (some ⟨wG.heap.size, 0, none⟩), .slice aD nO capD, .map (some (wG.heap.size + 1))] 69)) wM aW capW nO os) (hinc : Inc hs) :
    L5 w wM wA.heap.size wB.heap.size wJ.heap.size wG.heap.size (wG.heap.size + 1) wI.heap.size (wJ.heap.size + 1) wF.heap.size aR capR hs aD capD os os aW capW os aH' aC' nC cs := by
  subst hlH
  subst hlO
  have e1 := hbA.size
  have e2 := cl1.below.size
  have e3 := cl2.below.size
  have e4 := cl3.below.size
  have e5 := acc1.below.size
  have sH : (wG.alloc (.cells #[.string ByteArray.empty, .slice aR hs.length capR] 66)).heap.size = wG.heap.size + 1 := by simp
  have bH := (Below.refl wG.heap.size wG).alloc (Nat.le_refl _) (.cells #[.string ByteArray.empty, .slice aR hs.length capR] 66)
  have hH : (wG.alloc (.cells #[.string ByteArray.empty, .slice aR hs.length capR] 66)).heap[wG.heap.size]? = some (.cells #[.string ByteArray.empty, .slice aR hs.length capR] 66 (0, 0)) := heap_alloc_new wG _
  obtain ⟨c31, c32, c33⟩ := c3
  generalize wG.alloc (.cells #[.string ByteArray.empty, .slice aR hs.length capR] 66) = wH at *
  rw [sH] at c31 c32 c33
  have e6 := c32.size
  have e7 := acc2.below.size
  have sK : (wJ.alloc (.cells #[.pointer (some ⟨wG.heap.size, 0, none⟩), .slice aD os.length capD, .map (some (wG.heap.size + 1))] 69)).heap.size = wJ.heap.size + 1 := by simp
  have bK := (Below.refl wJ.heap.size wJ).alloc (Nat.le_refl _) (.cells #[.pointer (some ⟨wG.heap.size, 0, none⟩), .slice aD os.length capD, .map (some (wG.heap.size + 1))] 69)
  have hK : (wJ.alloc (.cells #[.pointer (some ⟨wG.heap.size, 0, none⟩), .slice aD os.length capD, .map (some (wG.heap.size + 1))] 69)).heap[wJ.heap.size]? = some (.cells #[.pointer (some ⟨wG.heap.size, 0, none⟩), .slice aD os.length capD, .map (some (wG.heap.size + 1))] 69 (0, 0)) := heap_alloc_new wJ _
  obtain ⟨w1, w2⟩ := wt
  generalize wJ.alloc (.cells #[.pointer (some ⟨wG.heap.size, 0, none⟩), .slice aD os.length capD, .map (some (wG.heap.size + 1))] 69) = wK at *
  rw [sK] at w1 w2
  have e8 := w2.size
  -- the worlds from wF on, as seen from below
  have bFG : Below wF.heap.size wF wG := acc1.below
  have bGH : Below wG.heap.size wG wH := bH
  have bHI : Below (wG.heap.size + 1) wH wI := c32
  have bIJ : Below wI.heap.size wI wJ := acc2.below
  have bJK : Below wJ.heap.size wJ wK := bK
  have bKM : Below (wJ.heap.size + 1) wK wM := w2
  have bJM : Below wJ.heap.size wJ wM := bJK.trans (bKM.mono (by omega))
  have bIM : Below wI.heap.size wI wM := bIJ.trans (bJM.mono (by omega))
  have bHM : Below (wG.heap.size + 1) wH wM := bHI.trans (bIM.mono (by omega))
  have bGM : Below wG.heap.size wG wM := bGH.trans (bHM.mono (by omega))
  have bFM : Below wF.heap.size wF wM := bFG.trans (bGM.mono (by omega))
  have bEM : Below wE.heap.size wE wM := cl3.below.trans (bFM.mono (by omega))
  have bDM : Below wD.heap.size wD wM := cl2.below.trans (bEM.mono (by omega))
  have bCM : Below wC.heap.size wC wM := cl1.below.trans (bDM.mono (by omega))
  have bBM : Below wB.heap.size wB wM := hBC.trans (bCM.mono (by omega))
  have hracc := accArg_of_owns acc1.owns cl1.arg.2.2.1
  have hracclt := hracc.lt
  rw [List.take_length] at w1 c31
  refine
  { desk :=
      { desk := ?_, reg := ?_, racc := hracc.below bGM hracclt, rlt := fun x hx hl => by have := hracclt x hx hl; omega, inc := hinc
        opened := owns_ext acc2.owns (Ext.of_below bJM fun _ => False) (fun _ _ e => e)
        index := c31.below bIM c31.lt
        baseLe := by omega
        sizes := cl2.arg.2.2.1 }
    heldAt := hb1.below bBM hABs
    openAt := hb2.below bCM hBCs
    want := w1
    calls := cl3.arg.below bFM cl3.arg.lt
    callsLt := cl3.arg.lt
    held := cl1.arg.below bDM cl1.arg.lt
    heldLt := fun x hx hl => by have := cl1.arg.lt x hx hl; omega
    n12 := by omega
    n1i := by omega
    n2i := by omega
    ci := by omega
    cd := by omega
    cb := by omega
    c2 := by omega
    base2Le := by omega
    g2 := by omega
    gc := by omega
    below := (hbA.trans (hAB.mono (by omega))).trans (bBM.mono (by omega))
    b2lt := by omega
    bb := by omega }
  · unfold DeskAt
    rw [bKM.block wJ.heap.size (by omega)]
    exact hK
  · unfold RegAt
    rw [bHM.block wG.heap.size (by omega)]
    exact hH


/-- What the main loop knows at a round's head, c calls made. -/
def Inv5 (w0 w : World) (b1 b2 bd br bi base base2 c0 : Nat) (aR : Option Addr) (capR : Nat) (hs : List ByteArray) (nO c n : Nat) (aW : Option Addr) (capW : Nat) (aH aC : Option Addr) (nC : Nat) (cs : List ByteArray) : Prop :=
  ∃ ds aD capD, L5 w0 w b1 b2 bd br bi base base2 c0 aR capR hs aD capD ds ds aW capW ds aH aC nC cs ∧ ds.length = n ∧ n ≤ nO + c ∧ ds.Nodup

theorem sharesAt_some (g off i : Nat) : sharesAt (some ⟨g, off, none⟩) i = some ⟨g, off + i * 5 + 1, none⟩ := rfl

theorem neqSame (a : Addr) (w : World) : (binOp .neq 53 (.pointer (some a)) (.pointer (some a))).run Try.prog w = .ok (.bool false) w := by
  have hi : ∃ j, Try.prog.info? 40 = some j := Option.isSome_iff_exists.1 (by kernel_rfl)
  obtain ⟨j, hj⟩ := hi
  exact Lib.run_neq_ptr_same w a Try.underlying53 hj

end Go.Proofs.Qxb6603349a
