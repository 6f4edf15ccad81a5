/-
  9: zzb1StrictlyIncreasing. 10: zzb1ExactIndex. 12: zzb1Accounts.
-/
import Derived.Test.Qxb6603349aState
import Derived.Test.Qxb6603349aStateOps
import Derived.BigQuiet
import Derived.Deep.QuietTactic
namespace Go.Proofs.Qxb6603349a
open Go.RowKit Go.Maps
set_option linter.unusedVariables false

/-- Nothing but the count of what was drawn has turned. -/
structure Same (w w' : World) : Prop where
  heap : w'.heap = w.heap
  os : w'.os = w.os
  tape : w'.tape = w.tape
  output : w'.output = w.output

theorem Same.refl (w : World) : Same w w := ⟨rfl, rfl, rfl, rfl⟩
theorem Same.trans {a b c : World} (h : Same a b) (k : Same b c) : Same a c := ⟨k.heap.trans h.heap, k.os.trans h.os, k.tape.trans h.tape, k.output.trans h.output⟩
theorem Same.drewN {w w' : World} (h : Same w w') (n : Nat) : Same w (w'.drewN n) := ⟨h.heap, h.os, h.tape, h.output⟩
theorem Same.below {w w' : World} (h : Same w w') (B : Nat) : Below B w w' := ⟨h.os, h.tape, h.output, by rw [h.heap]; exact Nat.le_refl _, fun k _ => by rw [h.heap]⟩
theorem Same.cell {w w' : World} (h : Same w w') (a : Addr) : w'.cell? a = w.cell? a := World.cell?_of_block (by rw [h.heap])

theorem StrArg.same {w w' : World} {a : Option Addr} {len : Nat} {ss : List ByteArray} (h : StrArg w a len ss) (hs : Same w w') : StrArg w' a len ss := h.below (hs.below w.heap.size) h.lt

theorem inc_take {ss : List ByteArray} {k : Nat} (h : Inc (ss.take (k + 1))) (hk : k + 1 < ss.length) (hlt : blt (ss.getD k ByteArray.empty) (ss.getD (k + 1) ByteArray.empty) = true) : Inc (ss.take (k + 2)) := by
  rw [take_snoc_getD hk]
  unfold Inc at h ⊢
  rw [List.pairwise_append]
  refine ⟨h, by simp, fun x hx y hy => ?_⟩
  simp only [List.mem_singleton] at hy
  subst hy
  obtain ⟨i, hi, rfl⟩ := List.getElem_of_mem hx
  have hil : i < k + 1 := by simp at hi; omega
  have hkl : (ss.take (k + 1)).length = k + 1 := by simp; omega
  have hlast : (ss.take (k + 1))[k]'(by omega) = ss.getD k ByteArray.empty := by
    rw [List.getElem_take, List.getD_eq_getElem?_getD, List.getElem?_eq_getElem (by omega)]; rfl
  by_cases he : i = k
  · subst he
    rw [hlast]
    exact hlt
  · have := List.pairwise_iff_getElem.1 h i k (by omega) (by omega) (by omega)
    rw [hlast] at this
    exact blt_trans this hlt

/-- A bool that, where it is true, tells that p holds. -/
def RetIf (p : Prop) (e : Ending) : Prop := ∃ b : Bool, e = .returned (.bool b) ∧ (b = true → p)
theorem RetIf.no {p : Prop} : RetIf p (.returned (.bool false)) := ⟨false, rfl, fun h => by cases h⟩
theorem RetIf.yes {p : Prop} (h : p) : RetIf p (.returned (.bool true)) := ⟨true, rfl, fun _ => h⟩

set_option maxHeartbeats 400000 in
theorem inc9 (a : Option Addr) (len cap : Nat) (ss : List ByteArray) (w : World) (h : StrArg w a len ss) :
    Calls Try.prog 9 #[.slice a len cap] w fun e w' => RetIf (Inc ss) e ∧ Same w w' := by
  obtain ⟨h1, h2, h3, h4⟩ := h
  unfold maxLen at h2
  go_enter Try.func9, Try.ntmps9
  go_wp2
  go_loopw [3] (fun i wr => ∃ k : Nat, (k < len ∨ k = 0) ∧ i = .int .i64 (k + 1) ∧ Inc (ss.take (k + 1)) ∧ Same w wr) (fun i _ => (len + 1) - (intOf i).toNat)
  case atStart =>
    refine ⟨0, Or.inr rfl, rfl, ?_, Same.refl _⟩
    cases ss with
    | nil => exact List.Pairwise.nil
    | cons x xs => simp [Inc]
  case round =>
    obtain ⟨k, hk, rfl, hinc, hsame⟩ := hrel
    by_cases hlt : k + 1 < len
    · obtain ⟨b, off, rfl, hc⟩ := h4 (by omega)
      have c0 : wr.cell? ⟨b, off + k, none⟩ = _ := (hsame.cell _).trans (hc k (by omega))
      have c1 : wr.cell? ⟨b, off + (k + 1), none⟩ = _ := (hsame.cell _).trans (hc (k + 1) (by omega))
      have hnext := inc_take hinc (by omega)
      generalize ss.getD k ByteArray.empty = s0 at c0 hnext
      generalize ss.getD (k + 1) ByteArray.empty = s1 at c1 hnext
      clear hc h4 h3 hinc
      cases hb : Op.bytesLess s0.toList s1.toList with
      | true =>
        have hn := hnext hb
        clear hnext
        go_wp2
        go_quiet (fail)
        go_wp2
        go_roundw
        case rel => exact ⟨k + 1, Or.inl hlt, by go_num, hn, hsame.drewN _⟩
        case measure => simp [intOf]; omega
      | false =>
        clear hnext
        go_wp2
        go_quiet (fail)
        go_wp2
        go_ret
        exact ⟨RetIf.no, hsame.drewN _⟩
    · have hall : Inc ss := by rwa [List.take_of_length_le (by omega)] at hinc
      clear h4 h3 hinc
      go_wp2
      go_ret
      exact ⟨RetIf.yes hall, hsame⟩

/-- A map of n entries that holds f is the exact index of ss. -/
def Exact (n : Nat) (f : ByteArray → Option Int) (len : Nat) (ss : List ByteArray) : Prop := n = len ∧ ∀ k, k < len → f (ss.getD k ByteArray.empty) = some (k : Int)

theorem exact_nodup {n len : Nat} {f : ByteArray → Option Int} {ss : List ByteArray} (h : Exact n f len ss) (hl : ss.length = len) : ss.Nodup := by
  refine List.pairwise_iff_getElem.2 fun i j hi hj hij e => ?_
  have g : ∀ k (hk : k < ss.length), ss.getD k ByteArray.empty = ss[k] := fun k hk => by rw [List.getD_eq_getElem?_getD, List.getElem?_eq_getElem hk]; rfl
  have h1 := h.2 i (by omega)
  have h2 := h.2 j (by omega)
  rw [g i hi] at h1
  rw [g j hj, ← e, h1] at h2
  simp at h2
  omega

theorem exact_idx {ss : List ByteArray} (hnd : ss.Nodup) : Exact ss.length (idx ss) ss.length ss := by
  refine ⟨rfl, fun k hk => ?_⟩
  unfold idx
  rw [posOf_of hnd (i := k)]
  · rfl
  · rw [List.getD_eq_getElem?_getD, List.getElem?_eq_getElem hk]; rfl

/-- A bool that tells whether p holds. -/
def RetIff (p : Prop) (e : Ending) : Prop := ∃ b : Bool, e = .returned (.bool b) ∧ (b = true ↔ p)
theorem RetIff.no {p : Prop} (h : ¬ p) : RetIff p (.returned (.bool false)) := ⟨false, rfl, by simp [h]⟩
theorem RetIff.yes {p : Prop} (h : p) : RetIff p (.returned (.bool true)) := ⟨true, rfl, by simp [h]⟩

set_option maxHeartbeats 400000 in
theorem exact10 (bm n : Nat) (f : ByteArray → Option Int) (a : Option Addr) (len cap : Nat) (ss : List ByteArray) (w : World) (hm : MapIs w bm n f) (h : StrArg w a len ss) (hlen : len ≤ 1048576) :
    Calls Try.prog 10 #[.map (some bm), .slice a len cap] w fun e w' => RetIff (Exact n f len ss) e ∧ w' = w := by
  have hmem := h.mem
  obtain ⟨h1, h2, h3, h4⟩ := h
  clear h2
  have hml := fun ty => hm.len ty
  have hmn := fun (w : World) r => run_eql_map_nil (P := Try.prog) w 23 9 3 r Try.underlying23
  by_cases hn : n = len
  · subst hn
    have hne : ((n : Int) != (n : Int)) = false := by simp
    go_enter Try.func10, Try.ntmps10
    go_wp2
    go_loop [5] (fun i => ∃ k : Nat, k ≤ n ∧ i = .int .i64 k ∧ ∀ j, j < k → f (ss.getD j ByteArray.empty) = some (j : Int)) (fun i => n - (intOf i).toNat)
    case atStart => exact ⟨0, Nat.zero_le _, rfl, fun j hj => absurd hj (Nat.not_lt_zero _)⟩
    case round =>
      obtain ⟨k, hk, rfl, hall⟩ := hrel
      by_cases hkn : k < n
      · obtain ⟨b, off, rfl, hc⟩ := h4 (by omega)
        have c0 := hc k hkn
        have hmk := hmem k
        have hsucc : f (ss.getD k ByteArray.empty) = some (k : Int) → ∀ j, j < k + 1 → f (ss.getD j ByteArray.empty) = some (j : Int) := fun he j hj => by
          by_cases hjk : j = k
          · subst hjk; exact he
          · exact hall j (by omega)
        have hbad : f (ss.getD k ByteArray.empty) ≠ some (k : Int) → ¬ Exact n f n ss := fun he hx => he (hx.2 k hkn)
        clear hall hc h4 h3 hmem
        generalize hs : ss.getD k ByteArray.empty = s at c0 hmk hsucc hbad
        clear hs
        cases hf : f s with
        | none =>
          have hb : Hid (¬ Exact n f n ss) := hbad (by rw [hf]; simp)
          have hi1 : (f s).getD 0 = 0 := by rw [hf]; rfl
          have hi2 : (f s).isSome = false := by rw [hf]; rfl
          clear hsucc hbad hf
          go_wp2_with (at_lookup; refine wpList_look' _ rfl _ _ rfl bm n f s 0 false rfl rfl hm hmk hi1 hi2 ?_)
          go_ret
          exact ⟨RetIff.no hb.out, rfl⟩
        | some v =>
          have hi1 : (f s).getD 0 = v := by rw [hf]; rfl
          have hi2 : (f s).isSome = true := by rw [hf]; rfl
          by_cases hv : v = (k : Int)
          · subst hv
            have hnx := hsucc hf
            have hkk : ((k : Int) != (k : Int)) = false := by simp
            clear hsucc hbad hf
            go_wp2_with (at_lookup; refine wpList_look' _ rfl _ _ rfl bm n f s k true rfl rfl hm hmk hi1 hi2 ?_)
            go_round
            case rel => exact ⟨k + 1, by omega, by go_num, hnx⟩
            case measure => simp [intOf]; omega
          · have hb : Hid (¬ Exact n f n ss) := hbad (by rw [hf]; simpa using hv)
            have hkk : (v != (k : Int)) = true := by rw [bne_iff_ne]; exact hv
            clear hsucc hbad hf
            go_wp2_with (at_lookup; refine wpList_look' _ rfl _ _ rfl bm n f s v true rfl rfl hm hmk hi1 hi2 ?_)
            go_ret
            exact ⟨RetIff.no hb.out, rfl⟩
      · obtain rfl : k = n := by omega
        have hx : Hid (Exact k f k ss) := ⟨rfl, hall⟩
        clear hall h4 h3 hmem
        go_wp2
        go_ret
        exact ⟨RetIff.yes hx.out, rfl⟩
  · have hne : ((n : Int) != (len : Int)) = true := by rw [bne_iff_ne]; omega
    have hb : Hid (¬ Exact n f len ss) := fun hx => hn hx.1
    clear h3 h4 hmem
    go_enter Try.func10, Try.ntmps10
    go_wp2
    go_ret
    exact ⟨RetIff.no hb.out, rfl⟩

/-- What zzb1Accounts leaves. -/
structure Accounted (w w' : World) (a' : Option Addr) (cap' : Nat) (ss : List ByteArray) : Prop where
  owns : w'.ownsRow w.heap.size 42 5 (.slice a' ss.length cap') ss.length (accRow ss)
  below : Below w.heap.size w w'
  addr : ∃ g, a' = some ⟨g, 0, none⟩

/-- After k rounds. -/
def AccTo (w wr : World) (a' : Option Addr) (cap' k : Nat) (ss : List ByteArray) : Prop :=
  wr.ownsRow w.heap.size 42 5 (.slice a' k cap') k (accRow (ss.take k)) ∧ Below w.heap.size w wr ∧ ∃ g, a' = some ⟨g, 0, none⟩

theorem wpList_appTo {ops : Array Oper} {rest : List Oper} {o : Oper} {act : Act} {Q : Exit → Act → World → Prop} {w wr : World} {a' : Option Addr} {cap' k : Nat} {ss : List ByteArray}
    (hg : o.guard = none) (s x : Operand) (hop : o.op = .call { callee := .builtin .append, args := #[s, x], argTypes := #[28, 28] }) (g of : Nat)
    (hs : act.eval s = .slice a' k cap') (hx : act.eval x = .slice (some ⟨g, of, none⟩) 1 1) (hc : AccAt wr g of (ss.getD k ByteArray.empty)) (h : AccTo w wr a' cap' k ss) (hk : k < ss.length) (hn : k ≤ 1048576)
    (hK : ∀ a1 cap1 w1, AccTo w w1 a1 cap1 (k + 1) ss → wpList Try.prog ops Q rest (act.put o.dst (.slice a1 (k + 1) cap1)) w1) :
    wpList Try.prog ops Q (o :: rest) act wr := by
  obtain ⟨i0, hi, hz0, hz1, hz2⟩ := info_parts Try.info42
  obtain ⟨c0, c1, c2, c3, c4⟩ := hc
  refine wpList_append_own wr hg s x 28 hop w.heap.size 42 i0 _ 5 48 Try.underlying28 hi hz0 hz1 hz2 rfl (by decide) _ _ _ hs h.1 ⟨g, of, none⟩ 1 1 (accCells (ss.getD k ByteArray.empty)) hx rfl ?_ ?_ (by unfold maxLen; omega) (by omega) h.2.1.size ?_
  · intro j u hj
    rw [Go.WideShapes.add_plain]
    match j, hj with
    | 0, hj => simp only [accCells, List.getElem?_cons_zero, Option.some.injEq] at hj; subst hj; exact c0
    | 1, hj => simp [accCells] at hj; subst hj; exact c1
    | 2, hj => simp [accCells] at hj; subst hj; exact c2
    | 3, hj => simp [accCells] at hj; subst hj; exact c3
    | 4, hj => simp [accCells] at hj; subst hj; exact c4
  · intro u hu
    simp [accCells] at hu
    rcases hu with rfl | rfl <;> rfl
  · intro v' w' hown hgr _
    obtain ⟨g1, cap1, rfl⟩ : ∃ g1 cap1, v' = .slice (some ⟨g1, 0, none⟩) (k + 1) cap1 := by
      rcases hown.2 with ⟨_, h0⟩ | ⟨g1, cap1, _, hv, _⟩
      · omega
      · exact ⟨g1, cap1, hv⟩
    refine hK _ cap1 w' ⟨?_, h.2.1.grown hgr h.2.1.size (fun b hb => (owns_block h.1 hb).1), g1, rfl⟩
    rw [take_snoc_getD hk, accRow_snoc]
    exact hown

theorem AccTo.alloc {w wr : World} {a' : Option Addr} {cap' k : Nat} {ss : List ByteArray} (h : AccTo w wr a' cap' k ss) (o : Obj) : AccTo w (wr.alloc o) a' cap' k ss := ⟨h.1.alloc o, h.2.1.alloc h.2.1.size o, h.2.2⟩

set_option maxHeartbeats 400000 in
theorem accounts12 (a : Option Addr) (len cap : Nat) (ss : List ByteArray) (w : World) (h : StrArg w a len ss) (hlen : len ≤ 1048576) :
    Calls Try.prog 12 #[.slice a len cap] w fun e w' => ∃ a' cap', e = .returned (.slice a' len cap') ∧ Accounted w w' a' cap' ss := by
  have hlt := h.lt
  have hS := h
  obtain ⟨h1, h2, h3, h4⟩ := h
  obtain ⟨i0, hi, hz0, hz1, hz2⟩ := info_parts Try.info42
  go_enter Try.func12, Try.ntmps12
  go_wp2_with (at_make; refine wpList_make_own _ rfl _ _ 28 rfl w.heap.size 42 i0 _ 5 Try.underlying28 hi hz0 hz1 .i64 .i64 _ len rfl rfl rfl (by rw [hz2]; omega) h2 (Nat.le_refl _) ?_; intro w1 hown hgrow)
  go_loopw [3, 4] (fun v i wr => ∃ (k : Nat) (a' : Option Addr) (cap' : Nat), k ≤ len ∧ i = .int .i64 k ∧ v = .slice a' k cap' ∧ AccTo w wr a' cap' k ss) (fun _ i _ => len - (intOf i).toNat)
  case atStart => exact ⟨0, _, _, Nat.zero_le _, rfl, rfl, hown, (Below.refl _ _).grown hgrow (Nat.le_refl _) (fun k hk => by cases hk), _, rfl⟩
  case round =>
    obtain ⟨k, a', cap', hk, rfl, rfl, hto⟩ := hrel
    clear hown hgrow hi hz0 hz1 hz2
    by_cases hkl : k < len
    · obtain ⟨b, off, rfl, hc⟩ := h4 (by omega)
      have hbl := hlt _ rfl (by omega)
      have hcell : wr.cell? ⟨b, off + k, none⟩ = some (.string (ss.getD k ByteArray.empty)) := (hto.2.1.cell (p := ⟨b, off + k, none⟩) hbl).trans (hc k hkl)
      obtain ⟨s, hs⟩ : ∃ s, s = ss.getD k ByteArray.empty := ⟨_, rfl⟩
      rw [← hs] at hcell
      have HS : Hid (s = ss.getD k ByteArray.empty) := hs
      clear hs hc h4 h3 hlt hS
      go_wp2_with (first
        | (go_at_call 18; refine (newAcc18' _ _).mono ?_; rintro e w6 ⟨rfl, rfl⟩)
        | (at_builtin; refine wpList_appTo rfl _ _ rfl (wr.heap.size + 1) 0 rfl rfl (HS.out ▸ acc_new _ s _ (by simp)) ((hto.alloc _).alloc _) (by omega) (by omega) ?_; intro a1 cap1 w7 hto7))
      go_roundw
      case rel => exact ⟨k + 1, a1, cap1, by omega, by go_num, rfl, hto7⟩
      case measure => simp [intOf]; omega
    · obtain rfl : k = len := by omega
      have hfin : Accounted w wr a' cap' ss := ⟨by have := hto.1; rw [List.take_of_length_le (by omega)] at this; rw [h1]; exact this, hto.2.1, hto.2.2⟩
      clear h4 h3 hlt hS hto
      go_wp2
      go_ret
      exact ⟨_, _, rfl, hfin⟩

theorem AccArg.grown {w w' : World} {a : Option Addr} {n : Nat} {ns : List ByteArray} {row : Option Nat} (h : AccArg w a n ns) (hg : w.grownBy w' row) (hne : ∀ x, a = some x → 0 < n → some x.block ≠ row) : AccArg w' a n ns := by
  have hlt := h.lt
  obtain ⟨h1, h2, h3⟩ := h
  refine ⟨h1, h2, fun hl => ?_⟩
  obtain ⟨b, off, rfl, hc⟩ := h3 hl
  exact ⟨b, off, rfl, fun k hk => (hc k hk).of_block (hg.block b (hlt _ rfl hl) (hne _ rfl hl))⟩

theorem idx_lt {ss : List ByteArray} {s : ByteArray} {i : Int} (h : idx ss s = some i) : ∃ j : Nat, i = (j : Int) ∧ j < ss.length ∧ ss.getD j ByteArray.empty = s := by
  unfold idx at h
  rw [Option.map_eq_some_iff] at h
  obtain ⟨j, hj, rfl⟩ := h
  have := posOf_lt hj
  refine ⟨j, rfl, this.1, ?_⟩
  rw [List.getD_eq_getElem?_getD, this.2]
  rfl

theorem idx_ne {ss : List ByteArray} {s : ByteArray} (hnd : ss.Nodup) {j : Nat} (h : idx ss s = some (j : Int)) {k : Nat} (hk : k < ss.length) (hkj : k ≠ j) : ((ss.getD k ByteArray.empty).toList == s.toList) = false := by
  rw [toList_beq]
  simp only [decide_eq_false_iff_not]
  intro e
  have := posOf_of hnd (i := k) (s := s) (by rw [← e, List.getD_eq_getElem?_getD, List.getElem?_eq_getElem hk]; rfl)
  unfold idx at h
  rw [this] at h
  simp at h
  omega

theorem idx_ne' {ss : List ByteArray} {s : ByteArray} (h : idx ss s = none) {k : Nat} (hk : k < ss.length) : ((ss.getD k ByteArray.empty).toList == s.toList) = false := by
  rw [toList_beq]
  simp only [decide_eq_false_iff_not]
  intro e
  refine idx_none_mem h ?_
  rw [← e, List.getD_eq_getElem?_getD, List.getElem?_eq_getElem hk]
  exact List.getElem_mem _


/-- The copy of the index, k names laid in. -/
def CTo (w1 wr : World) (k : Nat) (ss : List ByteArray) : Prop := MapIs wr w1.heap.size k (idx (ss.take k)) ∧ Below w1.heap.size w1 wr ∧ w1.heap.size < wr.heap.size

theorem CTo.start (w1 : World) (ss : List ByteArray) : CTo w1 (w1.alloc (.map #[] 0)) 0 ss :=
  ⟨(MapIs.made w1).congr fun s => by simp [idx, posOf], (Below.refl _ _).alloc (Nat.le_refl _) _, by simp⟩

theorem CTo.next' {w1 wr w' : World} {k : Nat} {ss : List ByteArray} (h : CTo w1 wr k ss) (hk : k < ss.length) (hnm : ss.getD k ByteArray.empty ∉ ss.take k) (hm : MapIs w' w1.heap.size (if (idx (ss.take k) (ss.getD k ByteArray.empty)).isSome then k else k + 1) (put (idx (ss.take k)) (ss.getD k ByteArray.empty) k)) (hg : wr.grownBy w' (some w1.heap.size)) : CTo w1 w' (k + 1) ss := by
  rw [idx_none hnm] at hm
  refine ⟨MapIs.congr (show MapIs w' w1.heap.size (k + 1) _ from hm) fun s => ?_, h.2.1.grown hg (Nat.le_of_lt h.2.2) (fun b hb => by cases hb; exact Nat.le_refl _), Nat.lt_of_lt_of_le h.2.2 hg.size⟩
  rw [take_snoc_getD hk, idx_snoc _ _ hnm, List.length_take, Nat.min_eq_left (by omega)]

theorem CTo.next {w1 wr w' : World} {k : Nat} {ss : List ByteArray} (h : CTo w1 wr k ss) (hk : k < ss.length) (hnd : ss.Nodup) (hm : MapIs w' w1.heap.size (if (idx (ss.take k) (ss.getD k ByteArray.empty)).isSome then k else k + 1) (put (idx (ss.take k)) (ss.getD k ByteArray.empty) k)) (hg : wr.grownBy w' (some w1.heap.size)) : CTo w1 w' (k + 1) ss :=
  h.next' hk (not_mem_take hnd hk) hm hg

end Go.Proofs.Qxb6603349a
