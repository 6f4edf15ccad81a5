/-
  A slice of bytes as the walks see it; the small functions: 5, 9 (byte counts), 6 (clone), 8 (isJSONSpace), 10, 7 (skipSpace).
-/
import Derived.Test.Qxb6603518aRows
import Derived.WalkKit
import Derived.WalkSpells
import Derived.WalkLawsBesides
import Derived.Laws.CopyOwn
namespace Go.Proofs.Qxb6603518a
open Go.RowKit
set_option linter.unusedVariables false

/-- A slice of bytes that can be read: its elements are zs. -/
def BArg (w : World) (a : Option Addr) (len : Nat) (zs : List Int) : Prop :=
  zs.length = len ∧ len ≤ maxLen ∧ (∀ z ∈ zs, 0 ≤ z ∧ z ≤ 255) ∧
  (0 < len → ∃ b off, a = some ⟨b, off, none⟩ ∧ ∀ k, k < len → w.cell? ⟨b, off + k, none⟩ = some (.int .u8 (zs.getD k 0)))

theorem BArg.lt {w : World} {a : Option Addr} {len : Nat} {zs : List Int} (h : BArg w a len zs) : ∀ x, a = some x → 0 < len → x.block < w.heap.size := by
  intro x hx hl
  obtain ⟨b, off, rfl, hc⟩ := h.2.2.2 hl
  cases hx
  exact World.block_lt_of_cell? w ⟨b, off + 0, none⟩ (hc 0 hl)

theorem BArg.below {w w' : World} {a : Option Addr} {len : Nat} {zs : List Int} {B : Nat} (h : BArg w a len zs) (hb : Below B w w') (hlt : ∀ x, a = some x → 0 < len → x.block < B) : BArg w' a len zs := by
  obtain ⟨h1, h2, h3, h4⟩ := h
  refine ⟨h1, h2, h3, fun hl => ?_⟩
  obtain ⟨b, off, rfl, hc⟩ := h4 hl
  have := hlt _ rfl hl
  exact ⟨b, off, rfl, fun k hk => (hb.cell (p := ⟨b, off + k, none⟩) this).trans (hc k hk)⟩

def RetBool (e : Ending) : Prop := ∃ b, e = .returned (.bool b)
theorem RetBool.mk (b : Bool) : RetBool (.returned (.bool b)) := ⟨b, rfl⟩

set_option maxHeartbeats 400000 in
theorem bytes5 (a : Option Addr) (len cap : Nat) (i : Int) (w : World) (h : len ≤ maxLen) :
    Calls Try.prog 5 #[.slice a len cap, .int .i64 i] w fun e w' => RetBool e ∧ w' = w := by
  unfold maxLen at h
  by_cases hl : 1048576 < len
  · go_enter Try.func5, Try.ntmps5
    go_wp2
    go_ret
    exact ⟨RetBool.mk _, rfl⟩
  · go_enter Try.func5, Try.ntmps5
    go_wp2
    go_ret
    exact ⟨RetBool.mk _, rfl⟩

set_option maxHeartbeats 400000 in
theorem bytes9 (a : Option Addr) (len cap : Nat) (i : Int) (w : World) (h : len ≤ maxLen) :
    Calls Try.prog 9 #[.slice a len cap, .int .i64 i] w fun e w' => RetBool e ∧ w' = w := by
  unfold maxLen at h
  by_cases hl : 1048576 < len
  · go_enter Try.func9, Try.ntmps9
    go_wp2
    go_ret
    exact ⟨RetBool.mk _, rfl⟩
  · go_enter Try.func9, Try.ntmps9
    go_wp2
    go_ret
    exact ⟨RetBool.mk _, rfl⟩

/-- The four white bytes. -/
def spB (c : Int) : Bool := c == 32 || c == 9 || c == 10 || c == 13

set_option maxHeartbeats 400000 in
theorem isSpace8 (c : Int) (w : World) (h0 : 0 ≤ c) (h1 : c ≤ 255) :
    Calls Try.prog 8 #[.int .u8 c] w fun e w' => e = .returned (.bool (spB c)) ∧ w' = w := by
  by_cases a1 : c = 32
  · subst a1
    go_enter Try.func8, Try.ntmps8
    go_wp2
    go_ret
    exact ⟨rfl, rfl⟩
  by_cases a2 : c = 9
  · subst a2
    go_enter Try.func8, Try.ntmps8
    go_wp2
    go_ret
    exact ⟨rfl, rfl⟩
  by_cases a3 : c = 10
  · subst a3
    go_enter Try.func8, Try.ntmps8
    go_wp2
    go_ret
    exact ⟨rfl, rfl⟩
  by_cases a4 : c = 13
  · subst a4
    go_enter Try.func8, Try.ntmps8
    go_wp2
    go_ret
    exact ⟨rfl, rfl⟩
  have b1 : (c == 32) = false := by rw [beq_eq_false_iff_ne]; exact a1
  have b2 : (c == 9) = false := by rw [beq_eq_false_iff_ne]; exact a2
  have b3 : (c == 10) = false := by rw [beq_eq_false_iff_ne]; exact a3
  have b4 : (c == 13) = false := by rw [beq_eq_false_iff_ne]; exact a4
  have hs : spB c = false := by simp [spB, b1, b2, b3, b4]
  rw [hs]
  clear hs a1 a2 a3 a4
  go_enter Try.func8, Try.ntmps8
  go_wp2
  go_ret
  exact ⟨rfl, rfl⟩

theorem Try.info5 : (Try.prog.info? 5).map (fun i => (i.zero, i.size, i.bytes)) = some (some (.int .u8 0), 1, 1) := by kernel_rfl
theorem Try.size5 : (Try.prog.info? 5).map (·.size) = some 1 := by kernel_rfl

/-- What a clone is good for. -/
structure Cloned (w w' : World) (a' : Option Addr) (len : Nat) (zs : List Int) : Prop where
  arg : BArg w' a' len zs
  below : Below w.heap.size w w'

theorem own_cells {w : World} {base g n : Nat} {xs : List Value} (h : w.ownsRow base 5 1 (.slice (some ⟨g, 0, none⟩) n n) n xs) : ∃ cur : List Value, Hid (cur.length = n) ∧ Hid (w.heap[g]? = some (.cells cur.toArray 5 (0, 0))) := by
  obtain ⟨_, ⟨h1, _⟩ | ⟨g', cap, cur, h1, h2, h3, h4, h5, h6, h7⟩⟩ := h
  · cases h1
  · cases h1
    exact ⟨cur.toList, (show _ = _ by simpa using h6), (show _ = _ by simpa using h3)⟩

theorem BArg.ofRow {w : World} {g t : Nat} {zs : List Int} {cur : List Value} {len : Nat} (h : w.heap[g]? = some (.cells (splice cur 0 (zs.map (Value.int .u8))).toArray t (0, 0))) (hl : zs.length = len) (hc : cur.length = len) (hm : len ≤ maxLen) (hz : ∀ z ∈ zs, 0 ≤ z ∧ z ≤ 255) : BArg w (some ⟨g, 0, none⟩) len zs := by
  refine ⟨hl, hm, hz, fun _ => ⟨g, 0, rfl, fun k hk => ?_⟩⟩
  have e : splice cur 0 (zs.map (Value.int .u8)) = zs.map (Value.int .u8) := by simp [splice, hl, hc]
  rw [e] at h
  unfold World.cell?
  simp [h, List.getD_eq_getElem?_getD]
  rw [List.getElem?_eq_getElem (by omega)]
  simp

theorem copied {w w1 : World} {x : Addr} {len cap : Nat} {cs cur : List Value} (hcs : cs.length = len) (hcl : cur.length = len) (hg : w1.heap[w.heap.size]? = some (.cells cur.toArray 5 (0, 0)))
    (hs : ∀ j v, cs[j]? = some v → w1.cell? (x.add j) = some v) (h1 : ∀ v ∈ cs, v.oneCell' = true) (hb : Below w.heap.size w w1) :
    ∃ w2, (Builtin.copy_ #[22, 22] 3 #[.slice (some ⟨w.heap.size, 0, none⟩) len len, .slice (some x) len cap]).run Try.prog w1 = .ok (goInt len) w2 ∧ Hid (w2.heap[w.heap.size]? = some (.cells (splice cur 0 cs).toArray 5 (0, 0))) ∧ Below w.heap.size w w2 := by
  by_cases h0 : len = 0
  · subst h0
    obtain rfl := List.eq_nil_of_length_eq_zero hcs
    refine ⟨w1, run_copy_none (P := Try.prog) w1 22 22 3 5 _ _ 0 0 0 cap Try.underlying22 Try.size5 rfl, (show _ = _ by simpa [splice] using hg), hb⟩
  · have := run_copy_row (P := Try.prog) w1 22 22 3 5 w.heap.size 0 len len x len cap cur.toArray 5 cs Try.underlying22 Try.size5 hg (by simp [hcs]) hs (by simp; omega) h1
    rw [hcs] at this
    exact ⟨_, this, (show _ = _ by simpa [splice, hcs] using setRow_heap w1 w.heap.size _ _ 5 _ hg), below_setRow hb (Nat.le_refl _) _⟩

set_option maxHeartbeats 400000 in
theorem clone6 (a : Option Addr) (len cap : Nat) (zs : List Int) (w : World) (h : BArg w a len zs) (hb : len ≤ 1048576) :
    Calls Try.prog 6 #[.slice a len cap] w fun e w' => ∃ a' cap', e = .returned (.slice a' len cap') ∧ Cloned w w' a' len zs := by
  have hnil := fun (w : World) a n c => Lib.run_eql_slice_nil (P := Try.prog) w 22 5 a n c 0 0 Try.underlying22
  have hs := h
  have hlt := h.lt
  obtain ⟨h1, h2, h3, h4⟩ := h
  cases a with
  | none =>
    have h0 : len = 0 := by
      cases len with
      | zero => rfl
      | succ n => obtain ⟨b, off, hx, _⟩ := h4 (by omega); cases hx
    subst h0
    clear h4 h3 hlt
    go_enter Try.func6, Try.ntmps6
    go_wp2
    go_ret
    exact ⟨none, 0, rfl, hs, Below.refl _ _⟩
  | some x =>
    obtain ⟨i0, hi, hz0, hz1, hz2⟩ := info_parts Try.info5
    have hsrc : ∀ (w1 : World), Below w.heap.size w w1 → ∀ j v, (zs.map (Value.int .u8))[j]? = some v → w1.cell? (x.add j) = some v := by
      intro w1 hb1 j v hj
      have hjl : j < len := by have := (List.getElem?_eq_some_iff.1 hj).1; simp at this; omega
      obtain ⟨b, off, hx, hc⟩ := h4 (by omega)
      have hbl := hlt _ hx (by omega)
      obtain rfl := Option.some.inj hx
      rw [Go.WideShapes.add_plain, hb1.cell (p := ⟨b, off + j, none⟩) hbl, hc j hjl]
      rw [List.getElem?_map] at hj
      rw [List.getD_eq_getElem?_getD]
      cases hz : zs[j]? with
      | none => rw [hz] at hj; simp at hj
      | some z => rw [hz] at hj; simpa using hj
    have HS : Hid (∀ (w1 : World), Below w.heap.size w w1 → ∀ j v, (zs.map (Value.int .u8))[j]? = some v → w1.cell? (x.add j) = some v) := hsrc
    clear hsrc
    have h2' := h2
    unfold maxLen at h2'
    have HL : Hid (zs.length = len) := h1
    clear h1 h4 hlt hs
    go_enter Try.func6, Try.ntmps6
    go_wp2_with (at_make; refine wpList_make_full _ rfl _ _ 22 rfl w.heap.size 5 i0 _ 1 Try.underlying22 hi hz0 hz1 .i64 .i64 _ _ len rfl rfl rfl rfl (by rw [hz2]; omega) h2 (Nat.le_refl _) ?_; intro w1 hown hgrow; have hbl1 : Below w.heap.size w w1 := (Below.refl _ _).grown hgrow (Nat.le_refl _) (fun k hk => by cases hk); obtain ⟨cur, hcl, hgc⟩ := own_cells hown; clear hown hgrow)
    obtain ⟨w2, hrun, hg2, hb2⟩ := copied (cap := cap) (cs := zs.map (Value.int .u8)) (by simpa using HL.out) hcl.out hgc.out (HS.out w1 hbl1) (by intro v hv; obtain ⟨z, _, rfl⟩ := List.mem_map.1 hv; rfl) hbl1
    rw [hrun]
    go_wp2
    go_ret
    exact ⟨some ⟨w.heap.size, 0, none⟩, len, rfl, BArg.ofRow hg2.out HL.out hcl.out h2 h3, hb2⟩
end Go.Proofs.Qxb6603518a
