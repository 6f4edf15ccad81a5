/-
  40: slices.Grow at accounts.
-/
import Derived.Test.Qxb6603349aDesk
import Derived.Lib.AppendZerosOnto
import Derived.Lib.Walk
import Derived.Lib.SliceRun
namespace Go.Proofs.Qxb6603349a
open Go.RowKit Go.Maps
set_option linter.unusedVariables false

set_option maxHeartbeats 1000000 in
theorem grow40room (a : Option Addr) (l c n : Nat) (w : World) (hlc : l ≤ c) (hc63 : c ≤ 9223372036854775807) (hn63 : n ≤ 1048576) (hroom : l + n ≤ c) :
    Calls Try.prog 40 #[.slice a l c, .int .i64 n] w fun e w' => e = .returned (.slice a l c) ∧ w' = w := by
  go_enter Try.func40, Try.ntmps40
  go_wp2
  go_ret
  exact ⟨rfl, rfl⟩

set_option maxHeartbeats 2000000 in
set_option maxRecDepth 100000 in
theorem grow40grow (a : Option Addr) (l c n : Nat) (cs : List Value) (w : World) (hlc : l ≤ c) (hroom : c < l + n) (hbig : l + n ≤ 4194304)
    (hcl : cs.length = c * 5) (hnil : a = none → c = 0) (hcs : ∀ x, a = some x → ∀ j v, cs[j]? = some v → w.cell? (x.add j) = some v) :
    Calls Try.prog 40 #[.slice a l c, .int .i64 n] w fun e w' => ∃ G, l + n ≤ G ∧ G ≤ maxLen ∧
      e = .returned (.slice (some ⟨w.heap.size, 0, none⟩) l G) ∧
      w' = (w.alloc (.cells (cs.toArray ++ Builtin.zeroCells #[.string ByteArray.empty, .int .i64 0, .int .i64 0, .int .i64 0, .int .i64 0] (l + n - c) ++ Builtin.zeroCells #[.string ByteArray.empty, .int .i64 0, .int .i64 0, .int .i64 0, .int .i64 0] (G - (l + n))) 42)).drew := by
  obtain ⟨i0, hi, hz0, hz1, hz2⟩ := info_parts Try.info42
  have hck : c + (l + n - c) = l + n := by omega
  have hold : (Builtin.firstCells i0.size c (.slice a c c)).run Try.prog w.drew = .ok cs.toArray w.drew := by
    rw [hz1]
    cases a with
    | none =>
      have h0 := hnil rfl
      subst h0
      have hc0 : cs = [] := List.length_eq_zero_iff.1 (by simpa using hcl)
      rw [hc0]
      exact run_firstCells_none w.drew 5 0 0 0
    | some x => exact run_firstCells_some w.drew 5 c x c c cs hcl (fun j v hj => hcs x rfl j v hj)
  have hrz : ∀ ty, (Builtin.append_ #[28, 3] ty #[.slice a c c, .int .i64 ((n : Int) - ((c : Int) - (l : Int)))]).run Try.prog w =
      .ok (.slice (some ⟨w.heap.size, 0, none⟩) (l + n) (grownCap w (l + n) c 42)) (w.drew.alloc (.cells (cs.toArray ++ Builtin.zeroCells #[.string ByteArray.empty, .int .i64 0, .int .i64 0, .int .i64 0, .int .i64 0] (l + n - c) ++ Builtin.zeroCells #[.string ByteArray.empty, .int .i64 0, .int .i64 0, .int .i64 0, .int .i64 0] (grownCap w (l + n) c 42 - (l + n))) 42)) := fun ty => by
    have h := Lib.run_append_grow_zeros w 28 3 ty 42 i0 _ .i64 .i64 Try.underlying28 Try.underlying3 hi hz0 a c c cs hold (l + n - c) (by omega) (by rw [hz1]; decide) (by omega) (by omega)
      (by rw [hz2]; omega)
      (by rw [hck]; exact growslice_fits hroom (by rw [hz2]; omega))
    rw [hck] at h
    rw [show (n : Int) - ((c : Int) - (l : Int)) = ((l + n - c : Nat) : Int) by omega]
    exact h
  have hGn : l + n ≤ grownCap w (l + n) c 42 := grownCap_ge w _ _ _
  have hG63 : grownCap w (l + n) c 42 ≤ maxLen := grownCap_le_maxLen w (l + n) c 42 (by unfold maxLen; omega)
  generalize grownCap w (l + n) c 42 = G at hrz hGn hG63
  have hG' : G ≤ 9223372036854775807 := by unfold maxLen at hG63; omega
  have HG : Hid (l + n ≤ G ∧ G ≤ maxLen) := ⟨hGn, hG63⟩
  refine Calls.mono (R := fun e w' => e = .returned (.slice (some ⟨w.heap.size, 0, none⟩) l G) ∧ w' = (w.alloc (.cells (cs.toArray ++ Builtin.zeroCells #[.string ByteArray.empty, .int .i64 0, .int .i64 0, .int .i64 0, .int .i64 0] (l + n - c) ++ Builtin.zeroCells #[.string ByteArray.empty, .int .i64 0, .int .i64 0, .int .i64 0, .int .i64 0] (G - (l + n))) 42)).drew) ?_ (fun e w' h => ⟨G, HG.out.1, HG.out.2, h.1, h.2⟩)
  generalize cs.toArray ++ Builtin.zeroCells #[.string ByteArray.empty, .int .i64 0, .int .i64 0, .int .i64 0, .int .i64 0] (l + n - c) ++ Builtin.zeroCells #[.string ByteArray.empty, .int .i64 0, .int .i64 0, .int .i64 0, .int .i64 0] (G - (l + n)) = X at hrz ⊢
  clear hold hck hcs hcl hi hz0 hz1 hz2 hG63
  go_enter Try.func40, Try.ntmps40
  cases a with
  | none =>
    have h0 := hnil rfl
    subst h0
    obtain rfl : l = 0 := by omega
    go_wp2_with (at_builtin; refine Lib.wpList_append_run _ rfl _ _ _ _ rfl _ _ rfl rfl _ _ (hrz _) ?_)
    all_goals (go_ret; exact ⟨rfl, rfl⟩)
  | some x =>
    obtain ⟨ab, ao, asp⟩ := x
    go_wp2_with (at_builtin; refine Lib.wpList_append_run _ rfl _ _ _ _ rfl _ _ rfl rfl _ _ (hrz _) ?_)
    all_goals (go_ret; exact ⟨rfl, rfl⟩)

/-- What Grow leaves: room for m more behind the accounts ns. -/
def Grown40 (base : Nat) (a : Option Addr) (ns : List ByteArray) (m : Nat) (w w' : World) (a' : Option Addr) (cap' : Nat) : Prop :=
  ns.length + m ≤ cap' ∧ w'.ownsRow base 42 5 (.slice a' ns.length cap') ns.length (accRow ns) ∧ Below w.heap.size w w' ∧ (a' = a ∨ a' = some ⟨w.heap.size, 0, none⟩)

theorem grow40 (base : Nat) (a : Option Addr) (cap m : Nat) (ns : List ByteArray) (w : World) (h : w.ownsRow base 42 5 (.slice a ns.length cap) ns.length (accRow ns)) (hb : base ≤ w.heap.size) (hn : ns.length ≤ 1048576) (hm : m ≤ 1048576) :
    Calls Try.prog 40 #[.slice a ns.length cap, .int .i64 m] w fun e w' => ∃ a' cap', e = .returned (.slice a' ns.length cap') ∧ Grown40 base a ns m w w' a' cap' := by
  have hcap : ns.length ≤ cap ∧ cap ≤ maxLen := by
    rcases h.2 with ⟨hv, h0⟩ | ⟨g, cap', cur, hv, _, _, hnc, hcm, _⟩
    · simp only [Value.slice.injEq] at hv
      obtain ⟨_, h1, rfl⟩ := hv
      exact ⟨by omega, by unfold maxLen; omega⟩
    · simp only [Value.slice.injEq] at hv
      obtain ⟨_, _, rfl⟩ := hv
      exact ⟨hnc, hcm⟩
  by_cases hroom : ns.length + m ≤ cap
  · refine (grow40room a ns.length cap m w hcap.1 (by have := hcap.2; unfold maxLen at this; omega) hm hroom).mono fun e w' ⟨he, hw⟩ => ?_
    subst hw
    exact ⟨a, cap, he, hroom, h, Below.refl _ _, Or.inl rfl⟩
  · obtain ⟨cs, hcl, hnil, hcs, htk⟩ : ∃ cs : List Value, cs.length = cap * 5 ∧ (a = none → cap = 0) ∧ (∀ x, a = some x → ∀ j v, cs[j]? = some v → w.cell? (x.add j) = some v) ∧ cs.take (ns.length * 5) = accRow ns := by
      rcases h.2 with ⟨hv, h0⟩ | ⟨g, cap', cur, hv, _, hh, hnc, hcm, hsz, htake⟩
      · simp only [Value.slice.injEq] at hv
        obtain ⟨rfl, h1, rfl⟩ := hv
        refine ⟨[], rfl, fun _ => rfl, fun x hx => (by cases hx), ?_⟩
        have : ns = [] := List.length_eq_zero_iff.1 h0
        subst this
        rfl
      · simp only [Value.slice.injEq] at hv
        obtain ⟨rfl, _, rfl⟩ := hv
        refine ⟨cur.toList, by simpa using hsz, fun e => (by cases e), fun x hx j v hj => ?_, htake⟩
        cases hx
        rw [Go.WideShapes.add_plain, Nat.zero_add, cell_of_row w g j cur 42 (0, 0) hh]
        simpa using hj
    refine (grow40grow a ns.length cap m cs w hcap.1 (by omega) (by omega) hcl hnil hcs).mono fun e w' ⟨G, hG1, hG2, he, hw⟩ => ?_
    refine ⟨some ⟨w.heap.size, 0, none⟩, G, he, hG1, ?_, ?_, Or.inr rfl⟩
    · rw [hw]
      refine ⟨by rw [accRow_length], Or.inr ⟨w.heap.size, G, _, rfl, hb, heap_alloc_new w _, by omega, hG2, ?_, ?_⟩⟩
      · simp [size_zeroCells, hcl]
        omega
      · rw [Array.toList_append, Array.toList_append, List.append_assoc, List.take_append_of_le_length (by simp [hcl]; omega)]
        simpa using htk
    · rw [hw]
      exact ((Below.refl _ _).alloc (Nat.le_refl _) _).drew
end Go.Proofs.Qxb6603349a
