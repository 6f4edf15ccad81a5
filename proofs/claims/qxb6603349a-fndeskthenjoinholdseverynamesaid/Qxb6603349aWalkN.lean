/-
  16: zzb1NamesAre.
-/
import Derived.Test.Qxb6603349aWalkC
import Derived.Deep.RegionHeld3
namespace Go.Proofs.Qxb6603349a
open Go.RowKit Go.Maps
set_option linter.unusedVariables false

theorem AccArg.below {w w' : World} {a : Option Addr} {n : Nat} {ns : List ByteArray} {B : Nat} (h : AccArg w a n ns) (hb : Below B w w') (hlt : ∀ x, a = some x → 0 < n → x.block < B) : AccArg w' a n ns := by
  obtain ⟨h1, h2, h3⟩ := h
  refine ⟨h1, h2, fun hn => ?_⟩
  obtain ⟨g, off, rfl, hc⟩ := h3 hn
  exact ⟨g, off, rfl, fun k hk => (hc k hk).of_block (hb.block g (hlt _ rfl hn))⟩

theorem AccArg.lt {w : World} {a : Option Addr} {n : Nat} {ns : List ByteArray} (h : AccArg w a n ns) : ∀ x, a = some x → 0 < n → x.block < w.heap.size := by
  intro x hx hn
  obtain ⟨g, off, rfl, hc⟩ := h.2.2 hn
  cases hx
  exact (hc 0 hn).lt

theorem cell_a {w : World} {a : Addr} {v : Value} (h : w.cell? a = some v) (o : Obj) : (w.alloc o).cell? a = some v :=
  (World.cell?_alloc_lt _ _ _ (World.block_lt_of_cell? w a h)).trans h
theorem cell_a1 {w : World} {a : Addr} {v : Value} (h : w.cell? a = some v) (o1 : Obj) : (w.alloc o1).drew.cell? a = some v := cell_a h _
theorem cell_a3 {w : World} {a : Addr} {v : Value} (h : w.cell? a = some v) (o1 o2 o3 : Obj) : (((w.alloc o1).alloc o2).alloc o3).drew.cell? a = some v := cell_a (cell_a (cell_a h _) _) _
theorem cell_a4 {w : World} {a : Addr} {v : Value} (h : w.cell? a = some v) (o1 o2 o3 o4 : Obj) : ((((w.alloc o1).alloc o2).alloc o3).alloc o4).drew.cell? a = some v := cell_a (cell_a (cell_a (cell_a h _) _) _) _

theorem below_a4 {w wr : World} {B : Nat} (hb : Below B w wr) (hB : B ≤ wr.heap.size) (o1 o2 o3 o4 : Obj) : Below B w ((((wr.alloc o1).alloc o2).alloc o3).alloc o4).drew :=
  ((((hb.alloc hB o1).alloc (by simp; omega) o2).alloc (by simp; omega) o3).alloc (by simp; omega) o4).drew

set_option maxHeartbeats 1000000 in
set_option maxRecDepth 100000 in
theorem namesAre16 (a a' : Option Addr) (n cap cap' : Nat) (ns : List ByteArray) (w : World) (ha : AccArg w a n ns) (hs : StrArg w a' n ns) (hn : n ≤ 1048576) :
    Calls Try.prog 16 #[.slice a n cap, .slice a' n cap'] w fun e w' => e = .returned (.bool true) ∧ Below w.heap.size w w' := by
  have hn0 : ((n : Int) != (n : Int)) = false := by simp
  go_enter Try.func16, Try.ntmps16
  go_wp2
  go_loopw [5] (fun i wr => ∃ k : Nat, k ≤ n ∧ i = .int .i64 k ∧ Below w.heap.size w wr) (fun i _ => n - (intOf i).toNat)
  case atStart => exact ⟨0, Nat.zero_le _, rfl, Below.refl _ _⟩
  case round =>
    obtain ⟨k, hk, rfl, hb⟩ := hrel
    by_cases hkn : k < n
    · have ha' := ha.below hb ha.lt
      have hs' := hs.below hb hs.lt
      obtain ⟨_, _, h3⟩ := ha'
      obtain ⟨g, off, rfl, hc⟩ := h3 (by omega)
      obtain ⟨_, _, _, h4⟩ := hs'
      obtain ⟨b, o, rfl, hd⟩ := h4 (by omega)
      obtain ⟨c0, c1, c2, c3, c4⟩ := hc k hkn
      have d0 := hd k hkn
      have hg : g < wr.heap.size := (hc k hkn).lt
      have hb' : b < wr.heap.size := World.block_lt_of_cell? wr ⟨b, o + k, none⟩ d0
      generalize ns.getD k ByteArray.empty = u at c0 c1 c2 c3 c4 d0
      clear h3 h4 hc hd ha hs
      go_wp2
      go_region_held3 (fun w' => w'.cell? ⟨g, off + k * 5, none⟩ = some (.string u) ∧ w'.cell? ⟨g, off + k * 5 + 1, none⟩ = some (.int .i64 0) ∧ w'.cell? ⟨g, off + k * 5 + 2, none⟩ = some (.int .i64 0) ∧ w'.cell? ⟨g, off + k * 5 + 3, none⟩ = some (.int .i64 0) ∧ w'.cell? ⟨g, off + k * 5 + 4, none⟩ = some (.int .i64 0) ∧ w'.cell? ⟨b, o + k, none⟩ = some (.string u)) (first | (exact ⟨cell_a1 c0 _, cell_a1 c1 _, cell_a1 c2 _, cell_a1 c3 _, cell_a1 c4 _, cell_a1 d0 _⟩) | (exact ⟨cell_a3 c0 _ _ _, cell_a3 c1 _ _ _, cell_a3 c2 _ _ _, cell_a3 c3 _ _ _, cell_a3 c4 _ _ _, cell_a3 d0 _ _ _⟩) | (exact ⟨cell_a4 c0 _ _ _ _, cell_a4 c1 _ _ _ _, cell_a4 c2 _ _ _ _, cell_a4 c3 _ _ _ _, cell_a4 c4 _ _ _ _, cell_a4 d0 _ _ _ _⟩) | (go_keep; done))
        (first | (go_at_call 34; refine (name34 u _).mono ?_; rintro e w' ⟨rfl, rfl⟩) | (go_at_call 35; refine (shares35 u _).mono ?_; rintro e w' ⟨rfl, rfl⟩) | (go_at_call 29; refine (noShares29 _).mono ?_; rintro e w' ⟨rfl, rfl⟩))
      go_wp2
      go_roundw
      case rel => exact ⟨k + 1, by omega, by go_num, below_a4 hb hb.size _ _ _ _⟩
      case measure => simp [intOf]; omega
    · clear ha hs
      go_wp2
      go_ret
      exact ⟨rfl, hb⟩
end Go.Proofs.Qxb6603349a
