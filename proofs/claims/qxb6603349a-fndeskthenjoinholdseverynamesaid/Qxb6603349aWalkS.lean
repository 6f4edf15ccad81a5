/-
  22: zzb1SortedOver.
-/
import Derived.Test.Qxb6603349aDesk
namespace Go.Proofs.Qxb6603349a
open Go.RowKit Go.Maps
set_option linter.unusedVariables false

theorem name34' (s : ByteArray) (w : World) :
    Calls Try.prog 34 #[.agg #[.string s, .int .i64 0, .int .i64 0, .int .i64 0, .int .i64 0]] w fun e w' => e = .returned (.string s) ∧ w' = w.alloc (accObj s) := name34 s w
theorem shares35' (s : ByteArray) (w : World) :
    Calls Try.prog 35 #[.agg #[.string s, .int .i64 0, .int .i64 0, .int .i64 0, .int .i64 0]] w fun e w' => e = .returned shVal ∧ w' = (w.alloc (accObj s)).alloc shObj := shares35 s w

theorem below_al4 {w wr : World} {B : Nat} (hb : Below B w wr) (hB : B ≤ wr.heap.size) (o1 o2 o3 o4 : Obj) : Below B w ((((wr.alloc o1).alloc o2).alloc o3).alloc o4) :=
  (((hb.alloc hB o1).alloc (by simp; omega) o2).alloc (by simp; omega) o3).alloc (by simp; omega) o4
theorem below_al5 {w wr : World} {B : Nat} (hb : Below B w wr) (hB : B ≤ wr.heap.size) (o1 o2 o3 o4 o5 : Obj) : Below B w (((((wr.alloc o1).alloc o2).alloc o3).alloc o4).alloc o5) :=
  ((((hb.alloc hB o1).alloc (by simp; omega) o2).alloc (by simp; omega) o3).alloc (by simp; omega) o4).alloc (by simp; omega) o5

/-- Every name of ns is in the map, with the value asked for. -/
def Sided (f : ByteArray → Option Int) (only : Int) (ns : List ByteArray) : Prop := ∀ s ∈ ns, ∃ v, f s = some v ∧ (only ≠ 0 → v = only)

theorem inc_step {ns : List ByteArray} (h : Inc ns) {k : Nat} (hk : k + 1 < ns.length) : Op.bytesLess (ns.getD k ByteArray.empty).toList (ns.getD (k + 1) ByteArray.empty).toList = true := by
  have := List.pairwise_iff_getElem.1 h k (k + 1) (by omega) hk (by omega)
  rw [← getD_eq (by omega), ← getD_eq hk] at this
  exact this

set_option maxHeartbeats 1000000 in
set_option maxRecDepth 100000 in
theorem sortedOver22 (a : Option Addr) (n cap : Nat) (ns : List ByteArray) (bm m : Nat) (f : ByteArray → Option Int) (only : Int) (w : World) (ha : AccArg w a n ns) (hm : MapIs w bm m f) (hinc : Inc ns) (hsd : Sided f only ns) (hn : n ≤ 1048576) (ho : only = 0 ∨ only = 2) :
    Calls Try.prog 22 #[.slice a n cap, .map (some bm), .int .i64 only, .int .i64 n] w fun e w' => e = .returned (.bool true) ∧ Below w.heap.size w w' := by
  have hn0 : ((n : Int) != (n : Int)) = false := by simp
  have hl := ha.1
  have HL : Hid (ns.length = n) := hl
  clear hl
  go_enter Try.func22, Try.ntmps22
  go_wp2
  go_loopw [9] (fun i wr => ∃ k : Nat, k ≤ n ∧ i = .int .i64 k ∧ Below w.heap.size w wr) (fun i _ => n - (intOf i).toNat)
  case atStart => exact ⟨0, Nat.zero_le _, rfl, Below.refl _ _⟩
  case round =>
    obtain ⟨k, hk, rfl, hb⟩ := hrel
    by_cases hkn : k < n
    · have ha' := ha.below hb ha.lt
      have hm' := hm.below hb hm.lt
      have hmem := ha.mem k
      obtain ⟨v, hv, hvo⟩ := hsd (ns.getD k ByteArray.empty) (by rw [getD_eq (by rw [HL.out]; exact hkn)]; exact List.getElem_mem _)
      obtain ⟨_, _, h3⟩ := ha'
      obtain ⟨g, off, rfl, hc⟩ := h3 (by omega)
      obtain ⟨c0, c1, c2, c3, c4⟩ := hc k hkn
      have hg : g < wr.heap.size := (hc k hkn).lt
      have hstep : ∀ q, k = q + 1 → ∃ t : ByteArray, wr.cell? ⟨g, off + q * 5, none⟩ = some (.string t) ∧ wr.cell? ⟨g, off + q * 5 + 1, none⟩ = some (.int .i64 0) ∧ wr.cell? ⟨g, off + q * 5 + 2, none⟩ = some (.int .i64 0) ∧ wr.cell? ⟨g, off + q * 5 + 3, none⟩ = some (.int .i64 0) ∧ wr.cell? ⟨g, off + q * 5 + 4, none⟩ = some (.int .i64 0) ∧ Op.bytesLess t.toList (ns.getD k ByteArray.empty).toList = true := by
        rintro q rfl
        obtain ⟨d0, d1, d2, d3, d4⟩ := hc q (by omega)
        exact ⟨_, d0, d1, d2, d3, d4, inc_step hinc (by rw [HL.out]; exact hkn)⟩
      generalize ns.getD k ByteArray.empty = u at c0 c1 c2 c3 c4 hv hmem hstep
      have hi1 : (f u).getD 0 = v := by rw [hv]; rfl
      have hi2 : (f u).isSome = true := by rw [hv]; rfl
      clear h3 hc ha hm hsd hinc hv
      by_cases hk0 : 0 < k
      · obtain ⟨q, rfl⟩ : ∃ q, k = q + 1 := ⟨k - 1, by omega⟩
        obtain ⟨t, d0, d1, d2, d3, d4, hlt⟩ := hstep q rfl
        clear hstep
        rcases ho with rfl | rfl
        · clear hvo
          go_wp2_with (first
              | (go_at_call 34; refine (name34' _ _).mono ?_; rintro e w' ⟨rfl, rfl⟩)
              | (at_lookup; refine wpList_look' _ rfl _ _ rfl bm m f u v true rfl rfl (hm'.kept (World.grownBy_alloc _ _ none) (by simp)) hmem hi1 hi2 ?_)
              | (go_at_call 35; refine (shares35' _ _).mono ?_; rintro e w' ⟨rfl, rfl⟩)
              | (go_at_call 29; refine (noShares29 _).mono ?_; rintro e w' ⟨rfl, rfl⟩))
          go_roundw
          case rel => exact ⟨(q + 1) + 1, by omega, by go_num, below_al5 hb hb.size _ _ _ _ _⟩
          case measure => simp [intOf]; omega
        · obtain rfl := hvo (by decide)
          clear hvo
          go_wp2_with (first
              | (go_at_call 34; refine (name34' _ _).mono ?_; rintro e w' ⟨rfl, rfl⟩)
              | (at_lookup; refine wpList_look' _ rfl _ _ rfl bm m f u 2 true rfl rfl (hm'.kept (World.grownBy_alloc _ _ none) (by simp)) hmem hi1 hi2 ?_)
              | (go_at_call 35; refine (shares35' _ _).mono ?_; rintro e w' ⟨rfl, rfl⟩)
              | (go_at_call 29; refine (noShares29 _).mono ?_; rintro e w' ⟨rfl, rfl⟩))
          go_roundw
          case rel => exact ⟨(q + 1) + 1, by omega, by go_num, below_al5 hb hb.size _ _ _ _ _⟩
          case measure => simp [intOf]; omega
      · clear hstep
        rcases ho with rfl | rfl
        · clear hvo
          go_wp2_with (first
              | (go_at_call 34; refine (name34' _ _).mono ?_; rintro e w' ⟨rfl, rfl⟩)
              | (at_lookup; refine wpList_look' _ rfl _ _ rfl bm m f u v true rfl rfl (hm'.kept (World.grownBy_alloc _ _ none) (by simp)) hmem hi1 hi2 ?_)
              | (go_at_call 35; refine (shares35' _ _).mono ?_; rintro e w' ⟨rfl, rfl⟩)
              | (go_at_call 29; refine (noShares29 _).mono ?_; rintro e w' ⟨rfl, rfl⟩))
          go_roundw
          case rel => exact ⟨k + 1, by omega, by go_num, below_al4 hb hb.size _ _ _ _⟩
          case measure => simp [intOf]; omega
        · obtain rfl := hvo (by decide)
          clear hvo
          go_wp2_with (first
              | (go_at_call 34; refine (name34' _ _).mono ?_; rintro e w' ⟨rfl, rfl⟩)
              | (at_lookup; refine wpList_look' _ rfl _ _ rfl bm m f u 2 true rfl rfl (hm'.kept (World.grownBy_alloc _ _ none) (by simp)) hmem hi1 hi2 ?_)
              | (go_at_call 35; refine (shares35' _ _).mono ?_; rintro e w' ⟨rfl, rfl⟩)
              | (go_at_call 29; refine (noShares29 _).mono ?_; rintro e w' ⟨rfl, rfl⟩))
          go_roundw
          case rel => exact ⟨k + 1, by omega, by go_num, below_al4 hb hb.size _ _ _ _⟩
          case measure => simp [intOf]; omega
    · clear ha hm hsd hinc
      go_wp2
      go_ret
      exact ⟨rfl, hb⟩
end Go.Proofs.Qxb6603349a
