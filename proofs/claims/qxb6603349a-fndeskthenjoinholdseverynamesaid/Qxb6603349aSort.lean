/-
  38: slices.SortFunc at accounts, with byName: the row holds the same names in increasing order.
-/
import Derived.Test.Qxb6603349aShelf
import Derived.Test.Qxb6603349aDesk
namespace Go.Proofs.Qxb6603349a
open Go.RowKit Go.Maps Go.Shelf Go.Lib
set_option linter.unusedVariables false

theorem lt_cmpS (x y : ByteArray) : ltOf cmpS x y = blt x y := by
  unfold ltOf
  cases h : blt x y with
  | true => simpa using (cmpS_neg x y).2 h
  | false =>
    have : ¬ cmpS x y < 0 := fun e => by rw [(cmpS_neg x y).1 e] at h; cases h
    simpa using this

theorem swo_cmpS : Sort.SWO (ltOf cmpS) where
  irrefl x := by rw [lt_cmpS]; exact blt_irrefl x
  trans x y z h1 h2 := by rw [lt_cmpS] at *; exact blt_trans h1 h2
  ntrans x y z h1 h2 := by
    rw [lt_cmpS] at *
    cases h : blt x z with
    | false => rfl
    | true =>
      exfalso
      by_cases e : x = y
      · subst e; rw [h] at h2; cases h2
      · have h3 : blt y x = true := by
          cases hb : blt y x with
          | true => rfl
          | false => exact absurd (blt_tri h1 hb) e
        rw [blt_trans h3 h] at h2
        cases h2

theorem byNameLays (blk off size : Nat) (w : World) : CmpLays Try.prog 39 #[] accCells 5 cmpS blk off size w :=
  fun m os dk _ x y => (byName39 x y _).mono fun e w' ⟨he, hw⟩ => ⟨he, 0, #[accObj x, accObj y], by
    rw [hw, Sort.alloc_eq_grow, Sort.alloc_eq_grow, Sort.grow_grow]
    rfl⟩

theorem flat_get (ns : List ByteArray) (t : Nat) (ht : t < ns.length * 5) : (Sort.flatK accCells 5 ns.toArray)[t]! = (accRow ns).getD t (.int .i64 0) := by
  rw [Sort.get_flatK _ _ _ t (by simpa using ht)]
  have h1 := accRow_get ns (t / 5) (t % 5) (by omega) (by omega)
  rw [show t / 5 * 5 + t % 5 = t from by omega] at h1
  rw [List.getD_eq_getElem?_getD, h1]
  have h2 : (ns.toArray)[t / 5]! = ns.getD (t / 5) ByteArray.empty := by
    rw [getElem!_pos ns.toArray (t / 5) (by simp; omega), getD_eq (by omega)]
    simp
  rw [h2]
  generalize ns.getD (t / 5) ByteArray.empty = u
  have : t % 5 < 5 := by omega
  generalize t % 5 = j at this
  match j, this with
  | 0, _ => rfl
  | 1, _ => rfl
  | 2, _ => rfl
  | 3, _ => rfl
  | 4, _ => rfl

theorem holds_of_owns {w : World} {base g cap : Nat} {ns : List ByteArray} (h : w.ownsRow base 42 5 (.slice (some ⟨g, 0, none⟩) ns.length cap) ns.length (accRow ns)) : Sort.HoldsK accCells 5 w g 0 ns.toArray := by
  intro j hj
  have hj' : j < ns.length * 5 := by simpa using hj
  refine ⟨?_, ?_⟩
  · rw [h.cellAt (0 + j) (by omega), Nat.zero_add, flat_get ns j hj', List.getD_eq_getElem?_getD, List.getElem?_eq_getElem (by rw [accRow_length]; exact hj')]
    rfl
  · exact h.frozenAt (0 + j)

/-- The row of ms laid over the row of ns. -/
theorem owns_sorted {w : World} {base g cap n : Nat} {ns : List ByteArray} {d' : Array ByteArray} {os : Array Obj} (h : w.ownsRow base 42 5 (.slice (some ⟨g, 0, none⟩) ns.length cap) ns.length (accRow ns)) (hd : d'.size = ns.length) :
    (sortWorldK accCells 5 w g 0 n d' os).ownsRow base 42 5 (.slice (some ⟨g, 0, none⟩) ns.length cap) ns.length (accRow d'.toList) ∧ Ext w (sortWorldK accCells 5 w g 0 n d' os) (fun k => k = g) := by
  rcases h.2 with ⟨hv, _⟩ | ⟨g', cap', cur, hv, hb, hh, hnc, hcm, hcs, htake⟩
  · cases hv
  · simp only [Value.slice.injEq, Option.some.injEq, Addr.mk.injEq, and_true, true_and] at hv
    obtain ⟨rfl, rfl⟩ := hv
    have hg : g < w.heap.size := lt_of_block hh
    have hheap : ∀ k, k < w.heap.size → (sortWorldK accCells 5 w g 0 n d' os).heap[k]? = if g = k then some (.cells (Sort.putCells id 0 (Sort.flatK accCells 5 d') cur) 42 (0, 0)) else w.heap[k]? := by
      intro k hk
      have e1 : (sortWorldK accCells 5 w g 0 n d' os).heap = (w.heap.modify g (Sort.onCells (Sort.putCells id 0 (Sort.flatK accCells 5 d')))) ++ os := rfl
      rw [e1, Array.getElem?_append_left (by simpa using hk), Array.getElem?_modify]
      by_cases e : g = k
      · subst e
        rw [if_pos rfl, if_pos rfl, hh]
        rfl
      · rw [if_neg e, if_neg e]
    refine ⟨⟨by rw [accRow_length]; simp [hd], Or.inr ⟨g, cap, Sort.putCells id 0 (Sort.flatK accCells 5 d') cur, rfl, hb, ?_, hnc, hcm, by simp [Sort.putCells, hcs], ?_⟩⟩, ⟨rfl, rfl, rfl, ?_, fun k hk hne => ?_⟩⟩
    · rw [hheap g hg, if_pos rfl]
    · have hms : d'.toList.length = ns.length := by simpa using hd
      apply List.ext_getElem?
      intro t
      rw [List.getElem?_take]
      by_cases ht : t < ns.length * 5
      · rw [if_pos ht, Array.getElem?_toList]
        simp only [Sort.putCells, Array.getElem?_mapIdx]
        have hcl : t < cur.size := by rw [hcs]; exact Nat.lt_of_lt_of_le ht (Nat.mul_le_mul_right 5 hnc)
        rw [Array.getElem?_eq_getElem hcl]
        simp only [Option.map_some]
        rw [if_pos ⟨Nat.zero_le _, by simp [hd]; exact ht⟩, Nat.sub_zero]
        have := flat_get d'.toList t (by rw [hms]; exact ht)
        simp only [Array.toArray_toList] at this
        rw [this, List.getD_eq_getElem?_getD, List.getElem?_eq_getElem (by rw [accRow_length, hms]; exact ht)]
        rfl
      · rw [if_neg ht, List.getElem?_eq_none (by rw [accRow_length, hms]; omega)]
    · have : (sortWorldK accCells 5 w g 0 n d' os).heap = (w.heap.modify g (Sort.onCells (Sort.putCells id 0 (Sort.flatK accCells 5 d')))) ++ os := rfl
      rw [this]
      simp
    · rw [hheap k hk, if_neg (fun e => hne e.symm)]

set_option maxHeartbeats 1000000 in
theorem sort38 (base g cap : Nat) (ns : List ByteArray) (w : World) (h : w.ownsRow base 42 5 (.slice (some ⟨g, 0, none⟩) ns.length cap) ns.length (accRow ns)) (hnd : ns.Nodup) (hn : ns.length ≤ 1048576) :
    Calls Try.prog 38 #[.slice (some ⟨g, 0, none⟩) ns.length cap, .func (.func 39) #[] #[]] w fun e w' => e = .returned (.tuple #[]) ∧ ∃ ms : List ByteArray, ms.Perm ns ∧ Inc ms ∧ w'.ownsRow base 42 5 (.slice (some ⟨g, 0, none⟩) ms.length cap) ms.length (accRow ms) ∧ Ext w w' (fun k => k = g) := by
  have eg : ∀ args w, (callFunc 39 args).run Try.prog w = .ok (.enter 39 args) w := enters_of Try.func39 (by kernel_rfl) rfl
  have hg : g < w.heap.size := (owns_block h (b := g) rfl).2.elim fun _ hc => lt_of_block hc
  have hcon := AnyQ.slices_SortFunc Try.sortAcc 5 Try.isAgg42 Try.sizeOf42 accCells (fun _ => rfl) (fun x v hv => by simp [accCells] at hv; rcases hv with rfl | rfl <;> rfl) cmpS swo_cmpS 39 #[] g 0 cap ns.toArray w eg (byNameLays g 0 _ w) (holds_of_owns h) hg (by simp; omega)
  change Calls Try.prog 38 _ _ _ at hcon
  have hcon' : Calls Try.prog 38 #[.slice (some ⟨g, 0, none⟩) ns.length cap, .func (.func 39) #[] #[]] w _ := hcon
  refine hcon'.mono fun e w' ⟨he, d', n, os, hperm, hsort, hw⟩ => ⟨he, ?_⟩
  subst hw
  have hsz : d'.size = ns.length := by have := hperm.1; simpa using this
  obtain ⟨ho, hx⟩ := owns_sorted (n := n) (os := os) h hsz
  have hp : d'.toList.Perm ns := by
    have := hperm.2.2
    simp only [List.size_toArray] at this
    rw [← hsz] at this
    have h2 : d'.toList.Perm (List.take d'.size ns) := by simpa using this
    rwa [List.take_of_length_le (by omega)] at h2
  have hnd' : d'.toList.Nodup := hp.nodup_iff.2 hnd
  refine ⟨d'.toList, hp, ?_, ?_, hx⟩
  · refine List.pairwise_iff_getElem.2 fun i j hi hj hij => ?_
    have hi' : i < d'.size := by simpa using hi
    have hj' : j < d'.size := by simpa using hj
    have hs := hsort i j (Nat.zero_le _) hij (by simp; omega)
    rw [lt_cmpS, getElem!_pos d' i hi', getElem!_pos d' j hj'] at hs
    simp only [Array.getElem_toList]
    cases hb : blt d'[i] d'[j] with
    | true => rfl
    | false =>
      have e := blt_tri hb hs
      have hne := List.pairwise_iff_getElem.1 hnd' i j hi hj hij
      simp only [Array.getElem_toList] at hne
      exact absurd e hne
  · have hl : d'.toList.length = ns.length := by simpa using hsz
    rw [hl]
    exact ho
end Go.Proofs.Qxb6603349a
