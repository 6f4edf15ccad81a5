/-
  The names that a desk opens over a register: plain, and the state of the loop over the calls.
-/
import Derived.Test.Qxb6603349aSortNil
import Derived.Test.Qxb6603349aDesk
namespace Go.Proofs.Qxb6603349a
open Go.RowKit Go.Maps
set_option linter.unusedVariables false

/-- The names of the first j calls that hs does not hold, in the order of their first appearance. -/
def news (hs cs : List ByteArray) : Nat → List ByteArray
  | 0 => []
  | j + 1 => if (idx hs (cs.getD j ByteArray.empty)).isSome || (idx (news hs cs j) (cs.getD j ByteArray.empty)).isSome then news hs cs j else news hs cs j ++ [cs.getD j ByteArray.empty]

theorem news_old {hs cs : List ByteArray} {j : Nat} (h : (idx hs (cs.getD j ByteArray.empty)).isSome = true ∨ (idx (news hs cs j) (cs.getD j ByteArray.empty)).isSome = true) : news hs cs (j + 1) = news hs cs j := by
  rw [news, if_pos (by rw [Bool.or_eq_true]; exact h)]

theorem news_new {hs cs : List ByteArray} {j : Nat} (h1 : idx hs (cs.getD j ByteArray.empty) = none) (h2 : idx (news hs cs j) (cs.getD j ByteArray.empty) = none) : news hs cs (j + 1) = news hs cs j ++ [cs.getD j ByteArray.empty] := by
  rw [news, if_neg (by rw [h1, h2]; decide)]

theorem idx_mem {ns : List ByteArray} {s : ByteArray} (h : s ∈ ns) : (idx ns s).isSome = true := by
  cases hi : idx ns s with
  | some i => rfl
  | none => exact absurd h (idx_none_mem hi)

theorem mem_idx {ns : List ByteArray} {s : ByteArray} (h : (idx ns s).isSome = true) : s ∈ ns := by
  cases hi : idx ns s with
  | none => rw [hi] at h; cases h
  | some i =>
    obtain ⟨j, _, hj, he⟩ := idx_lt hi
    rw [← he, List.getD_eq_getElem?_getD, List.getElem?_eq_getElem hj]
    simp

theorem news_len (hs cs : List ByteArray) : ∀ j, (news hs cs j).length ≤ j
  | 0 => Nat.le_refl _
  | j + 1 => by
    have := news_len hs cs j
    rw [news]
    split
    · omega
    · simp; omega

theorem news_facts (hs cs : List ByteArray) : ∀ j, (news hs cs j).Nodup ∧ (∀ s ∈ news hs cs j, s ∉ hs ∧ ∃ i, i < j ∧ s = cs.getD i ByteArray.empty) ∧ ∀ i, i < j → cs.getD i ByteArray.empty ∈ hs ∨ cs.getD i ByteArray.empty ∈ news hs cs j
  | 0 => ⟨List.nodup_nil, fun s h => (by cases h), fun i h => absurd h (Nat.not_lt_zero _)⟩
  | j + 1 => by
    obtain ⟨h1, h2, h3⟩ := news_facts hs cs j
    by_cases c1 : (idx hs (cs.getD j ByteArray.empty)).isSome = true
    · rw [news_old (Or.inl c1)]
      refine ⟨h1, fun s hs' => ?_, fun i hi => ?_⟩
      · obtain ⟨a, i, hi, e⟩ := h2 s hs'
        exact ⟨a, i, by omega, e⟩
      · by_cases e : i = j
        · subst e; exact Or.inl (mem_idx c1)
        · exact h3 i (by omega)
    · by_cases c2 : (idx (news hs cs j) (cs.getD j ByteArray.empty)).isSome = true
      · rw [news_old (Or.inr c2)]
        refine ⟨h1, fun s hs' => ?_, fun i hi => ?_⟩
        · obtain ⟨a, i, hi, e⟩ := h2 s hs'
          exact ⟨a, i, by omega, e⟩
        · by_cases e : i = j
          · subst e; exact Or.inr (mem_idx c2)
          · exact h3 i (by omega)
      · have d1 : idx hs (cs.getD j ByteArray.empty) = none := by simpa using c1
        have d2 : idx (news hs cs j) (cs.getD j ByteArray.empty) = none := by simpa using c2
        rw [news_new d1 d2]
        refine ⟨?_, fun s hs' => ?_, fun i hi => ?_⟩
        · rw [List.nodup_append]
          refine ⟨h1, by simp, fun x hx y hy e => ?_⟩
          simp only [List.mem_singleton] at hy
          subst hy
          subst e
          exact idx_none_mem d2 hx
        · rw [List.mem_append] at hs'
          rcases hs' with hs' | hs'
          · obtain ⟨a, i, hi, e⟩ := h2 s hs'
            exact ⟨a, i, by omega, e⟩
          · simp only [List.mem_singleton] at hs'
            subst hs'
            exact ⟨idx_none_mem d1, j, by omega, rfl⟩
        · by_cases e : i = j
          · subst e; exact Or.inr (by simp)
          · rcases h3 i (by omega) with h | h
            · exact Or.inl h
            · exact Or.inr (List.mem_append_left _ h)

theorem news_none {hs cs : List ByteArray} (h : ∀ i, cs.getD i ByteArray.empty ∈ hs ∨ ¬ i < cs.length) : ∀ j, j ≤ cs.length → news hs cs j = []
  | 0, _ => rfl
  | j + 1, hj => by
    have hm : cs.getD j ByteArray.empty ∈ hs := by
      rcases h j with h | h
      · exact h
      · omega
    rw [news_old (Or.inl (idx_mem hm))]
    exact news_none h j (by omega)

/-- The desk behind j calls; wK is the world in which it was opened. -/
def DL (wK wr : World) (bd br bi : Nat) (aR : Option Addr) (capR : Nat) (hs cs : List ByteArray) (j : Nat) : Prop :=
  ∃ aD capD, DeskSt wr bd br bi wK.heap.size aR capR hs aD capD (news hs cs j) ∧ Below wK.heap.size wK wr ∧ wK.heap.size ≤ bd ∧ wK.heap.size ≤ bi

theorem sharesAt_addr {w : World} {a : Option Addr} {n : Nat} {ns : List ByteArray} (h : AccArg w a n ns) (hn : 0 < n) (i : Nat) : ∃ x, sharesAt a i = some x := by
  obtain ⟨g, off, rfl⟩ := accArg_addr h hn
  exact ⟨_, rfl⟩

theorem DL.step {wK wr w' : World} {bd br bi : Nat} {aR : Option Addr} {capR : Nat} {hs cs : List ByteArray} {j : Nat} {aD : Option Addr} {capD : Nat} {p : Option Addr}
    (h : DeskSt wr bd br bi wK.heap.size aR capR hs aD capD (news hs cs j)) (hb : Below wK.heap.size wK wr) (h1 : wK.heap.size ≤ bd) (h2 : wK.heap.size ≤ bi)
    (ha : Answered wr w' bd br bi wK.heap.size aR capR hs aD capD (news hs cs j) (cs.getD j ByteArray.empty) p) : DL wK w' bd br bi aR capR hs cs (j + 1) ∧ ∃ x, p = some x := by
  unfold Answered at ha
  cases hi : idx hs (cs.getD j ByteArray.empty) with
  | some i =>
    rw [hi] at ha
    simp only at ha
    obtain ⟨rfl, hbl⟩ := ha
    obtain ⟨q, rfl, hq, _⟩ := idx_lt hi
    refine ⟨⟨aD, capD, ?_, hb.trans (hbl.mono hb.size), h1, h2⟩, sharesAt_addr h.racc (by omega) _⟩
    rw [news_old (Or.inl (by rw [hi]; rfl))]
    exact h.below hbl
  | none =>
    rw [hi] at ha
    simp only at ha
    cases hj : idx (news hs cs j) (cs.getD j ByteArray.empty) with
    | some i =>
      rw [hj] at ha
      simp only at ha
      obtain ⟨rfl, hbl⟩ := ha
      obtain ⟨q, rfl, hq, _⟩ := idx_lt hj
      refine ⟨⟨aD, capD, ?_, hb.trans (hbl.mono hb.size), h1, h2⟩, sharesAt_addr h.dacc (by omega) _⟩
      rw [news_old (Or.inr (by rw [hj]; rfl))]
      exact h.below hbl
    | none =>
      rw [hj] at ha
      simp only at ha
      obtain ⟨aD', capD', hd, rfl, he⟩ := ha
      refine ⟨⟨aD', capD', ?_, Ext.below hb hb.size he ?_, h1, h2⟩, ?_⟩
      · rw [news_new hi hj]
        exact hd
      · rintro k (e | e | e)
        · omega
        · omega
        · exact (owns_block h.opened e).1
      · have := hd.dacc
        exact sharesAt_addr this (by simp) _

/-- A desk, newly opened. -/
theorem DL.start {wK : World} {br : Nat} {aR : Option Addr} {capR : Nat} {hs : List ByteArray} (cs : List ByteArray) (hreg : RegAt wK br aR hs.length capR) (hacc : AccArg wK aR hs.length hs) (hinc : Inc hs) :
    DL wK ((wK.alloc (.map #[] 0)).alloc (.cells #[.pointer (some ⟨br, 0, none⟩), .slice none 0 0, .map (some wK.heap.size)] 69)) (wK.heap.size + 1) br wK.heap.size aR capR hs cs 0 := by
  have hb1 : Below wK.heap.size wK (wK.alloc (.map #[] 0)) := (Below.refl _ _).alloc (Nat.le_refl _) _
  have hs1 : (wK.alloc (.map #[] 0)).heap.size = wK.heap.size + 1 := by simp
  have hb2 : Below wK.heap.size wK ((wK.alloc (.map #[] 0)).alloc (.cells #[.pointer (some ⟨br, 0, none⟩), .slice none 0 0, .map (some wK.heap.size)] 69)) := hb1.alloc (by omega) _
  refine ⟨none, 0, ⟨?_, (hb2.block br (lt_of_block hreg)).trans hreg, hacc.below hb2 hacc.lt, fun x hx hp => hacc.lt x hx hp, hinc, ⟨rfl, Or.inl ⟨rfl, rfl⟩⟩, ?_, ?_, fun s h => (by cases h)⟩, hb2, by omega, Nat.le_refl _⟩
  · have := heap_alloc_new (wK.alloc (.map #[] 0)) (.cells #[.pointer (some ⟨br, 0, none⟩), .slice none 0 0, .map (some wK.heap.size)] 69)
    rw [hs1] at this
    exact this
  · have hm := (MapIs.made wK).below ((Below.refl (wK.heap.size + 1) (wK.alloc (.map #[] 0))).alloc (by omega) (.cells #[.pointer (some ⟨br, 0, none⟩), .slice none 0 0, .map (some wK.heap.size)] 69)) (Nat.lt_succ_self _)
    exact hm
  · exact hb2.size
end Go.Proofs.Qxb6603349a
