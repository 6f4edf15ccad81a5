/-
  Merging two increasing lists from the end: plain.
-/
import Derived.Test.Qxb6603349aWalkH
namespace Go.Proofs.Qxb6603349a
set_option linter.unusedVariables false

/-- a names of hs and b of ms are left; T is the merged tail. -/
structure Mg (hs ms T : List ByteArray) (a b : Nat) : Prop where
  ha : a ≤ hs.length
  hb : b ≤ ms.length
  len : T.length + (a + b) = hs.length + ms.length
  inc : Inc T
  mem : ∀ x, x ∈ T ↔ x ∈ hs.drop a ∨ x ∈ ms.drop b
  ltH : ∀ x ∈ hs.take a, ∀ y ∈ T, blt x y = true
  ltM : ∀ x ∈ ms.take b, ∀ y ∈ T, blt x y = true

theorem Mg.start (hs ms : List ByteArray) : Mg hs ms [] hs.length ms.length :=
  ⟨Nat.le_refl _, Nat.le_refl _, by simp, List.Pairwise.nil, by simp, fun _ _ y hy => (by cases hy), fun _ _ y hy => (by cases hy)⟩

theorem drop_cons_getD {l : List ByteArray} {a : Nat} (h : a < l.length) : l.drop a = l.getD a ByteArray.empty :: l.drop (a + 1) := by
  rw [List.drop_eq_getElem_cons h, getD_eq h]

theorem inc_take_lt {l : List ByteArray} (h : Inc l) {a : Nat} (ha : a < l.length) : ∀ x ∈ l.take a, blt x (l.getD a ByteArray.empty) = true := by
  intro x hx
  obtain ⟨i, hi, rfl⟩ := List.getElem_of_mem hx
  have hi' : i < a := by simp at hi; omega
  rw [List.getElem_take, getD_eq ha]
  exact List.pairwise_iff_getElem.1 h i a (by omega) ha hi'

theorem mem_take_succ {l : List ByteArray} {a : Nat} (h : a < l.length) {x : ByteArray} (hx : x ∈ l.take a) : x ∈ l.take (a + 1) := by
  rw [take_snoc_getD h]
  exact List.mem_append_left _ hx

/-- The greatest of hs goes next. -/
theorem Mg.stepH {hs ms T : List ByteArray} {a b : Nat} (h : Mg hs ms T (a + 1) (b + 1)) (hh : Inc hs) (hm : Inc ms) (hlt : blt (ms.getD b ByteArray.empty) (hs.getD a ByteArray.empty) = true) : Mg hs ms (hs.getD a ByteArray.empty :: T) a (b + 1) := by
  have ha : a < hs.length := h.ha
  have hb : b < ms.length := h.hb
  have hmem : hs.getD a ByteArray.empty ∈ hs.take (a + 1) := by rw [take_snoc_getD ha]; simp
  refine ⟨by omega, h.hb, by have := h.len; simp; omega, List.pairwise_cons.2 ⟨fun y hy => h.ltH _ hmem y hy, h.inc⟩, fun x => ?_, fun x hx y hy => ?_, fun x hx y hy => ?_⟩
  · rw [drop_cons_getD ha, List.mem_cons, List.mem_cons, h.mem x, or_assoc]
  · rcases List.mem_cons.1 hy with e | hy
    · rw [e]; exact inc_take_lt hh ha x hx
    · exact h.ltH x (mem_take_succ ha hx) y hy
  · rcases List.mem_cons.1 hy with e | hy
    · rw [e]
      rw [take_snoc_getD hb, List.mem_append] at hx
      rcases hx with hx | hx
      · exact blt_trans (inc_take_lt hm hb x hx) hlt
      · simp only [List.mem_singleton] at hx
        rw [hx]
        exact hlt
    · exact h.ltM x hx y hy

/-- The greatest of ms goes next. -/
theorem Mg.stepM {hs ms T : List ByteArray} {a b : Nat} (h : Mg hs ms T a (b + 1)) (hh : Inc hs) (hm : Inc ms) (hlt : ∀ a', a = a' + 1 → blt (hs.getD a' ByteArray.empty) (ms.getD b ByteArray.empty) = true) : Mg hs ms (ms.getD b ByteArray.empty :: T) a b := by
  have hb : b < ms.length := h.hb
  have hmem : ms.getD b ByteArray.empty ∈ ms.take (b + 1) := by rw [take_snoc_getD hb]; simp
  refine ⟨h.ha, by omega, by have := h.len; simp; omega, List.pairwise_cons.2 ⟨fun y hy => h.ltM _ hmem y hy, h.inc⟩, fun x => ?_, fun x hx y hy => ?_, fun x hx y hy => ?_⟩
  · rw [drop_cons_getD hb, List.mem_cons, List.mem_cons, h.mem x]
    constructor
    · rintro (e | e | e)
      · exact Or.inr (Or.inl e)
      · exact Or.inl e
      · exact Or.inr (Or.inr e)
    · rintro (e | e | e)
      · exact Or.inr (Or.inl e)
      · exact Or.inl e
      · exact Or.inr (Or.inr e)
  · rcases List.mem_cons.1 hy with e | hy
    · rw [e]
      cases a with
      | zero => simp at hx
      | succ a' =>
        have ha : a' < hs.length := h.ha
        rw [take_snoc_getD ha, List.mem_append] at hx
        rcases hx with hx | hx
        · exact blt_trans (inc_take_lt hh ha x hx) (hlt a' rfl)
        · simp only [List.mem_singleton] at hx
          rw [hx]
          exact hlt a' rfl
    · exact h.ltH x hx y hy
  · rcases List.mem_cons.1 hy with e | hy
    · rw [e]; exact inc_take_lt hm hb x hx
    · exact h.ltM x (mem_take_succ hb hx) y hy

/-- All of ms is laid: the whole. -/
theorem Mg.done {hs ms T : List ByteArray} {a : Nat} (h : Mg hs ms T a 0) (hh : Inc hs) : Inc (hs.take a ++ T) ∧ (hs.take a ++ T).length = hs.length + ms.length ∧ ∀ x, x ∈ hs.take a ++ T ↔ x ∈ hs ∨ x ∈ ms := by
  refine ⟨?_, ?_, fun x => ?_⟩
  · unfold Inc
    rw [List.pairwise_append]
    refine ⟨?_, h.inc, fun x hx y hy => h.ltH x hx y hy⟩
    have : (hs.take a).Sublist hs := List.take_sublist _ _
    exact List.Pairwise.sublist this hh
  · have := h.len
    have := h.ha
    rw [List.length_append, List.length_take, Nat.min_eq_left h.ha]
    omega
  · rw [List.mem_append, h.mem x, List.drop_zero]
    conv => rhs; rw [← List.take_append_drop a hs, List.mem_append]
    rw [or_assoc]
end Go.Proofs.Qxb6603349a
