/-
  21: ZZJoin. 5: FnJoinMergesToSortedUnion, walked whole.
-/
import Derived.Test.Qxb6603349aJoin
import Derived.Test.Qxb6603349aWalkS
import Derived.Test.Qxb6603349aWalkA
import Derived.Test.Qxb6603349aWalkJ
namespace Go.Proofs.Qxb6603349a
open Go.RowKit Go.Maps
set_option linter.unusedVariables false

set_option maxHeartbeats 400000 in
theorem join21 (br baseR baseO gR n capR : Nat) (hs : List ByteArray) (gO m capO : Nat) (os : List ByteArray) (w : World) (HN : Hid (hs.length = n)) (HM : Hid (os.length = m))
    (hreg : RegAt w br (some ⟨gR, 0, none⟩) n capR) (hR : w.ownsRow baseR 42 5 (.slice (some ⟨gR, 0, none⟩) hs.length capR) hs.length (accRow hs)) (hO : w.ownsRow baseO 42 5 (.slice (some ⟨gO, 0, none⟩) os.length capO) os.length (accRow os)) (hne : gR ≠ gO) (hbR : baseR ≤ w.heap.size)
    (hinc : Inc hs) (hnd : os.Nodup) (hdis : ∀ s ∈ os, s ∉ hs) (hsz : ∀ s ∈ hs, s.size ≤ maxLen) (osz : ∀ s ∈ os, s.size ≤ maxLen) (hnH : n ≤ 65536) (hnO : m ≤ 65536) :
    Calls Try.prog 21 #[.pointer (some ⟨br, 0, none⟩), .slice (some ⟨gO, 0, none⟩) m capO] w fun e w' => e = .returned (.tuple #[]) ∧ ∃ ms R aR' capR', Joined w w' br baseO gO capO (some ⟨gR, 0, none⟩) hs os ms R aR' capR' := by
  have c := join36 br baseR baseO gR n capR hs gO m capO os w HN HM hreg hR hO hne hbR hinc hnd hdis hsz osz hnH hnO
  clear hreg hR hO hinc hnd hdis hsz osz
  go_enter Try.func21, Try.ntmps21
  go_wp2_with (go_at_call 36; refine c.mono ?_; rintro e w' ⟨rfl, hJ⟩)
  go_end0
  exact ⟨rfl, hJ⟩

/-- The map 'side': 1 at the names of hs', 2 at those of os'. -/
def SideIs (w1 wr : World) (N : Nat) (hs' os' : List ByteArray) : Prop :=
  ∃ n f, n ≤ N ∧ MapIs wr w1.heap.size n f ∧ (∀ s ∈ hs', f s = some 1) ∧ (∀ s ∈ os', f s = some 2) ∧ (∀ s, (f s).isSome = true → s ∈ hs' ∨ s ∈ os') ∧ Below w1.heap.size w1 wr ∧ w1.heap.size < wr.heap.size

theorem SideIs.start (w1 : World) : SideIs w1 (w1.alloc (.map #[] 0)) 0 [] [] :=
  ⟨0, fun _ => none, Nat.le_refl _, MapIs.made w1, by simp, by simp, fun s h => (by cases h), (Below.refl _ _).alloc (Nat.le_refl _) _, by simp⟩

theorem SideIs.below {w1 wr : World} {N : Nat} {hs' os' : List ByteArray} (h : SideIs w1 wr N hs' os') : Below w1.heap.size w1 wr := by
  obtain ⟨_, _, _, _, _, _, _, h, _⟩ := h
  exact h

/-- 'side[r] = 1'. -/
theorem wpList_side1 {w1 wr : World} {N : Nat} {hs' : List ByteArray} {ops : Array Oper} {rest : List Oper} {o : Oper} {a : Act} {Q : Exit → Act → World → Prop} (hg : o.guard = none) (mo x v : Operand) (hop : o.op = Op.mapUpdate 23 mo x v) (b : Nat) (r : ByteArray)
    (hb : b = w1.heap.size) (hm : a.eval mo = .map (some b)) (hx : a.eval x = .string r) (hv : a.eval v = .int .i64 1) (h : SideIs w1 wr N hs' []) (hrs : r.size ≤ maxLen) (hn : N ≤ 1048576)
    (hK : ∀ w', SideIs w1 w' (N + 1) (hs' ++ [r]) [] → wpList Try.prog ops Q rest (a.put o.dst undef) w') :
    wpList Try.prog ops Q (o :: rest) a wr := by
  subst hb
  obtain ⟨n, f, hnN, hmap, h1, h2, h3, h4, h5⟩ := h
  refine wpList_put wr hg mo x v hop _ n f r 1 hm hx hv hmap hrs (by decide) (by unfold maxLen; omega) (fun w' q1 q2 => hK w' ⟨_, _, ?_, q1, ?_, ?_, ?_, h4.grown q2 (Nat.le_of_lt h5) (fun k hk => by cases hk; exact Nat.le_refl _), Nat.lt_of_lt_of_le h5 q2.size⟩)
  · split <;> omega
  · intro s hs
    unfold put
    by_cases e : s = r
    · rw [if_pos e]
    · rw [if_neg e]
      rw [List.mem_append] at hs
      rcases hs with hs | hs
      · exact h1 s hs
      · simp at hs; exact absurd hs e
  · intro s hs
    cases hs
  · intro s hs
    unfold put at hs
    by_cases e : s = r
    · subst e; left; simp
    · rw [if_neg e] at hs
      rcases h3 s hs with h | h
      · left; exact List.mem_append_left _ h
      · cases h

/-- 'side[r] = 2', r not there. -/
theorem wpList_side2 {w1 wr : World} {N : Nat} {hs' os' : List ByteArray} {ops : Array Oper} {rest : List Oper} {o : Oper} {a : Act} {Q : Exit → Act → World → Prop} (hg : o.guard = none) (mo x v : Operand) (hop : o.op = Op.mapUpdate 23 mo x v) (b : Nat) (r : ByteArray)
    (hb : b = w1.heap.size) (hm : a.eval mo = .map (some b)) (hx : a.eval x = .string r) (hv : a.eval v = .int .i64 2) (h : SideIs w1 wr N hs' os') (hr1 : r ∉ hs') (hrs : r.size ≤ maxLen) (hn : N ≤ 1048576)
    (hK : ∀ w', SideIs w1 w' (N + 1) hs' (os' ++ [r]) → wpList Try.prog ops Q rest (a.put o.dst undef) w') :
    wpList Try.prog ops Q (o :: rest) a wr := by
  subst hb
  obtain ⟨n, f, hnN, hmap, h1, h2, h3, h4, h5⟩ := h
  refine wpList_put wr hg mo x v hop _ n f r 2 hm hx hv hmap hrs (by decide) (by unfold maxLen; omega) (fun w' q1 q2 => hK w' ⟨_, _, ?_, q1, ?_, ?_, ?_, h4.grown q2 (Nat.le_of_lt h5) (fun k hk => by cases hk; exact Nat.le_refl _), Nat.lt_of_lt_of_le h5 q2.size⟩)
  · split <;> omega
  · intro s hs
    unfold put
    rw [if_neg (fun e : s = r => hr1 (e ▸ hs))]
    exact h1 s hs
  · intro s hs
    unfold put
    by_cases e : s = r
    · rw [if_pos e]
    · rw [if_neg e]
      rw [List.mem_append] at hs
      rcases hs with hs | hs
      · exact h2 s hs
      · simp at hs; exact absurd hs e
  · intro s hs
    unfold put at hs
    by_cases e : s = r
    · subst e; right; simp
    · rw [if_neg e] at hs
      rcases h3 s hs with h | h
      · exact Or.inl h
      · exact Or.inr (List.mem_append_left _ h)

/-- The opened names, j of them met: none twice, none held. -/
def S2 (w1 wr : World) (N : Nat) (hs os : List ByteArray) (j : Nat) : Prop := SideIs w1 wr N hs (os.take j) ∧ (os.take j).Nodup ∧ ∀ s ∈ os.take j, s ∉ hs

theorem S2.next {w1 w' : World} {N j : Nat} {hs os : List ByteArray} (hj : j < os.length) (h2 : (os.take j).Nodup) (h3 : ∀ s ∈ os.take j, s ∉ hs) (hn1 : os.getD j ByteArray.empty ∉ hs) (hn2 : os.getD j ByteArray.empty ∉ os.take j) (h : SideIs w1 w' N hs (os.take j ++ [os.getD j ByteArray.empty])) : S2 w1 w' N hs os (j + 1) := by
  unfold S2
  rw [take_snoc_getD hj]
  refine ⟨h, ?_, ?_⟩
  · rw [List.nodup_append]
    refine ⟨h2, by simp, fun x hx y hy e => ?_⟩
    simp only [List.mem_singleton] at hy
    subst hy
    subst e
    exact hn2 hx
  · intro s hs'
    rw [List.mem_append] at hs'
    rcases hs' with hs' | hs'
    · exact h3 s hs'
    · simp only [List.mem_singleton] at hs'
      subst hs'
      exact hn1

/-- Where the map has no r, r is neither held nor opened. -/
theorem SideIs.miss {w1 wr : World} {N : Nat} {hs' os' : List ByteArray} (h : SideIs w1 wr N hs' os') (r : ByteArray) : ∃ n f, MapIs wr w1.heap.size n f ∧ ((f r).isSome = false → r ∉ hs' ∧ r ∉ os') := by
  obtain ⟨n, f, _, hmap, h1, h2, _⟩ := h
  refine ⟨n, f, hmap, fun h => ⟨fun e => ?_, fun e => ?_⟩⟩
  · rw [h1 r e] at h; cases h
  · rw [h2 r e] at h; cases h
end Go.Proofs.Qxb6603349a
