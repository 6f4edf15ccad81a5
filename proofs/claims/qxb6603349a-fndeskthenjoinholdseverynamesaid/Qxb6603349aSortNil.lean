/-
  38 at nil: slices.SortFunc of an empty slice. 36, 21 where nothing was opened.
-/
import Derived.Test.Qxb6603349aJoinScript
namespace Go.Proofs.Qxb6603349a
open Go.RowKit Go.Maps
set_option linter.unusedVariables false

set_option maxHeartbeats 1000000 in
theorem insert47nil (w : World) : Calls Try.prog 47 #[.slice none 0 0, .int .i64 0, .int .i64 0, .func (.func 39) #[] #[]] w fun e w' => e = .returned (.tuple #[]) ∧ w' = w := by
  go_enter Try.func47, Try.ntmps47
  go_wp2_with fail
  go_loopw [8] (fun i wr => i = .int .i64 1 ∧ wr = w) (fun _ _ => 0)
  case atStart => exact ⟨rfl, rfl⟩
  case round =>
    obtain ⟨rfl, hw⟩ := hrel
    obtain rfl := hw.symm
    go_wp2
    go_end0
    exact ⟨rfl, rfl⟩

set_option maxHeartbeats 1000000 in
theorem pdq42nil (l : Int) (w : World) : Calls Try.prog 42 #[.slice none 0 0, .int .i64 0, .int .i64 0, .int .i64 l, .func (.func 39) #[] #[]] w fun e w' => e = .returned (.tuple #[]) ∧ w' = w := by
  have c := insert47nil w
  go_enter Try.func42, Try.ntmps42
  go_wp2_with fail
  go_loopw [1, 2] (fun i j wr => i = .int .i64 0 ∧ j = .int .i64 0 ∧ wr = w) (fun _ _ _ => 0)
  case atStart => exact ⟨rfl, rfl, rfl⟩
  case round =>
    obtain ⟨rfl, rfl, hw⟩ := hrel
    obtain rfl := hw.symm
    go_wp2_with fail
    refine c.mono ?_
    rintro e w' ⟨rfl, hw⟩
    obtain rfl := hw.symm
    go_wp2
    (try simp only [Exit.inBlock, Exit.then])
    refine bodyPost_ret (results_none rfl _ _ _) rfl ?_
    exact ⟨rfl, rfl⟩

set_option maxHeartbeats 1000000 in
theorem len43zero (w : World) : Calls Try.prog 43 #[.int .u64 0] w fun e w' => (∃ n, e = .returned (.int .i64 n)) ∧ w' = w := by
  go_enter Try.func43, Try.ntmps43
  go_wp2_with go_in
  go_ret
  exact ⟨⟨_, rfl⟩, rfl⟩

set_option maxHeartbeats 1000000 in
theorem sort38nil (w : World) : Calls Try.prog 38 #[.slice none 0 0, .func (.func 39) #[] #[]] w fun e w' => e = .returned (.tuple #[]) ∧ w' = w := by
  have c := len43zero w
  go_enter Try.func38, Try.ntmps38
  go_wp2_with fail
  refine c.mono ?_
  rintro e w' ⟨⟨n, rfl⟩, hw⟩
  obtain rfl := hw.symm
  clear c
  have c := pdq42nil n w
  go_wp2_with fail
  refine c.mono ?_
  rintro e w' ⟨rfl, hw⟩
  obtain rfl := hw.symm
  go_wp2
  go_end0
  exact ⟨rfl, rfl⟩

/-- What 'join' leaves in the register: the increasing union. -/
structure JoinedR (w w' : World) (br : Nat) (hs os R : List ByteArray) (aR' : Option Addr) (capR' : Nat) (S : Nat → Prop) : Prop where
  incR : Inc R
  lenR : R.length = hs.length + os.length
  memR : ∀ x, x ∈ R ↔ x ∈ hs ∨ x ∈ os
  reg : RegAt w' br aR' R.length capR'
  racc : AccArg w' aR' R.length R
  ext : Ext w w' S

set_option maxHeartbeats 1000000 in
set_option maxRecDepth 100000 in
theorem join36nil (br baseR gR n capR : Nat) (hs : List ByteArray) (w : World) (HN : Hid (hs.length = n))
    (hreg : RegAt w br (some ⟨gR, 0, none⟩) n capR) (hR : w.ownsRow baseR 42 5 (.slice (some ⟨gR, 0, none⟩) hs.length capR) hs.length (accRow hs)) (hbR : baseR ≤ w.heap.size)
    (hinc : Inc hs) (hsz : ∀ s ∈ hs, s.size ≤ maxLen) (hnH : n ≤ 65536) :
    Calls Try.prog 36 #[.pointer (some ⟨br, 0, none⟩), .slice none 0 0] w fun e w' => e = .returned (.tuple #[]) ∧ ∃ aR' capR', JoinedR w w' br hs [] hs aR' capR' (fun k => k = br) := by
  have c38 := sort38nil w
  obtain ⟨r0, r1⟩ := hreg.cells
  have c40 := grow40 baseR (some ⟨gR, 0, none⟩) capR 0 hs w hR hbR (by rw [HN.out]; omega) (by omega)
  rw [HN.out] at c40
  go_enter Try.func36, Try.ntmps36
  go_wp2_with fail
  refine c38.mono ?_
  rintro e w' ⟨rfl, hw⟩
  obtain rfl := hw.symm
  clear c38 hw
  go_wp2_with fail
  refine c40.mono ?_
  rintro e w2 ⟨a', cap', rfl, hg⟩
  obtain ⟨hcap, hR2, hb2, haa⟩ := hg
  rw [HN.out] at hcap
  have hreg2 : RegAt w2 br (some ⟨gR, 0, none⟩) n capR := (hb2.block br (lt_of_block hreg)).trans hreg
  obtain ⟨g, rfl⟩ : ∃ g, a' = some ⟨g, 0, none⟩ := by
    rcases haa with e | e
    · exact ⟨gR, e⟩
    · exact ⟨_, e⟩
  obtain ⟨s0, s1⟩ := hreg2.cells
  have sf : w2.frozen? ⟨br, 1, none⟩ = false := frozen_of_row w2 br 1 _ 66 hreg2
  have hc63 : cap' ≤ 9223372036854775807 := by
    rcases hR2.2 with ⟨hv, _⟩ | ⟨g', cap'', cur, hv, _, _, _, hcm, _⟩
    · cases hv
    · simp only [Value.slice.injEq] at hv
      obtain ⟨_, _, rfl⟩ := hv
      unfold maxLen at hcm
      omega
  have hgbr : g ≠ br := fun e => by
    obtain ⟨_, cur, hc⟩ := owns_block hR2 (b := g) rfl
    unfold RegAt at hreg2
    rw [← e, hc] at hreg2
    simp at hreg2
  have hacc2 : AccArg w2 (some ⟨g, 0, none⟩) hs.length hs := accArg_of_owns hR2 hsz
  have hfin : Hid (∃ aR' capR', JoinedR w (w2.setCell ⟨br, 1, none⟩ (.slice (some ⟨g, 0, none⟩) n cap')) br hs [] hs aR' capR' (fun k => k = br)) := by
    have hx := ext_setCell w2 br 1 (.slice (some ⟨g, 0, none⟩) n cap')
    refine ⟨some ⟨g, 0, none⟩, cap', hinc, rfl, fun x => by simp, ?_, hacc2.ext hx (fun x hx' _ e => by cases hx'; exact hgbr e), (Ext.of_below hb2 _).trans hx⟩
    rw [HN.out]
    unfold RegAt at hreg2 ⊢
    rw [heap_setCell_same w2 br 1 _ 66 _ hreg2]
    rfl
  clear r0 r1 hreg hR hb2 haa hreg2 c40 hR2 hsz hacc2 hinc
  go_wp2
  go_loopw [6] (fun vj wr => vj = .int .i64 (-1) ∧ wr = w2.setCell ⟨br, 1, none⟩ (.slice (some ⟨g, 0, none⟩) n cap')) (fun _ _ => 0)
  case atStart => exact ⟨by go_num, by simp⟩
  case round =>
    obtain ⟨rfl, hw⟩ := hrel
    rw [← hw] at hfin
    have HF := hfin
    clear hw hfin s0 s1 sf
    go_wp2
    go_end0
    exact ⟨rfl, HF.out⟩

theorem Joined.toR {w w' : World} {br baseO gO capO gR : Nat} {hs os ms R : List ByteArray} {aR' : Option Addr} {capR' : Nat} (h : Joined w w' br baseO gO capO (some ⟨gR, 0, none⟩) hs os ms R aR' capR') (hg : baseO ≤ gO) :
    JoinedR w w' br hs os R aR' capR' (fun k => k = br ∨ k = gR ∨ baseO ≤ k) :=
  ⟨h.incR, h.lenR, h.memR, h.reg, h.racc, h.ext.mono fun k hk => by
    rcases hk with e | e | ⟨x, hx, hb⟩
    · exact Or.inl e
    · exact Or.inr (Or.inr (by omega))
    · cases hx; exact Or.inr (Or.inl hb.symm)⟩

theorem join21R (br baseR baseO gR n capR : Nat) (hs : List ByteArray) (aD : Option Addr) (m capO : Nat) (os : List ByteArray) (w : World) (HN : Hid (hs.length = n)) (HM : Hid (os.length = m))
    (hreg : RegAt w br (some ⟨gR, 0, none⟩) n capR) (hR : w.ownsRow baseR 42 5 (.slice (some ⟨gR, 0, none⟩) hs.length capR) hs.length (accRow hs)) (hO : w.ownsRow baseO 42 5 (.slice aD os.length capO) os.length (accRow os)) (hlt : gR < baseO) (hbR : baseR ≤ w.heap.size)
    (hinc : Inc hs) (hnd : os.Nodup) (hdis : ∀ s ∈ os, s ∉ hs) (hsz : ∀ s ∈ hs, s.size ≤ maxLen) (osz : ∀ s ∈ os, s.size ≤ maxLen) (hnH : n ≤ 65536) (hnO : m ≤ 65536) :
    Calls Try.prog 21 #[.pointer (some ⟨br, 0, none⟩), .slice aD m capO] w fun e w' => e = .returned (.tuple #[]) ∧ ∃ R aR' capR', JoinedR w w' br hs os R aR' capR' (fun k => k = br ∨ k = gR ∨ baseO ≤ k) := by
  rcases hO.2 with ⟨hv, h0⟩ | ⟨g, cap', cur, hv, hg, _⟩
  · simp only [Value.slice.injEq] at hv
    obtain ⟨rfl, _, rfl⟩ := hv
    have hm0 : m = 0 := by rw [← HM.out]; exact h0
    subst hm0
    obtain rfl := List.eq_nil_of_length_eq_zero h0
    have c := join36nil br baseR gR n capR hs w HN hreg hR hbR hinc hsz hnH
    clear hreg hR hO hinc hnd hdis hsz osz
    go_enter Try.func21, Try.ntmps21
    go_wp2_with (go_at_call 36; refine c.mono ?_; rintro e w' ⟨rfl, hJ⟩)
    go_end0
    obtain ⟨aR', capR', hJ⟩ := hJ
    exact ⟨rfl, hs, aR', capR', hJ.incR, hJ.lenR, hJ.memR, hJ.reg, hJ.racc, hJ.ext.mono fun k hk => Or.inl hk⟩
  · simp only [Value.slice.injEq] at hv
    obtain ⟨rfl, _, rfl⟩ := hv
    refine (join21 br baseR baseO gR n capR hs g m capO os w HN HM hreg hR hO (by omega) hbR hinc hnd hdis hsz osz hnH hnO).mono ?_
    rintro e w' ⟨rfl, ms, R, aR', capR', hJ⟩
    exact ⟨rfl, R, aR', capR', hJ.toR hg⟩
end Go.Proofs.Qxb6603349a
