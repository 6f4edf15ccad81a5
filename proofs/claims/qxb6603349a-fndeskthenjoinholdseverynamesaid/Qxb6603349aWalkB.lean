/-
  11: zzb1Clone: a fresh copy of a list of strings.
-/
import Derived.Test.Qxb6603349aBase
namespace Go.Proofs.Qxb6603349a
open Go.RowKit

theorem Try.info9 : (Try.prog.info? 9).map (fun i => (i.zero, i.size, i.bytes)) = some (some (.string ByteArray.empty), 1, 16) := by kernel_rfl

/-- What a clone is good for. -/
structure Cloned (w w' : World) (a' : Option Addr) (len : Nat) (ss : List ByteArray) : Prop where
  arg : StrArg w' a' len ss
  below : Below w.heap.size w w'
  new : ∀ x, a' = some x → w.heap.size ≤ x.block

/-- What the loop of the clone knows after k rounds. -/
def CopyTo (w wr : World) (len k : Nat) (ss : List ByteArray) : Prop :=
  ∃ xs, wr.ownsRow w.heap.size 9 1 (.slice (some ⟨w.heap.size, 0, none⟩) len len) len xs ∧ (∀ j, j < k → xs[j]? = some (.string (ss.getD j ByteArray.empty))) ∧ Below w.heap.size w wr

theorem CopyTo.stored {w wr : World} {len k : Nat} {ss : List ByteArray} (h : CopyTo w wr len k ss) (hk : k < len) :
    CopyTo w (wr.setCell ⟨w.heap.size, k, none⟩ (.string (ss.getD k ByteArray.empty))) len (k + 1) ss := by
  obtain ⟨xs, ho, hx, hb⟩ := h
  have hl : xs.length = len := by have := ho.1; simpa using this
  refine ⟨xs.set k (.string (ss.getD k ByteArray.empty)), (ho.stored k _).1, fun j hj => ?_, hb.setCell (Nat.le_refl _) _⟩
  rw [List.getElem?_set]
  by_cases hjk : k = j
  · subst hjk; simp [hl, hk]
  · rw [if_neg hjk]; exact hx j (by omega)

theorem CopyTo.cell {w wr : World} {len k : Nat} {ss : List ByteArray} (h : CopyTo w wr len k ss) (hk : k < len) :
    (∃ v, wr.cell? ⟨w.heap.size, k, none⟩ = some v) ∧ wr.frozen? ⟨w.heap.size, k, none⟩ = false := by
  obtain ⟨xs, ho, hx, hb⟩ := h
  have hl : xs.length = len := by have := ho.1; simpa using this
  refine ⟨⟨xs[k]'(by omega), ?_⟩, ho.frozenAt k⟩
  rw [ho.cellAt k (by simpa using hk)]
  simp

theorem CopyTo.done {w wr : World} {len : Nat} {ss : List ByteArray} (h : CopyTo w wr len len ss) (h1 : ss.length = len) (h2 : len ≤ maxLen) (h3 : ∀ s ∈ ss, s.size ≤ maxLen) : Cloned w wr (some ⟨w.heap.size, 0, none⟩) len ss := by
  obtain ⟨xs, ho, hx, hb⟩ := h
  refine ⟨⟨h1, h2, h3, fun _ => ⟨w.heap.size, 0, rfl, fun k hk => ?_⟩⟩, hb, fun x hx => by cases hx; exact Nat.le_refl _⟩
  rw [ho.cellAt (0 + k) (by simpa using hk), Nat.zero_add]
  exact hx k hk

set_option maxHeartbeats 400000 in
theorem clone11 (a : Option Addr) (len cap : Nat) (ss : List ByteArray) (w : World) (h : StrArg w a len ss) (hb : len ≤ 1048576) :
    Calls Try.prog 11 #[.slice a len cap] w fun e w' => ∃ a' cap', e = .returned (.slice a' len cap') ∧ Cloned w w' a' len ss := by
  have hs := h
  obtain ⟨h1, h2, h3, h4⟩ := h
  have hnil := fun (w : World) a n c => Lib.run_eql_slice_nil (P := Try.prog) w 22 9 a n c 0 0 Try.underlying22
  cases a with
  | none =>
    have h0 : len = 0 := by
      cases len with
      | zero => rfl
      | succ n => obtain ⟨b, off, hx, _⟩ := h4 (by omega); cases hx
    subst h0
    clear h4 h3
    go_enter Try.func11, Try.ntmps11
    go_wp2
    go_ret
    exact ⟨none, 0, rfl, hs, Below.refl _ _, fun x hx => by cases hx⟩
  | some x =>
    have h2' := h2
    unfold maxLen at h2'
    obtain ⟨i0, hi, hz0, hz1, hz2⟩ := info_parts Try.info9
    have hlt := hs.lt
    go_enter Try.func11, Try.ntmps11
    go_wp2_with (at_make; refine wpList_make_full _ rfl _ _ 22 rfl w.heap.size 9 i0 _ 1 Try.underlying22 hi hz0 hz1 .i64 .i64 _ _ len rfl rfl rfl rfl (by rw [hz2]; omega) h2 (Nat.le_refl _) ?_; intro w1 hown hgrow)
    go_loopw [4] (fun i wr => ∃ k : Nat, k ≤ len ∧ i = .int .i64 k ∧ CopyTo w wr len k ss) (fun i _ => len - (intOf i).toNat)
    case atStart => exact ⟨0, Nat.zero_le _, rfl, _, hown, fun j hj => absurd hj (Nat.not_lt_zero _), (Below.refl _ _).grown hgrow (Nat.le_refl _) (fun k hk => by cases hk)⟩
    case round =>
      obtain ⟨k, hk, rfl, hcp⟩ := hrel
      clear hown hgrow
      by_cases hkl : k < len
      · obtain ⟨b, off, hx, hc⟩ := h4 (by omega)
        obtain rfl := Option.some.inj hx
        have hbl := hlt _ rfl (by omega)
        have hbel : Below w.heap.size w wr := by obtain ⟨_, _, _, h⟩ := hcp; exact h
        have hcell : wr.cell? ⟨b, off + k, none⟩ = some (.string (ss.getD k ByteArray.empty)) := (hbel.cell (p := ⟨b, off + k, none⟩) hbl).trans (hc k hkl)
        obtain ⟨⟨v, hcv⟩, hfr⟩ := hcp.cell hkl
        have hnext := hcp.stored hkl
        obtain ⟨s, hs⟩ : ∃ s, s = ss.getD k ByteArray.empty := ⟨_, rfl⟩
        rw [← hs] at hcell hnext
        clear hs hc h4 h3 hlt hcp
        go_wp2
        go_roundw
        case rel => exact ⟨k + 1, by omega, by go_num, hnext⟩
        case measure => simp [intOf]; omega
      · have : k = len := by omega
        subst this
        have hd := hcp.done h1 h2 h3
        clear h4 h3 hcp hlt
        go_wp2
        go_ret
        exact ⟨_, _, rfl, hd⟩
end Go.Proofs.Qxb6603349a
