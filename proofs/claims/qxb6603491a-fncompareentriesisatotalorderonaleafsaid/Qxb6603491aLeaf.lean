/-
  23: ZZleaf. 11: ceLeaf.
-/
import Derived.Test.Qxb6603491aClone
namespace Go.Proofs.Qxb6603491a
open Go.RowKit
set_option linter.unusedVariables false

theorem Try.info33 : (Try.prog.info? 33).map (fun i => (i.zero, i.size, i.bytes)) = some (some (.int .u64 0), 1, 8) := by kernel_rfl
theorem Try.info34 : (Try.prog.info? 34).map (fun i => (i.zero, i.size, i.bytes)) = some (some (.int .u32 0), 1, 4) := by kernel_rfl

/-- A row of len cells at block g, of which the first k are laid. -/
def RowTo (t : TypeId) (wr : World) (g len k : Nat) (f : Nat → Value) : Prop :=
  ∃ cur, wr.heap[g]? = some (.cells cur t (0, 0)) ∧ cur.size = len ∧ ∀ j, j < k → cur[j]? = some (f j)

theorem RowTo.made {t : TypeId} {w : World} {base g n : Nat} {xs : List Value} {f : Nat → Value} (h : w.ownsRow base t 1 (.slice (some ⟨g, 0, none⟩) n n) n xs) : RowTo t w g n 0 f := by
  obtain ⟨_, ⟨h1, _⟩ | ⟨g', cap, cur, h1, h2, h3, h4, h5, h6, h7⟩⟩ := h
  · cases h1
  · cases h1
    exact ⟨cur, h3, by simpa using h6, fun p hp => absurd hp (Nat.not_lt_zero _)⟩

theorem RowTo.lt {t : TypeId} {wr : World} {g len k : Nat} {f : Nat → Value} (h : RowTo t wr g len k f) : g < wr.heap.size := by
  obtain ⟨cur, hc, _⟩ := h
  exact lt_of_block hc

theorem RowTo.below {t : TypeId} {w w' : World} {g len k B : Nat} {f : Nat → Value} (h : RowTo t w g len k f) (hb : Below B w w') (hg : g < B) : RowTo t w' g len k f := by
  obtain ⟨cur, hc, hs, hf⟩ := h
  exact ⟨cur, (hb.block g hg).trans hc, hs, hf⟩

theorem RowTo.set {t : TypeId} {wr : World} {g len k : Nat} {f : Nat → Value} (h : RowTo t wr g len k f) (hk : k < len) : RowTo t (wr.setCell ⟨g, k, none⟩ (f k)) g len (k + 1) f := by
  obtain ⟨cur, hc, hs, hf⟩ := h
  refine ⟨_, heap_setCell_same wr g k cur t (f k) hc, by simp [hs], fun j hj => ?_⟩
  by_cases e : k = j
  · subst e; simp [hs, hk]
  · rw [Array.getElem?_setIfInBounds_ne e]; exact hf j (by omega)

theorem RowTo.other {t : TypeId} {wr : World} {g g' len k j : Nat} {f : Nat → Value} {v : Value} (h : RowTo t wr g len k f) (hg : g' ≠ g) : RowTo t (wr.setCell ⟨g', j, none⟩ v) g len k f := by
  obtain ⟨cur, hc, hs, hf⟩ := h
  exact ⟨cur, (Below.heap_setCell _ _ _ _ (fun e => hg e.symm)).trans hc, hs, hf⟩

theorem RowTo.free {t : TypeId} {wr : World} {g len k : Nat} {f : Nat → Value} (h : RowTo t wr g len k f) {q : Nat} (hq : q < len) : (∃ v, wr.cell? ⟨g, q, none⟩ = some v) ∧ wr.frozen? ⟨g, q, none⟩ = false := by
  obtain ⟨cur, hc, hs, hf⟩ := h
  refine ⟨?_, frozen_of_row wr g q cur t hc⟩
  rw [cell_of_row wr g q cur t (0, 0) hc]
  exact ⟨_, Array.getElem?_eq_getElem (by rw [hs]; exact hq)⟩

theorem RowTo.at {t : TypeId} {wr : World} {g len k : Nat} {f : Nat → Value} (h : RowTo t wr g len k f) {q : Nat} (hq : q < k) : wr.cell? ⟨g, q, none⟩ = some (f q) := by
  obtain ⟨cur, hc, hs, hf⟩ := h
  rw [cell_of_row wr g q cur t (0, 0) hc]
  exact hf q hq

theorem EntTo.drew {t : TypeId} {wr : World} {g len k : Nat} {es : List Ent} (h : EntTo t wr g len k es) : EntTo t wr.drew g len k es := by
  obtain ⟨cur, h1, h2, h3⟩ := h
  exact ⟨cur, h1, h2, h3⟩

theorem alloc_cell (w : World) (cs : Array Value) (t : TypeId) (j : Nat) : (w.alloc (.cells cs t)).cell? ⟨w.heap.size, j, none⟩ = cs[j]? := by
  have h : (w.alloc (.cells cs t)).heap[w.heap.size]? = some (.cells cs t (0, 0)) := by
    show (w.heap.push _)[w.heap.size]? = _
    rw [Array.getElem?_push, if_pos rfl]
  exact cell_of_row _ _ j cs t (0, 0) h

def fH (es : List Ent) (j : Nat) : Value := .int .u64 (es.getD j e0).h
def fK (es : List Ent) (j : Nat) : Value := .int .u32 (es.getD j e0).ka
def fV (es : List Ent) (j : Nat) : Value := .int .u32 (es.getD j e0).va
def fE (es : List Ent) (j : Nat) : Value := .int .u32 (es.getD j e0).en

/-- The four rows. -/
structure Rows4 (wr : World) (g0 g1 g2 g3 len k : Nat) (es : List Ent) : Prop where
  r0 : RowTo 33 wr g0 len k (fH es)
  r1 : RowTo 34 wr g1 len k (fK es)
  r2 : RowTo 34 wr g2 len k (fV es)
  r3 : RowTo 34 wr g3 len k (fE es)

/-- The node: her entries and her text. -/
structure NodeAt (w : World) (nb : Nat) (a : Option Addr) (len cap : Nat) (t : Option Addr) (lt ct : Nat) : Prop where
  ents : w.cell? ⟨nb, 0, none⟩ = some (.slice a len cap)
  text : w.cell? ⟨nb, 1, none⟩ = some (.slice t lt ct)

/-- What the maker of a leaf leaves. -/
structure Leaf (w w' : World) (nb : Nat) (a : Option Addr) (len cap : Nat) (t : Option Addr) (lt ct : Nat) (es : List Ent) : Prop where
  node : NodeAt w' nb a len cap t lt ct
  arg : EArg w' a len es
  below : Below w.heap.size w w'

set_option maxHeartbeats 4000000 in
theorem leaf23 (g0 g1 g2 g3 len : Nat) (t : Option Addr) (lt ct : Nat) (es : List Ent) (w : World) (h : Rows4 w g0 g1 g2 g3 len len es) (h1 : es.length = len) (h3 : ∀ e ∈ es, e.ok) (hb : len ≤ 1048576) :
    Calls Try.prog 23 #[.slice (some ⟨g0, 0, none⟩) len len, .slice (some ⟨g1, 0, none⟩) len len, .slice (some ⟨g2, 0, none⟩) len len, .slice (some ⟨g3, 0, none⟩) len len, .slice t lt ct] w
      fun e w' => ∃ nb a' cap', e = .returned (.pointer (some ⟨nb, 0, none⟩)) ∧ Leaf w w' nb a' len cap' t lt ct es := by
  have H : Hid (Rows4 w g0 g1 g2 g3 len len es) := h
  have H1 : Hid (es.length = len) := h1
  have H3 : Hid (∀ e ∈ es, e.ok) := h3
  have l0 := h.r0.lt
  have l1 := h.r1.lt
  have l2 := h.r2.lt
  have l3 := h.r3.lt
  clear h h1 h3
  obtain ⟨i0, hi, hz0, hz1, hz2⟩ := info_parts Try.info55
  have hml : len ≤ maxLen := by unfold maxLen; omega
  go_enter Try.func23, Try.ntmps23
  go_wp2_with (at_make; refine wpList_make_full _ rfl _ _ 53 rfl w.heap.size 55 i0 _ 4 Try.underlying53 hi hz0 hz1 .i64 .i64 _ _ len rfl rfl rfl rfl (by rw [hz2]; omega) hml (Nat.le_refl _) ?_; intro w1 hown hgrow)
  have hto : Hid (EntTo 55 w1 w.heap.size len 0 es) := EntTo.made hown
  have hbe : Hid (Below w.heap.size w w1) := (Below.refl _ _).grown hgrow (Nat.le_refl _) (fun k hk => by cases hk)
  clear hown hgrow hi hz0 hz1 hz2
  obtain ⟨g, hg⟩ : ∃ g, g = w.heap.size := ⟨_, rfl⟩
  rw [← hg] at hto ⊢
  have HG : Hid (g = w.heap.size) := hg
  clear hg
  go_loopw [12] (fun i wr => ∃ k : Nat, k ≤ len ∧ i = .int .i64 k ∧ Hid (EntTo 55 wr g len k es) ∧ Hid (Below w.heap.size w wr)) (fun i _ => len - (intOf i).toNat)
  case atStart => exact ⟨0, Nat.zero_le _, rfl, hto, hbe⟩
  case round =>
    clear hto hbe
    obtain ⟨k, hk, rfl, hto, hbe⟩ := hrel
    by_cases hkl : k < len
    · have q0 : wr.cell? ⟨g0, k, none⟩ = _ := (hbe.out.cell (p := ⟨g0, k, none⟩) l0).trans (H.out.r0.at hkl)
      have q1 : wr.cell? ⟨g1, k, none⟩ = _ := (hbe.out.cell (p := ⟨g1, k, none⟩) l1).trans (H.out.r1.at hkl)
      have q2 : wr.cell? ⟨g2, k, none⟩ = _ := (hbe.out.cell (p := ⟨g2, k, none⟩) l2).trans (H.out.r2.at hkl)
      have q3 : wr.cell? ⟨g3, k, none⟩ = _ := (hbe.out.cell (p := ⟨g3, k, none⟩) l3).trans (H.out.r3.at hkl)
      unfold fH at q0
      unfold fK at q1
      unfold fV at q2
      unfold fE at q3
      have hnx : Hid (EntTo 55 (put4 wr g k (es.getD k e0)) g len (k + 1) es) := hto.out.put hkl
      have hnb : Hid (Below w.heap.size w (put4 wr g k (es.getD k e0))) := put4_below hbe.out (Nat.le_of_eq HG.out.symm)
      obtain ⟨hfr, hfz⟩ := hto.out.free hkl
      obtain ⟨v0, f0⟩ := hfr 0 (by omega)
      obtain ⟨v1, f1⟩ := hfr 1 (by omega)
      obtain ⟨v2, f2⟩ := hfr 2 (by omega)
      obtain ⟨v3, f3⟩ := hfr 3 (by omega)
      have z0 := hfz (k * 4)
      have z1 := hfz (k * 4 + 1)
      have z2 := hfz (k * 4 + 2)
      have z3 := hfz (k * 4 + 3)
      rw [Nat.add_zero] at f0
      obtain ⟨e, he⟩ : ∃ e, e = es.getD k e0 := ⟨_, rfl⟩
      rw [← he] at hnx hnb q0 q1 q2 q3
      unfold put4 at hnx hnb
      clear he hfr hfz hto hbe
      go_wp2
      go_region
      go_wp2
      go_roundw
      case rel => exact ⟨k + 1, by omega, by go_num, hnx.out.drew, hnb.out.drew⟩
      case measure => simp [intOf]; omega
    · have hk : len = k := by omega
      subst hk
      have hgl : g < wr.heap.size := by obtain ⟨cur, hc, _⟩ := hto.out; exact lt_of_block hc
      go_wp2
      go_ret
      refine ⟨wr.heap.size, some ⟨g, 0, none⟩, len, rfl, ⟨alloc_cell wr _ 58 0, alloc_cell wr _ 58 1⟩, ?_, hbe.out.alloc hbe.out.size _⟩
      have harg : EArg wr (some ⟨g, 0, none⟩) len es := hto.out.arg H1.out hml H3.out
      exact harg.below ((Below.refl wr.heap.size wr).alloc (Nat.le_refl _) _) (fun x hx _ => by cases hx; exact hgl)

theorem Rows4.step {wr : World} {g0 g1 g2 g3 len k : Nat} {es : List Ent} (h : Rows4 wr g0 g1 g2 g3 len k es) (hk : k < len) (h01 : g0 < g1) (h12 : g1 < g2) (h23 : g2 < g3) :
    Rows4 ((((wr.setCell ⟨g0, k, none⟩ (fH es k)).setCell ⟨g1, k, none⟩ (fK es k)).setCell ⟨g2, k, none⟩ (fV es k)).setCell ⟨g3, k, none⟩ (fE es k)) g0 g1 g2 g3 len (k + 1) es :=
  ⟨(((h.r0.set hk).other (by omega)).other (by omega)).other (by omega), (((h.r1.other (by omega)).set hk).other (by omega)).other (by omega),
   (((h.r2.other (by omega)).other (by omega)).set hk).other (by omega), (((h.r3.other (by omega)).other (by omega)).other (by omega)).set hk⟩

set_option maxHeartbeats 4000000 in
theorem leaf11 (a : Option Addr) (len cap : Nat) (t : Option Addr) (lt ct : Nat) (es : List Ent) (w : World) (h : EArg w a len es) (hb : len ≤ 1048576) :
    Calls Try.prog 11 #[.slice a len cap, .slice t lt ct] w
      fun e w' => ∃ nb a' cap', e = .returned (.pointer (some ⟨nb, 0, none⟩)) ∧ Leaf w w' nb a' len cap' t lt ct es := by
  have H : Hid (EArg w a len es) := h
  clear h
  obtain ⟨i3, hi3, hx0, hx1, hx2⟩ := info_parts Try.info33
  obtain ⟨i4, hi4, hy0, hy1, hy2⟩ := info_parts Try.info34
  have hml : len ≤ maxLen := by unfold maxLen; omega
  go_enter Try.func11, Try.ntmps11
  go_wp2_with (at_make; refine wpList_make_full _ rfl _ _ 44 rfl w.heap.size 33 i3 _ 1 Try.underlying44 hi3 hx0 hx1 .i64 .i64 _ _ len rfl rfl rfl rfl (by rw [hx2]; omega) hml (Nat.le_refl _) ?_)
  intro w1 hown hgrow
  have hr0 : Hid (RowTo 33 w1 w.heap.size len 0 (fH es)) := RowTo.made hown
  have hb1 : Hid (Below w.heap.size w w1) := (Below.refl _ _).grown hgrow (Nat.le_refl _) (fun k hk => by cases hk)
  obtain ⟨g0, hg0⟩ : ∃ g, g = w.heap.size := ⟨_, rfl⟩
  rw [← hg0] at hr0 ⊢
  have G0 : Hid (g0 = w.heap.size) := hg0
  clear hown hgrow hi3 hx0 hx1 hx2 hg0
  go_wp2_with (at_make; refine wpList_make_full _ rfl _ _ 45 rfl w1.heap.size 34 i4 _ 1 Try.underlying45 hi4 hy0 hy1 .i64 .i64 _ _ len rfl rfl rfl rfl (by rw [hy2]; omega) hml (Nat.le_refl _) ?_)
  intro w2 hown hgrow
  have hr1 : Hid (RowTo 34 w2 w1.heap.size len 0 (fK es)) := RowTo.made hown
  have hb2 : Hid (Below w1.heap.size w1 w2) := (Below.refl _ _).grown hgrow (Nat.le_refl _) (fun k hk => by cases hk)
  obtain ⟨g1, hg1⟩ : ∃ g, g = w1.heap.size := ⟨_, rfl⟩
  rw [← hg1] at hr1 ⊢
  have G1 : Hid (g1 = w1.heap.size) := hg1
  clear hown hgrow hg1
  go_wp2_with (at_make; refine wpList_make_full _ rfl _ _ 45 rfl w2.heap.size 34 i4 _ 1 Try.underlying45 hi4 hy0 hy1 .i64 .i64 _ _ len rfl rfl rfl rfl (by rw [hy2]; omega) hml (Nat.le_refl _) ?_)
  intro w3 hown hgrow
  have hr2 : Hid (RowTo 34 w3 w2.heap.size len 0 (fV es)) := RowTo.made hown
  have hb3 : Hid (Below w2.heap.size w2 w3) := (Below.refl _ _).grown hgrow (Nat.le_refl _) (fun k hk => by cases hk)
  obtain ⟨g2, hg2⟩ : ∃ g, g = w2.heap.size := ⟨_, rfl⟩
  rw [← hg2] at hr2 ⊢
  have G2 : Hid (g2 = w2.heap.size) := hg2
  clear hown hgrow hg2
  go_wp2_with (at_make; refine wpList_make_full _ rfl _ _ 45 rfl w3.heap.size 34 i4 _ 1 Try.underlying45 hi4 hy0 hy1 .i64 .i64 _ _ len rfl rfl rfl rfl (by rw [hy2]; omega) hml (Nat.le_refl _) ?_)
  intro w4 hown hgrow
  have hr3 : Hid (RowTo 34 w4 w3.heap.size len 0 (fE es)) := RowTo.made hown
  have hb4 : Hid (Below w3.heap.size w3 w4) := (Below.refl _ _).grown hgrow (Nat.le_refl _) (fun k hk => by cases hk)
  obtain ⟨g3, hg3⟩ : ∃ g, g = w3.heap.size := ⟨_, rfl⟩
  rw [← hg3] at hr3 ⊢
  have G3 : Hid (g3 = w3.heap.size) := hg3
  clear hown hgrow hg3 hi4 hy0 hy1 hy2
  have s1 := hb1.out.size
  have s2 := hb2.out.size
  have s3 := hb3.out.size
  have h01 : g0 < g1 := by rw [G1.out]; exact hr0.out.lt
  have h12 : g1 < g2 := by rw [G2.out]; exact hr1.out.lt
  have h23 : g2 < g3 := by rw [G3.out]; exact hr2.out.lt
  have hR : Hid (Rows4 w4 g0 g1 g2 g3 len 0 es) :=
    ⟨((hr0.out.below hb2.out (by rw [← G1.out]; exact h01)).below hb3.out (by rw [← G2.out]; omega)).below hb4.out (by rw [← G3.out]; omega),
     (hr1.out.below hb3.out (by rw [← G2.out]; exact h12)).below hb4.out (by rw [← G3.out]; omega),
     hr2.out.below hb4.out (by rw [← G3.out]; exact h23), hr3.out⟩
  have hB : Hid (Below w.heap.size w w4) := ((hb1.out.trans (hb2.out.mono s1)).trans (hb3.out.mono (by omega))).trans (hb4.out.mono (by omega))
  have hg0w : w.heap.size ≤ g0 := Nat.le_of_eq G0.out.symm
  have HW : Hid (w.heap.size ≤ g0) := hg0w
  clear hr0 hr1 hr2 hr3 hb1 hb2 hb3 hb4 G0 G1 G2 G3 s1 s2 s3 hg0w
  go_wp2_with fail
  go_loopw [9] (fun i wr => ∃ k : Nat, k ≤ len ∧ i = .int .i64 k ∧ Hid (Rows4 wr g0 g1 g2 g3 len k es) ∧ Hid (Below w.heap.size w wr)) (fun i _ => len - (intOf i).toNat)
  case atStart => exact ⟨0, Nat.zero_le _, rfl, hR, hB⟩
  case round =>
    clear hR hB
    obtain ⟨k, hk, rfl, hR, hB⟩ := hrel
    by_cases hkl : k < len
    · obtain ⟨b, off, rfl, hc⟩ := H.out.2.2.2 (by omega)
      have hbl := H.out.lt _ rfl (by omega)
      have hce := (hc k hkl).below hB.out hbl
      have hb0 : b < g0 := Nat.lt_of_lt_of_le hbl HW.out
      have hnx : Hid (Rows4 _ g0 g1 g2 g3 len (k + 1) es) := hR.out.step hkl h01 h12 h23
      have hnb : Hid (Below w.heap.size w ((((wr.setCell ⟨g0, k, none⟩ (fH es k)).setCell ⟨g1, k, none⟩ (fK es k)).setCell ⟨g2, k, none⟩ (fV es k)).setCell ⟨g3, k, none⟩ (fE es k))) :=
        (((hB.out.setCell HW.out _).setCell (show w.heap.size ≤ g1 by have := HW.out; omega) _).setCell (show w.heap.size ≤ g2 by have := HW.out; omega) _).setCell (show w.heap.size ≤ g3 by have := HW.out; omega) _
      obtain ⟨⟨v0, f0⟩, z0⟩ := hR.out.r0.free hkl
      obtain ⟨⟨v1, f1⟩, z1⟩ := hR.out.r1.free hkl
      obtain ⟨⟨v2, f2⟩, z2⟩ := hR.out.r2.free hkl
      obtain ⟨⟨v3, f3⟩, z3⟩ := hR.out.r3.free hkl
      unfold fH fK fV fE at hnx hnb
      obtain ⟨e, he⟩ : ∃ e, e = es.getD k e0 := ⟨_, rfl⟩
      rw [← he] at hnx hnb hce
      obtain ⟨c0, c1, c2, c3⟩ := hce
      have n0 : b ≠ g0 := by omega
      have n1 : b ≠ g1 := by omega
      have n2 : b ≠ g2 := by omega
      have n3 : b ≠ g3 := by omega
      have m1 : g1 ≠ g0 := by omega
      have m2 : g2 ≠ g0 := by omega
      have m3 : g3 ≠ g0 := by omega
      have m4 : g2 ≠ g1 := by omega
      have m5 : g3 ≠ g1 := by omega
      have m6 : g3 ≠ g2 := by omega
      clear he hc hR hB H hbl
      go_wp2
      go_roundw
      case rel => exact ⟨k + 1, by omega, by go_num, hnx, hnb⟩
      case measure => simp [intOf]; omega
    · have hk : len = k := by omega
      subst hk
      have c23 := leaf23 g0 g1 g2 g3 len t lt ct es wr hR.out H.out.1 H.out.2.2.1 hb
      go_wp2_with fail
      refine c23.mono ?_
      rintro e w' ⟨nb, a', cap', rfl, hl⟩
      clear c23
      have HL : Hid (Leaf wr w' nb a' len cap' t lt ct es) := hl
      clear hl
      go_wp2
      go_ret
      exact ⟨nb, a', cap', rfl, HL.out.node, HL.out.arg, hB.out.trans (HL.out.below.mono hB.out.size)⟩
end Go.Proofs.Qxb6603491a
