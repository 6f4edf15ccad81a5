/-
  29: (*trieNode).key. 24, 12: compareEntries.
-/
import Derived.Test.Qxb6603491aLeaf
namespace Go.Proofs.Qxb6603491a
open Go.RowKit
set_option linter.unusedVariables false

/-- A leaf that can be read: her entries es, her text zs. -/
structure LeafIn (w : World) (nb : Nat) (a : Option Addr) (len cap : Nat) (t : Option Addr) (lt ct : Nat) (es : List Ent) (zs : List Int) : Prop where
  node : NodeAt w nb a len cap t lt ct
  ents : EArg w a len es
  text : BArg w t lt zs
  shape : Shape t ct
  room : lt ≤ ct

theorem LeafIn.below {w w' : World} {nb : Nat} {a : Option Addr} {len cap : Nat} {t : Option Addr} {lt ct : Nat} {es : List Ent} {zs : List Int} (h : LeafIn w nb a len cap t lt ct es zs) (hb : Below w.heap.size w w') : LeafIn w' nb a len cap t lt ct es zs :=
  have hl : nb < w.heap.size := World.block_lt_of_cell? w ⟨nb, 0, none⟩ h.node.ents
  ⟨⟨(hb.cell (p := ⟨nb, 0, none⟩) hl).trans h.node.ents, (hb.cell (p := ⟨nb, 1, none⟩) hl).trans h.node.text⟩, h.ents.below hb h.ents.lt, h.text.below hb h.text.lt, h.shape, h.room⟩

theorem belowN {B : Nat} {a w : World} (h : Below B a w) (n : Nat) : Below B a (w.drewN n) := h.trans ((Drew.refl w).drewN n |>.below B)

set_option maxHeartbeats 4000000 in
theorem key29 (nb : Nat) (a : Option Addr) (len cap : Nat) (t : Option Addr) (lt ct : Nat) (es : List Ent) (zs : List Int) (n : Nat) (w : World) (h : LeafIn w nb a len cap t lt ct es zs) (x2 : n < len) (b1 : len ≤ 1048576) (b2 : lt ≤ 1048576)
    (y1 : (es.getD n e0).ka ≤ (es.getD n e0).va) (y2 : (es.getD n e0).va ≤ lt) :
    Calls Try.prog 29 #[.pointer (some ⟨nb, 0, none⟩), .int .i64 n] w fun e w' => e = .returned (keyV t ct (es.getD n e0)) ∧ Below w.heap.size w w' := by
  have hnl : nb < w.heap.size := World.block_lt_of_cell? w ⟨nb, 0, none⟩ h.node.ents
  obtain ⟨b, off, rfl, hc⟩ := h.ents.2.2.2 (by omega)
  have hbl := h.ents.lt _ rfl (by omega)
  obtain ⟨⟨k1, k2⟩, ⟨k3, k4⟩, ⟨k5, k6⟩, _, _⟩ := h.ents.entOk x2
  have hce := hc n x2
  have hcap := h.room
  have hsh := h.shape
  obtain ⟨n0, n1⟩ := h.node
  obtain ⟨e, he⟩ : ∃ e, e = es.getD n e0 := ⟨_, rfl⟩
  rw [← he] at hce k1 k2 k3 k4 k5 k6 y1 y2 ⊢
  clear he hc h
  obtain ⟨c0, c1, c2, c3⟩ := hce
  obtain ⟨A, hA⟩ : ∃ A : Nat, e.ka = A := ⟨e.ka.toNat, by omega⟩
  obtain ⟨V, hV⟩ : ∃ V : Nat, e.va = V := ⟨e.va.toNat, by omega⟩
  rw [keyV_nat t ct e A V hA hV]
  rw [hA] at y1 c1 k3 k4
  rw [hV] at y1 y2 c2 k5 k6
  clear hA hV
  rcases hsh with ⟨rfl, rfl⟩ | ⟨g, rfl⟩
  · have hl0 : lt = 0 := by omega
    have hA0 : A = 0 := by omega
    have hV0 : V = 0 := by omega
    subst hl0 hA0 hV0
    go_enter Try.func29, Try.ntmps29
    have hne : nb ≠ w.heap.size := by omega
    go_wp2
    go_quiet (fail)
    go_wp2
    go_ret
    exact ⟨rfl, belowN ((Below.refl _ _).alloc (Nat.le_refl _) _) _⟩
  · by_cases hx : ct = A
    · rw [show cutA (some ⟨g, 0, none⟩) ct A = some ⟨g, 0, none⟩ from if_pos hx]
      subst hx
      go_enter Try.func29, Try.ntmps29
      have hne : nb ≠ w.heap.size := by omega
      go_wp2
      go_quiet (fail)
      go_wp2
      go_ret
      exact ⟨by simp, belowN ((Below.refl _ _).alloc (Nat.le_refl _) _) _⟩
    · rw [show cutA (some ⟨g, 0, none⟩) ct A = some ⟨g, 0 + A, none⟩ from if_neg hx]
      go_enter Try.func29, Try.ntmps29
      have hne : nb ≠ w.heap.size := by omega
      go_wp2
      go_quiet (fail)
      go_wp2
      go_ret
      exact ⟨by simp, belowN ((Below.refl _ _).alloc (Nat.le_refl _) _) _⟩

/-- The comparison of two entries, in plain words. -/
def cmpE (es : List Ent) (zs : List Int) (i j : Nat) : Int := cmpK (es.getD i e0).h (keyOf zs (es.getD i e0)) (es.getD j e0).h (keyOf zs (es.getD j e0))

/-- Entry n is well formed. -/
structure Fine (es : List Ent) (len lt n : Nat) : Prop where
  isIn : n < len
  le : (es.getD n e0).ka ≤ (es.getD n e0).va
  inText : (es.getD n e0).va ≤ lt

theorem cmp_parts {R x y : Int} {k l : List Int} (h : R = cmpK x k y l) : (cmpI x y ≠ 0 → R = cmpI x y) ∧ (cmpI x y = 0 → R = lexI k l) := by
  subst h
  unfold cmpI cmpK
  by_cases h1 : x < y
  · rw [if_pos h1, if_pos h1]; exact ⟨fun _ => rfl, fun h => absurd h (by decide)⟩
  · rw [if_neg h1, if_neg h1]
    by_cases h2 : y < x
    · rw [if_pos h2, if_pos h2]; exact ⟨fun _ => rfl, fun h => absurd h (by decide)⟩
    · rw [if_neg h2, if_neg h2]; exact ⟨fun h => absurd rfl h, fun _ => rfl⟩

set_option maxHeartbeats 4000000 in
theorem compare24 (nb : Nat) (a : Option Addr) (len cap : Nat) (t : Option Addr) (lt ct : Nat) (es : List Ent) (zs : List Int) (i j : Nat) (w : World) (h : LeafIn w nb a len cap t lt ct es zs) (b1 : len ≤ 1048576) (b2 : lt ≤ 1048576)
    (hi : Fine es len lt i) (hj : Fine es len lt j) :
    Calls Try.prog 24 #[.pointer (some ⟨nb, 0, none⟩), .int .i64 i, .pointer (some ⟨nb, 0, none⟩), .int .i64 j] w fun e w' => e = .returned (.int .i64 (cmpE es zs i j)) ∧ Below w.heap.size w w' := by
  have H : Hid (LeafIn w nb a len cap t lt ct es zs) := h
  have HI : Hid (Fine es len lt i) := hi
  have HJ : Hid (Fine es len lt j) := hj
  obtain ⟨b, off, rfl, hc⟩ := h.ents.2.2.2 (Nat.lt_of_le_of_lt (Nat.zero_le _) hi.isIn)
  have il := hi.isIn
  have jl := hj.isIn
  have ci := (hc i hi.isIn).h
  have cj := (hc j hj.isIn).h
  obtain ⟨n0, n1⟩ := h.node
  have hcmp : Hid (cmpE es zs i j = cmpK (es.getD i e0).h (keyOf zs (es.getD i e0)) (es.getD j e0).h (keyOf zs (es.getD j e0))) := (show _ = _ from rfl)
  obtain ⟨R, hR⟩ : ∃ R, R = cmpE es zs i j := ⟨_, rfl⟩
  rw [← hR] at hcmp ⊢
  clear hR hc h hi hj
  obtain ⟨x, hx⟩ : ∃ x, x = (es.getD i e0).h := ⟨_, rfl⟩
  obtain ⟨y, hy⟩ : ∃ y, y = (es.getD j e0).h := ⟨_, rfl⟩
  rw [← hx] at ci hcmp
  rw [← hy] at cj hcmp
  clear hx hy
  go_enter Try.func24, Try.ntmps24
  go_wp2
  go_quiet ((go_at_call 27; exact Calls.quiet_of_same (compare27 _ _ _)))
  have hlf : Hid (LeafIn (w.drewN nq) nb (some ⟨b, off, none⟩) len cap t lt ct es zs) := H.out.below (belowN (Below.refl _ _) nq)
  have hbn : Hid (Below w.heap.size w (w.drewN nq)) := belowN (Below.refl _ _) nq
  have hqR : Hid ((cmpI x y ≠ 0 → R = cmpI x y) ∧ (cmpI x y = 0 → R = lexI (keyOf zs (es.getD i e0)) (keyOf zs (es.getD j e0)))) := cmp_parts hcmp.out
  obtain ⟨wq, hwq⟩ : ∃ wq, wq = w.drewN nq := ⟨_, rfl⟩
  rw [← hwq] at hlf hbn ⊢
  have hsz : wq.heap.size = w.heap.size := by rw [hwq]; rfl
  have HS : Hid (wq.heap.size = w.heap.size) := hsz
  clear hwq hsz hcmp ci cj n0 n1 H
  obtain ⟨u, hu⟩ : ∃ u, u = keyV t ct (es.getD i e0) := ⟨_, rfl⟩
  obtain ⟨v, hv⟩ : ∃ v, v = keyV t ct (es.getD j e0) := ⟨_, rfl⟩
  have HU : Hid (u = keyV t ct (es.getD i e0)) := hu
  have HV : Hid (v = keyV t ct (es.getD j e0)) := hv
  clear hu hv
  by_cases hne : cmpI x y = 0
  · have hR := hqR.out.2 hne
    have HR : Hid (R = lexI (keyOf zs (es.getD i e0)) (keyOf zs (es.getD j e0))) := hR
    clear hR hqR
    rw [hne]
    go_wp2_with fail
    have k1 := key29 nb _ len cap t lt ct es zs i wq hlf.out il b1 b2 HI.out.le HI.out.inText
    rw [← HU.out] at k1
    refine k1.mono ?_
    rintro e w2 ⟨rfl, hb2⟩
    have HB2 : Hid (Below wq.heap.size wq w2) := hb2
    clear hb2 k1
    go_wp2_with fail
    have k2 := key29 nb _ len cap t lt ct es zs j w2 (hlf.out.below HB2.out) jl b1 b2 HJ.out.le HJ.out.inText
    rw [← HV.out] at k2
    refine k2.mono ?_
    rintro e w3 ⟨rfl, hb3⟩
    have HB3 : Hid (Below w2.heap.size w2 w3) := hb3
    have hl3 : LeafIn w3 nb (some ⟨b, off, none⟩) len cap t lt ct es zs := (hlf.out.below HB2.out).below HB3.out
    have c28 := compare28 (cutA t ct (es.getD i e0).ka.toNat) (cutA t ct (es.getD j e0).ka.toNat) ((es.getD i e0).va.toNat - (es.getD i e0).ka.toNat) (ct - (es.getD i e0).ka.toNat) ((es.getD j e0).va.toNat - (es.getD j e0).ka.toNat) (ct - (es.getD j e0).ka.toNat) _ _ w3
      (key_barg hl3.text HI.out.le HI.out.inText (hl3.ents.entOk il).2.1.1 hl3.room) (key_barg hl3.text HJ.out.le HJ.out.inText (hl3.ents.entOk jl).2.1.1 hl3.room)
    rw [← HR.out] at c28
    have c28' : Calls Try.prog 28 #[keyV t ct (es.getD i e0), keyV t ct (es.getD j e0)] w3 fun e w' => e = .returned (.int .i64 R) ∧ w' = w3 := c28
    rw [← HU.out, ← HV.out] at c28'
    clear hb3 hl3 c28 k2
    go_wp2_with fail
    refine c28'.mono ?_
    rintro e w' ⟨rfl, hw⟩
    obtain rfl := hw.symm
    go_wp2
    go_ret
    exact ⟨rfl, (hbn.out.trans (HB2.out.mono (Nat.le_of_eq HS.out.symm))).trans (HB3.out.mono (by have := HB2.out.size; have := HS.out; omega))⟩
  · have hR := hqR.out.1 hne
    subst hR
    clear hqR
    go_wp2
    go_ret
    exact ⟨rfl, hbn.out⟩

theorem compare12 (nb : Nat) (a : Option Addr) (len cap : Nat) (t : Option Addr) (lt ct : Nat) (es : List Ent) (zs : List Int) (i j : Nat) (w : World) (h : LeafIn w nb a len cap t lt ct es zs) (b1 : len ≤ 1048576) (b2 : lt ≤ 1048576)
    (hi : Fine es len lt i) (hj : Fine es len lt j) :
    Calls Try.prog 12 #[.pointer (some ⟨nb, 0, none⟩), .int .i64 i, .pointer (some ⟨nb, 0, none⟩), .int .i64 j] w fun e w' => e = .returned (.int .i64 (cmpE es zs i j)) ∧ Below w.heap.size w w' := by
  have c := compare24 nb a len cap t lt ct es zs i j w h b1 b2 hi hj
  go_enter Try.func12, Try.ntmps12
  go_wp2_with fail
  refine c.mono ?_
  rintro e w' ⟨rfl, hb⟩
  have HB : Hid (Below w.heap.size w w') := hb
  clear hb c
  go_wp2
  go_ret
  exact ⟨rfl, HB.out⟩
end Go.Proofs.Qxb6603491a
