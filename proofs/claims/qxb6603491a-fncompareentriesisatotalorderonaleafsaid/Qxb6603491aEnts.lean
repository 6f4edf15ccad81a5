/-
  8: ceEntryOK. 15: ceKey. 9: ceCloneE.
-/
import Derived.Test.Qxb6603491aLex
namespace Go.Proofs.Qxb6603491a
open Go.RowKit
set_option linter.unusedVariables false

/-- A bool comes back; where it is true, p holds. -/
def RetIf (p : Prop) (e : Ending) : Prop := ∃ b, e = .returned (.bool b) ∧ (b = true → p)
theorem RetIf.no {p : Prop} : RetIf p (.returned (.bool false)) := ⟨false, rfl, fun h => by cases h⟩
theorem RetIf.yes {p : Prop} (h : p) : RetIf p (.returned (.bool true)) := ⟨true, rfl, fun _ => h⟩

/-- Entry i is well formed. -/
def EntOk (es : List Ent) (len lt : Nat) (i : Int) : Prop := ∃ n : Nat, i = n ∧ n < len ∧ (es.getD n e0).ka ≤ (es.getD n e0).va ∧ (es.getD n e0).va ≤ lt

set_option maxHeartbeats 2000000 in
theorem entryOK8 (a c : Option Addr) (len cap lt ct : Nat) (es : List Ent) (i : Int) (w : World) (h : EArg w a len es) (b1 : len ≤ 1048576) (b2 : lt ≤ 1048576) :
    Calls Try.prog 8 #[.slice a len cap, .slice c lt ct, .int .i64 i] w fun e w' => RetIf (EntOk es len lt i) e ∧ Drew w w' := by
  by_cases x1 : i < 0
  · clear h
    go_enter Try.func8, Try.ntmps8
    go_wp2
    go_ret
    exact ⟨RetIf.no, Drew.refl _⟩
  obtain ⟨n, rfl⟩ : ∃ n : Nat, i = n := ⟨i.toNat, by omega⟩
  by_cases x2 : n < len
  · obtain ⟨b, off, rfl, hc⟩ := h.2.2.2 (by omega)
    obtain ⟨⟨k1, k2⟩, ⟨k3, k4⟩, ⟨k5, k6⟩, _, _⟩ := h.entOk x2
    have hce := hc n x2
    have hE : Hid ((es.getD n e0).ka ≤ (es.getD n e0).va → (es.getD n e0).va ≤ lt → EntOk es len lt n) := fun p q => ⟨n, rfl, x2, p, q⟩
    obtain ⟨e, he⟩ : ∃ e, e = es.getD n e0 := ⟨_, rfl⟩
    rw [← he] at hce hE k1 k2 k3 k4 k5 k6
    clear he hc h
    obtain ⟨c0, c1, c2, c3⟩ := hce
    by_cases y1 : e.ka ≤ e.va
    · by_cases y2 : e.va ≤ lt
      · have hfin := hE.out y1 y2
        have HF : Hid (EntOk es len lt n) := hfin
        clear hE hfin
        go_enter Try.func8, Try.ntmps8
        go_wp2
        go_quiet (fail)
        go_wp2
        go_ret
        exact ⟨RetIf.yes HF.out, (Drew.refl _).drewN _⟩
      · clear hE
        have d2 : decide (e.va ≤ (lt : Int)) = false := decide_eq_false y2
        go_enter Try.func8, Try.ntmps8
        go_wp2
        go_quiet (fail)
        go_wp2
        go_ret
        exact ⟨RetIf.no, (Drew.refl _).drewN _⟩
    · clear hE
      have d1 : decide (e.ka ≤ e.va) = false := decide_eq_false y1
      go_enter Try.func8, Try.ntmps8
      go_wp2
      go_quiet (fail)
      go_wp2
      go_ret
      exact ⟨RetIf.no, (Drew.refl _).drewN _⟩
  · clear h
    go_enter Try.func8, Try.ntmps8
    go_wp2
    go_ret
    exact ⟨RetIf.no, Drew.refl _⟩

/-- The key's bytes. -/
def keyOf (zs : List Int) (e : Ent) : List Int := (zs.drop e.ka.toNat).take (e.va.toNat - e.ka.toNat)

/-- The address of a cut. -/
def cutA (t : Option Addr) (ct A : Nat) : Option Addr := if ct = A then t else t.map fun x => ⟨x.block, x.off + A, none⟩

/-- The cut that is the key of an entry. -/
def keyV (t : Option Addr) (ct : Nat) (e : Ent) : Value := .slice (cutA t ct e.ka.toNat) (e.va.toNat - e.ka.toNat) (ct - e.ka.toNat)

theorem key_barg {w : World} {t : Option Addr} {lt ct : Nat} {zs : List Int} {e : Ent} (h : BArg w t lt zs) (y1 : e.ka ≤ e.va) (y2 : e.va ≤ lt) (k3 : 0 ≤ e.ka) (hcap : lt ≤ ct) :
    BArg w (cutA t ct e.ka.toNat) (e.va.toNat - e.ka.toNat) (keyOf zs e) := by
  obtain ⟨h1, h2, h3, h4⟩ := h
  refine ⟨by simp [keyOf]; omega, by omega, fun z hz => h3 z (List.mem_of_mem_drop (List.mem_of_mem_take hz)), fun hp => ?_⟩
  obtain ⟨b, off, rfl, hc⟩ := h4 (by omega)
  refine ⟨b, off + e.ka.toNat, by unfold cutA; rw [if_neg (by omega)]; rfl, fun k hk => ?_⟩
  rw [Nat.add_assoc, hc (e.ka.toNat + k) (by omega)]
  simp [keyOf, List.getD_eq_getElem?_getD, hk]

/-- The shape of an address that a clone gave. -/
def Shape (t : Option Addr) (ct : Nat) : Prop := (t = none ∧ ct = 0) ∨ ∃ g, t = some ⟨g, 0, none⟩

theorem keyV_nat (t : Option Addr) (ct : Nat) (e : Ent) (A V : Nat) (hA : e.ka = A) (hV : e.va = V) : keyV t ct e = .slice (cutA t ct A) (V - A) (ct - A) := by
  unfold keyV
  rw [hA, hV]
  simp

set_option maxHeartbeats 2000000 in
theorem key15 (a t : Option Addr) (len cap lt ct : Nat) (es : List Ent) (n : Nat) (w : World) (h : EArg w a len es) (x2 : n < len) (b1 : len ≤ 1048576) (b2 : lt ≤ 1048576) (hcap : lt ≤ ct) (hsh : Shape t ct)
    (y1 : (es.getD n e0).ka ≤ (es.getD n e0).va) (y2 : (es.getD n e0).va ≤ lt) :
    Calls Try.prog 15 #[.slice a len cap, .slice t lt ct, .int .i64 n] w fun e w' => e = .returned (keyV t ct (es.getD n e0)) ∧ Drew w w' := by
  obtain ⟨b, off, rfl, hc⟩ := h.2.2.2 (by omega)
  obtain ⟨⟨k1, k2⟩, ⟨k3, k4⟩, ⟨k5, k6⟩, _, _⟩ := h.entOk x2
  have hce := hc n x2
  obtain ⟨e, he⟩ : ∃ e, e = es.getD n e0 := ⟨_, rfl⟩
  rw [← he] at hce k1 k2 k3 k4 k5 k6 y1 y2 ⊢
  clear he hc h
  obtain ⟨c0, c1, c2, c3⟩ := hce
  obtain ⟨A, hA⟩ : ∃ A : Nat, e.ka = A := ⟨e.ka.toNat, by omega⟩
  obtain ⟨V, hV⟩ : ∃ V : Nat, e.va = V := ⟨e.va.toNat, by omega⟩
  rw [keyV_nat t ct e A V hA hV]
  rw [hA] at y1 c1 k3 k4
  rw [hV] at y1 y2 c2 k5 k6
  clear hA hV
  rcases hsh with ⟨rfl, rfl⟩ | ⟨g, rfl⟩
  · have hl0 : lt = 0 := by omega
    have hA0 : A = 0 := by omega
    have hV0 : V = 0 := by omega
    subst hl0 hA0 hV0
    go_enter Try.func15, Try.ntmps15
    go_wp2
    go_quiet (fail)
    go_wp2
    go_ret
    exact ⟨rfl, (Drew.refl _).drewN _⟩
  · by_cases hx : ct = A
    · rw [show cutA (some ⟨g, 0, none⟩) ct A = some ⟨g, 0, none⟩ from if_pos hx]
      subst hx
      go_enter Try.func15, Try.ntmps15
      go_wp2
      go_quiet (fail)
      go_wp2
      go_ret
      exact ⟨by simp, (Drew.refl _).drewN _⟩
    · rw [show cutA (some ⟨g, 0, none⟩) ct A = some ⟨g, 0 + A, none⟩ from if_neg hx]
      go_enter Try.func15, Try.ntmps15
      go_wp2
      go_quiet (fail)
      go_wp2
      go_ret
      exact ⟨by simp, (Drew.refl _).drewN _⟩
end Go.Proofs.Qxb6603491a
